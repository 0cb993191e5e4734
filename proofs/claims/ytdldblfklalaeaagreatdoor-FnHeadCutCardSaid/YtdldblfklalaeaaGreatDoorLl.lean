/-
  impl.HeadList: its contract; what the reader says of a list.
-/
import Derived.Test.YtdldblfklalaeaaGreatDoorLs
import Derived.Test.YtdldblfklalaeaaGreatDoorFl
namespace Go.Proofs.YtdldblfklalaeaaGreatDoor
open Go.RowKit Go.Proofs.YtdldblfklalaeaaGreatDoorW.PrintWords Go.ChangeShapes Go.WideShapes
set_option linter.unusedVariables false
set_option linter.unusedSimpArgs false
set_option maxRecDepth 100000
/-- What HeadList answers. -/
def GetList (w' : World) (r : Option (List ByteArray)) (e : Ending) : Prop := ∃ A c, e = .returned (.tuple #[.slice A (r.getD []).length c, .bool r.isSome]) ∧ (r.getD []).length ≤ c ∧ Kd.string.C w' A (r.getD []).length (r.getD [])
theorem headList_any (s key : Bs) (w : World) (n c : Nat) (A : Option Addr) (hs : s.length ≤ 900000000000) (hn : n ≤ 900000000000) (hT : kB.C w A n s) (hf : FitO (pTop s)) :
    Calls Tryz.prog 26 #[.slice A n c, .string (bStr key)] w fun e w' => GetList w' (listT (pTop s) key) e ∧ Below w.heap.size w w' := by
  have HH := Aside0.mk (head_any s w n c A hs hn hT)
  have HS := Aside0.mk (fun (w1 : World) (g : Nat) (h : HdrAt w.heap.size w1 g (pTop s)) (hB : w.heap.size ≤ w1.heap.size) => harr_any w1 g w.heap.size (pTop s) key h hB hf)
  obtain ⟨r, hr⟩ : ∃ r, r = listT (pTop s) key := ⟨_, rfl⟩
  rw [← hr] at HS ⊢
  obtain ⟨t, ht⟩ : ∃ t, t = pTop s := ⟨_, rfl⟩
  rw [← ht] at HH HS
  obtain ⟨k, hk⟩ : ∃ k, k = bStr key := ⟨_, rfl⟩
  rw [← hk] at HS ⊢
  clear hs hn hT hf hr ht hk
  go_enter Tryz.func26, Tryz.ntmps26
  go_wp2_with fail
  refine HH.out.mono ?_
  rintro e w1 ⟨g, rfl, hb, hd⟩
  have HS1 := Aside0.mk (HS.out w1 g hd hb.size)
  have HB := Aside0.mk hb
  clear hb hd
  go_wp2_with fail
  refine HS1.out.mono ?_
  cases r with
  | none =>
    rintro e w2 ⟨⟨T, x, rfl⟩, hb2⟩
    have HB2 := Aside0.mk hb2
    clear hb2
    go_wp2
    go_quiet (fail)
    go_wp2
    go_ret2
    exact ⟨⟨none, 0, rfl, Nat.le_refl _, rfl, by decide, fun h => absurd h (Nat.lt_irrefl _)⟩, endB (HB.out.trans HB2.out) _⟩
  | some q =>
    rintro e w2 ⟨⟨A2, c2, rfl, hle2, hC2⟩, hb2⟩
    have HB2 := Aside0.mk hb2
    have HC2 := Aside0.mk (fun n => Kd.C_below hC2 ((Hold.start w2).drewN n).below)
    clear hb2 hC2
    go_wp2
    go_quiet (fail)
    go_wp2
    go_ret2
    exact ⟨⟨A2, c2, rfl, hle2, HC2.out _⟩, endB (HB.out.trans HB2.out) _⟩
/-- What the reader says of a list, and what the law looks for. -/
theorem list_told {l : List Hf} {x : Nat} (hg : l.length ≤ 30 ∧ (∀ f ∈ l, FOk f) ∧ (l.map (·.1)).Nodup) {s : ByteArray} {f : Hf} {b : Bool} (h : FindIs l s f b) :
    (b = true ∧ (f.2.1 = 4 ∨ (f.2.1 = 6 ∧ f.2.2.2.2.2.2.length = 0)) ∧ listT (pTop (headF l x)) s.data.toList = some f.2.2.2.2.2.2) ∨ ((b = false ∨ (b = true ∧ f.2.1 ≠ 4 ∧ (f.2.1 ≠ 6 ∨ f.2.2.2.2.2.2.length ≠ 0))) ∧ listT (pTop (headF l x)) s.data.toList = none) := by
  obtain ⟨h1, h2, h3⟩ := head_told l x hg.2.1 hg.2.2
  rcases h with ⟨rfl, hm, rfl⟩ | ⟨rfl, rfl, hno⟩
  · obtain ⟨v, hv, hi⟩ := h2 f hm
    have hok := hg.2.1 f hm
    have hk0 := hok.k0
    have hk6 := hok.k6
    unfold listT
    rw [hv]
    unfold IsVal at hi
    by_cases hk : f.2.1 = 4 ∨ f.2.1 = 6
    · rw [if_neg (by omega), if_neg (by omega), if_neg (by omega), if_neg (by omega), if_neg (by omega)] at hi
      obtain ⟨xs, rfl, hxl, hx⟩ := hi
      by_cases h4 : f.2.1 = 4
      · have hit : ∀ i, (hi : i < xs.length) → isStr xs[i] = true ∧ strB xs[i] = f.2.2.2.2.2.2[i]'(by omega) := fun i hi => by
          have hi2 : i < f.2.2.2.2.2.2.length := by omega
          have h5 := hx i _ _ (List.getElem?_eq_getElem hi2) (List.getElem?_eq_getElem hi)
          rw [if_pos h4] at h5
          obtain ⟨raw, e, hp, _⟩ := h5
          rw [e]
          refine ⟨rfl, ?_⟩
          show bStr (unesc raw) = _
          rw [hp.unesc]
          exact (hok.list _ (List.getElem_mem hi2)).eq.symm
        refine .inl ⟨rfl, .inl h4, ?_⟩
        have hall : xs.all isStr = true := List.all_eq_true.2 fun y hy => by
          obtain ⟨i, hi, rfl⟩ := List.getElem_of_mem hy
          exact (hit i hi).1
        show (if xs.all isStr = true then some (xs.map strB) else none) = _
        rw [if_pos hall]
        refine congrArg some (List.ext_getElem (by simp [hxl]) fun i a b => ?_)
        rw [List.length_map] at a
        rw [List.getElem_map]
        exact (hit i a).2
      · have h6 : f.2.1 = 6 := by omega
        by_cases hl : f.2.2.2.2.2.2.length = 0
        · refine .inl ⟨rfl, .inr ⟨h6, hl⟩, ?_⟩
          obtain rfl : xs = [] := List.eq_nil_of_length_eq_zero (by omega)
          rw [List.eq_nil_of_length_eq_zero hl]
          rfl
        · refine .inr ⟨.inr ⟨rfl, h4, .inr hl⟩, ?_⟩
          have h5 := hx 0 _ _ (List.getElem?_eq_getElem (by omega)) (List.getElem?_eq_getElem (by omega))
          rw [if_neg h4] at h5
          obtain ⟨d, e⟩ := h5
          show (if xs.all isStr = true then some (xs.map strB) else none) = _
          rw [if_neg]
          intro hall
          have := List.all_eq_true.1 hall _ (List.getElem_mem (show 0 < xs.length by omega))
          rw [e] at this
          cases this
    · refine .inr ⟨.inr ⟨rfl, by omega, .inl (by omega)⟩, ?_⟩
      split at hi
      · subst hi; rfl
      · split at hi
        · split at hi <;> (subst hi; rfl)
        · split at hi
          · subst hi; rfl
          · split at hi
            · obtain ⟨_, rfl, _⟩ := hi; rfl
            · split at hi
              · obtain ⟨_, rfl⟩ := hi; rfl
              · omega
  · refine .inr ⟨.inl rfl, ?_⟩
    unfold listT
    rw [h3 s hno]
end Go.Proofs.YtdldblfklalaeaaGreatDoor
