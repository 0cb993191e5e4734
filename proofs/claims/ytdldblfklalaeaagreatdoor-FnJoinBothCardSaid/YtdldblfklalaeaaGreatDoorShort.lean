/-
  laws.partShort: whether all of some bytes are short.
-/
import Derived.Test.YtdldblfklalaeaaGreatDoorSa
namespace Go.Proofs.YtdldblfklalaeaaGreatDoor
open Go.RowKit Go.Proofs.YtdldblfklalaeaaGreatDoorW.PrintWords
set_option linter.unusedVariables false
set_option linter.unusedSimpArgs false
/-- A row of rows. -/
abbrev kBB : Kd (List UInt8) := Kd.slice 5 kB
/-- An element of a row of rows. -/
theorem CS_get {α : Type} {d : Kd α} {e : Nat} {w : World} {A : Option Addr} {n : Nat} {xss : List (List α)} (h : (Kd.slice e d).C w A n xss) (k : Nat) (hk : k < xss.length) :
    ∃ ad B c, A = some ad ∧ w.cell? (ad.add k) = some (.slice B xss[k].length c) ∧ xss[k].length ≤ c ∧ d.C w B xss[k].length xss[k] := by
  obtain ⟨ad, c, e', hl, hK, hc⟩ := Kd.C_get h xss[k] (k : Int) (by omega) (by have := h.1; omega)
  simp only [Int.toNat_natCast, List.getD_eq_getElem?_getD, List.getElem?_eq_getElem hk, Option.getD_some] at hK hc
  obtain ⟨B, cc, rfl, hle, hC⟩ := hK
  refine ⟨ad, B, cc, e', ?_, hle, hC⟩
  have := hc 0 _ rfl
  have e1 : k * (Kd.slice e d).sz + 0 = k := by show k * 1 + 0 = k; omega
  rwa [e1] at this
/-- A literal of slices that are read. -/
structure RdS (w : World) (v : Value) (xs : List UInt8) : Prop where
  out : ∃ A c, v = .slice A xs.length c ∧ xs.length ≤ c ∧ kB.C w A xs.length xs
theorem RdS.mk' {w : World} {A : Option Addr} {n c : Nat} {xs : List UInt8} (h : kB.C w A n xs) (hle : n ≤ c) : RdS w (.slice A n c) xs := by
  obtain rfl := h.1
  exact ⟨A, c, rfl, hle, h⟩
theorem CS_lit (w : World) (e g : Nat) (hg : w.heap.size = g) (vs : List Value) (xss : List (List UInt8)) (hl : vs.length = xss.length) (hm : xss.length ≤ 1000) (h : ∀ k, (hk : k < xss.length) → RdS w (vs[k]'(by omega)) xss[k]) :
    kBB.C (w.alloc (.cells vs.toArray e)) (some ⟨g, 0, none⟩) xss.length xss := by
  subst hg
  refine ⟨rfl, by omega, fun hn => ⟨_, rfl, fun j p hj => ?_⟩⟩
  have hjl := (List.getElem?_eq_some_iff.1 hj).1
  have hjp := (List.getElem?_eq_some_iff.1 hj).2
  obtain ⟨A, c, hv, hle, hC⟩ := (h j hjl).out
  rw [hjp] at hv hle hC
  refine ⟨[vs[j]'(by omega)], rfl, ⟨A, c, by rw [hv], hle, Kd.C_below hC ((Below.refl _ _).alloc (Nat.le_refl _) _)⟩, fun i u hu => ?_⟩
  cases i with
  | zero =>
    have hu' : vs[j]'(by omega) = u := by simpa using hu
    have e1 : j * (Kd.slice 5 kB).sz + 0 = j := by show j * 1 + 0 = j; omega
    rw [e1, add_plain, World.cell?_alloc_at _ _ _ _ rfl]
    simp [List.getElem?_eq_getElem (show j < vs.length by omega), hu']
  | succ i => simp at hu
def shortOk (xss : List (List UInt8)) : Bool := xss.all fun b => decide (b.length ≤ 2000)
theorem shortOk_false {xss : List (List UInt8)} {k : Nat} (hk : k < xss.length) (h : 2000 < xss[k].length) : shortOk xss = false := by
  unfold shortOk
  rw [Bool.eq_false_iff]
  intro ha
  have := List.all_eq_true.1 ha _ (List.getElem_mem hk)
  simp at this
  omega
theorem shortOk_true {xss : List (List UInt8)} (h : ∀ k, (hk : k < xss.length) → xss[k].length ≤ 2000) : shortOk xss = true := by
  unfold shortOk
  rw [List.all_eq_true]
  intro x hx
  obtain ⟨k, hk, rfl⟩ := List.getElem_of_mem hx
  exact decide_eq_true (h k hk)
structure ShortTo (xss : List (List UInt8)) (k : Nat) : Prop where
  out : ∀ j, (hj : j < xss.length) → j < k → xss[j].length ≤ 2000
set_option maxHeartbeats 1000000 in
theorem short_any (w : World) (A : Option Addr) (n c : Nat) (xss : List (List UInt8)) (hC : kBB.C w A n xss) :
    Calls Tryz.prog 33 #[.slice A n c] w fun e w' => e = .returned (.bool (shortOk xss)) ∧ w = w' := by
  obtain rfl := hC.1
  have hx : xss.length ≤ 9223372036854775807 := hC.2.1
  go_enter Tryz.func33, Tryz.ntmps33
  go_wp2
  go_loop [7] (fun i => ∃ k : Nat, k ≤ xss.length ∧ i = .int .i64 k ∧ ShortTo xss k) (fun i => xss.length - (intOf i).toNat)
  case atStart => exact ⟨0, Nat.zero_le _, rfl, ⟨fun j hj h => absurd h (Nat.not_lt_zero _)⟩⟩
  case round =>
    obtain ⟨k, hk, rfl, hT⟩ := hrel
    by_cases hlt : k < xss.length
    · obtain ⟨ad, B, cc, rfl, e1, hle, hCk⟩ := CS_get hC k hlt
      clear hC hCk
      by_cases h2 : 2000 < xss[k].length
      · have HF := Aside0.mk (shortOk_false hlt h2)
        go_wp2
        go_ret
        exact ⟨by rw [HF.out]; rfl, rfl⟩
      · have h3 : xss[k].length ≤ 2000 := by omega
        have HT : Aside0 (ShortTo xss (k + 1)) := ⟨⟨fun j hj hjk => by
          rcases Nat.lt_or_ge j k with h | h
          · exact hT.out j hj h
          · obtain rfl : j = k := by omega
            exact h3⟩⟩
        clear hT h3
        go_wp2
        go_round
        case rel => exact ⟨k + 1, hlt, by go_num, HT.out⟩
        case measure => simp [intOf]; omega
    · have HF := Aside0.mk (shortOk_true (fun j hj => hT.out j hj (by omega)))
      clear hT hC
      go_wp2
      go_ret
      exact ⟨by rw [HF.out]; rfl, rfl⟩
end Go.Proofs.YtdldblfklalaeaaGreatDoor
