/-
  Fields with the three words of their lists: rows of them, read and owned.
-/
import Derived.Test.YtldbelghobohiaaGreatClaimF
namespace Go.Proofs.YtldbelghobohiaaGreat
open Go.RowKit Go.Proofs.YtldbelghobohiaaGreatW.PrintWords Go.ChangeShapes Go.WideShapes
set_option linter.unusedVariables false
set_option linter.unusedSimpArgs false
/-- Elements that are so many cells, each as it is. -/
def flatK {α : Type} (enc : α → List Value) (n : Nat) (hl : ∀ x, (enc x).length = n) (h1 : ∀ x, ∀ u ∈ enc x, u.oneCell' = true) : Kd α where
  sz := n
  E := []
  K := fun _ x cs => cs = enc x
  M := fun _ _ _ x cs => cs = enc x
  K_len := by rintro _ x _ rfl; exact hl x
  K_one := by rintro _ x _ rfl; exact h1 x
  K_below := fun _ h => h
  K_of_M := fun h => h
  M_mono := fun _ h => h
  M_bound := fun h => h
  M_move := fun _ h => h
  M_lower := fun _ h => h
/-- A field, and the slice's words that stand for its list. -/
abbrev Fg := Fd × Option Addr × Nat × Nat
def fgV (x : Fg) : List Value := [.string x.1.1, .int .i64 x.1.2.1, .string x.1.2.2.1, .bool x.1.2.2.2.1, .int .i32 x.1.2.2.2.2.1, .slice x.2.1 x.2.2.1 x.2.2.2]
theorem fgV_len (x : Fg) : (fgV x).length = 6 := rfl
theorem fgV_one (x : Fg) : ∀ u ∈ fgV x, u.oneCell' = true := by
  intro u hu
  simp only [fgV, List.mem_cons, List.not_mem_nil, or_false] at hu
  rcases hu with rfl | rfl | rfl | rfl | rfl | rfl <;> rfl
abbrev kFg : Kd Fg := flatK fgV 6 fgV_len fgV_one
/-- The list that the words stand for, read. -/
structure LstOk (w : World) (x : Fg) : Prop where
  out : LstIs w (.slice x.2.1 x.2.2.1 x.2.2.2) x.1.2.2.2.2.2
theorem LstOk.below {w w' : World} {x : Fg} (h : LstOk w x) (hb : Below w.heap.size w w') : LstOk w' x := ⟨h.out.below hb⟩
structure AllLst (w : World) (gs : List Fg) : Prop where
  out : ∀ x ∈ gs, LstOk w x
theorem AllLst.below {w w' : World} {gs : List Fg} (h : AllLst w gs) (hb : Below w.heap.size w w') : AllLst w' gs := ⟨fun x hx => (h.out x hx).below hb⟩
theorem AllLst.sub {w : World} {gs hs : List Fg} (h : AllLst w gs) (hsub : ∀ x ∈ hs, x ∈ gs) : AllLst w hs := ⟨fun x hx => h.out x (hsub x hx)⟩
theorem AllLst.app {w : World} {gs hs : List Fg} (h : AllLst w gs) (k : AllLst w hs) : AllLst w (gs ++ hs) := ⟨fun x hx => by
  rcases List.mem_append.1 hx with hx | hx
  · exact h.out x hx
  · exact k.out x hx⟩
theorem exists_list {α γ : Type} (T : Nat → α → γ → Prop) : ∀ (xs : List α), (∀ j x, xs[j]? = some x → ∃ g, T j x g) → ∃ gs : List γ, gs.length = xs.length ∧ ∀ j x, xs[j]? = some x → ∃ g, gs[j]? = some g ∧ T j x g
  | xs, h => by
    induction xs generalizing T with
    | nil => exact ⟨[], rfl, fun j x hx => by simp at hx⟩
    | cons y r ih =>
      obtain ⟨g, hg⟩ := h 0 y rfl
      obtain ⟨gs, hl, hgs⟩ := ih (fun j => T (j + 1)) (fun j x hx => h (j + 1) x (by simpa using hx))
      refine ⟨g :: gs, by simp [hl], fun j x hx => ?_⟩
      cases j with
      | zero =>
        obtain rfl : y = x := by simpa using hx
        exact ⟨g, rfl, hg⟩
      | succ j =>
        obtain ⟨g', h1, h2⟩ := hgs j x (by simpa using hx)
        exact ⟨g', by simpa using h1, h2⟩
/-- A row that is read, with more known of each element. -/
theorem rows_more {α γ : Type} {R : α → List Value → Prop} {R' : γ → List Value → Prop} {size : Nat} {w : World} {A : Option Addr} {n : Nat} {xs : List α} (proj : γ → α) (Pr : γ → Prop)
    (hR : ∀ x c, R x c → ∃ g, proj g = x ∧ R' g c ∧ Pr g) (h : ReadsRow R size w A n xs) : ∃ gs : List γ, gs.map proj = xs ∧ ReadsRow R' size w A n gs ∧ ∀ g ∈ gs, Pr g := by
  rcases Nat.eq_zero_or_pos n with hz | hp
  · have hx : xs = [] := List.eq_nil_of_length_eq_zero (h.1.trans hz)
    subst hx
    exact ⟨[], rfl, ⟨h.1, h.2.1, fun hn => absurd hn (by omega)⟩, fun g hg => by simp at hg⟩
  · obtain ⟨ad, e, hc⟩ := h.2.2 hp
    obtain ⟨gs, hl, hgs⟩ := exists_list (fun j x g => proj g = x ∧ Pr g ∧ ∃ c, c.length = size ∧ R' g c ∧ ∀ i u, c[i]? = some u → w.cell? (ad.add (j * size + i)) = some u) xs (fun j x hx => by
      obtain ⟨c, h1, h2, h3⟩ := hc j x hx
      obtain ⟨g, hg1, hg2, hg3⟩ := hR x c h2
      exact ⟨g, hg1, hg3, c, h1, hg2, h3⟩)
    have hat : ∀ j g, gs[j]? = some g → ∃ x, xs[j]? = some x ∧ proj g = x ∧ Pr g ∧ ∃ c, c.length = size ∧ R' g c ∧ ∀ i u, c[i]? = some u → w.cell? (ad.add (j * size + i)) = some u := by
      intro j g hg
      have hj : j < xs.length := by rw [← hl]; exact (List.getElem?_eq_some_iff.1 hg).1
      obtain ⟨g', h1, h2⟩ := hgs j xs[j] (List.getElem?_eq_getElem hj)
      obtain rfl : g' = g := by rw [h1] at hg; injection hg
      exact ⟨xs[j], List.getElem?_eq_getElem hj, h2⟩
    refine ⟨gs, ?_, ⟨hl.trans h.1, h.2.1, fun _ => ⟨ad, e, fun j g hg => ?_⟩⟩, fun g hg => ?_⟩
    · apply List.ext_getElem?
      intro j
      rw [List.getElem?_map]
      rcases Nat.lt_or_ge j xs.length with hj | hj
      · obtain ⟨g, h1, h2, _⟩ := hgs j xs[j] (List.getElem?_eq_getElem hj)
        rw [h1, List.getElem?_eq_getElem hj, Option.map_some, h2]
      · rw [List.getElem?_eq_none (by omega), List.getElem?_eq_none (by omega)]
        rfl
    · obtain ⟨x, _, _, _, h4⟩ := hat j g hg
      exact h4
    · obtain ⟨j, hj⟩ := List.getElem?_of_mem hg
      obtain ⟨x, _, _, h3, _⟩ := hat j g hj
      exact h3
theorem rows_less {α γ : Type} {R : α → List Value → Prop} {R' : γ → List Value → Prop} {size : Nat} {w : World} {A : Option Addr} {n : Nat} {gs : List γ} (proj : γ → α)
    (hR : ∀ g ∈ gs, ∀ c, R' g c → R (proj g) c) (h : ReadsRow R' size w A n gs) : ReadsRow R size w A n (gs.map proj) := by
  refine ⟨by rw [List.length_map]; exact h.1, h.2.1, fun hn => ?_⟩
  obtain ⟨ad, e, hc⟩ := h.2.2 hn
  refine ⟨ad, e, fun j x hx => ?_⟩
  rw [List.getElem?_map] at hx
  cases hg : gs[j]? with
  | none => rw [hg] at hx; cases hx
  | some g =>
    rw [hg] at hx
    obtain rfl : proj g = x := by simpa using hx
    obtain ⟨c, h1, h2, h3⟩ := hc j g hg
    exact ⟨c, h1, hR g (List.mem_of_getElem? hg) c h2, h3⟩
theorem fg_of {w : World} {A : Option Addr} {n : Nat} {xs : List Fd} (h : kFd.C w A n xs) : ∃ gs : List Fg, gs.map (·.1) = xs ∧ kFg.C w A n gs ∧ AllLst w gs := by
  obtain ⟨gs, h1, h2, h3⟩ := rows_more (R' := kFg.K w) (γ := Fg) (·.1) (LstOk w) (fun x c hK => by
    obtain ⟨v, rfl, hL⟩ := kFd_open hK
    obtain ⟨A, c, rfl, h2, h3⟩ := hL.out
    exact ⟨(x, A, x.2.2.2.2.2.length, c), rfl, rfl, ⟨⟨A, c, rfl, h2, h3⟩⟩⟩) h
  exact ⟨gs, h1, h2, ⟨h3⟩⟩
theorem fg_fd {w : World} {A : Option Addr} {n : Nat} {gs : List Fg} (h : kFg.C w A n gs) (hL : AllLst w gs) : kFd.C w A n (gs.map (·.1)) :=
  rows_less (R := kFd.K w) (R' := kFg.K w) (size := 6) (fun x : Fg => x.1) (fun g hg c hc => by
    have hc' : c = fgV g := hc
    subst hc'
    exact kFd_mk (hL.out g hg).out) h
/-- An element of such a row, as the walk names its cells. -/
theorem CG_get {w : World} {A : Option Addr} {n : Nat} {gs : List Fg} (h : kFg.C w A n gs) (k : Nat) (hk : k < gs.length) :
    ∃ ad, A = some ad ∧ w.cell? (ad.add (k * 6)) = some (.string gs[k].1.1) ∧ w.cell? ⟨(ad.add (k * 6)).block, (ad.add (k * 6)).off + 1, none⟩ = some (.int .i64 gs[k].1.2.1) ∧ w.cell? ⟨(ad.add (k * 6)).block, (ad.add (k * 6)).off + 2, none⟩ = some (.string gs[k].1.2.2.1) ∧
      w.cell? ⟨(ad.add (k * 6)).block, (ad.add (k * 6)).off + 3, none⟩ = some (.bool gs[k].1.2.2.2.1) ∧ w.cell? ⟨(ad.add (k * 6)).block, (ad.add (k * 6)).off + 4, none⟩ = some (.int .i32 gs[k].1.2.2.2.2.1) ∧ w.cell? ⟨(ad.add (k * 6)).block, (ad.add (k * 6)).off + 5, none⟩ = some (.slice gs[k].2.1 gs[k].2.2.1 gs[k].2.2.2) := by
  obtain ⟨ad, c, e, hl, hK, hc⟩ := C_cells h k hk
  have hK' : c = fgV gs[k] := hK
  subst hK'
  exact ⟨ad, e, hc 0 _ rfl, hc 1 _ rfl, hc 2 _ rfl, hc 3 _ rfl, hc 4 _ rfl, hc 5 _ rfl⟩
section
variable {w0 w : World} {B : Nat} {L : List Asrt} {α : Type} {d : Kd α} {e g n cap : Nat} {xs : List α}
/-- A whole element is written. -/
theorem Hold.setElem (hS : Hold w0 B w L) (i : Nat) (hi : L[i]? = some (.row d e (.slice (some ⟨g, 0, none⟩) n cap) xs)) (k : Nat) (hk : k < n) (x' : α) (seg : List Value) (hl : seg.length = d.sz) (hM : d.M w 0 (fun _ => False) x' seg) :
    Hold w0 B (w.setCells g (k * d.sz) seg) (L.set i (.row d e (.slice (some ⟨g, 0, none⟩) n cap) (xs.set k x'))) := by
  obtain ⟨f, hp, hb, hF⟩ := hS.focus i hi
  obtain ⟨A, c, he, _, hC⟩ := hS.reads i hi
  injection he with hA hn hc
  subst hA; subst hn
  obtain ⟨ad, cs, hA, hcl, hK, hcc⟩ := Kd.C_get hC xs[k] (k : Int) (by omega) (by omega)
  injection hA with hA
  subst hA
  have h := Kd.R_seg hp (k : Int) (by omega) (by omega) (c := cs) (seg := seg) (j := 0) hcl (fun j u hu => by
      have := hcc j u hu
      simp only [Int.toNat_natCast] at this
      rw [WideShapes.add_plain, Nat.zero_add] at this
      exact this) (show 0 + seg.length ≤ d.sz by omega) (okp := fun _ => False) (x' := x') (by
    rw [List.take_zero, List.nil_append, List.drop_eq_nil_of_le (by omega), List.append_nil]
    exact hM) (fun _ h => h.elim)
  simp only [Int.toNat_natCast, Nat.add_zero] at h
  exact hF _ _ f h.1 (fun k h => .inl h) (Chg.of_grown h.2 (fun k e => by injection e with e; subst e; exact hp.1 _ (by simp [Value.ownBlock])))
/-- The first ones alone. -/
theorem Hold.rowTake (hS : Hold w0 B w L) (i : Nat) (hi : L[i]? = some (.row d e (.slice (some ⟨g, 0, none⟩) n cap) xs)) (k : Nat) (hk : k ≤ n) :
    Hold w0 B w (L.set i (.row d e (.slice (some ⟨g, 0, none⟩) k cap) (xs.take k))) := by
  obtain ⟨f, hp, hb, hF⟩ := hS.focus i hi
  refine hF w _ f ?_ (fun k h => .inl h) ⟨rfl, rfl, rfl, Nat.le_refl _, fun _ _ _ => rfl⟩
  obtain ⟨h0, inner, ho, hr⟩ := hp
  have hlen := hr.1
  obtain ⟨hn, ho⟩ := ho
  rcases ho with ⟨hv, _⟩ | ⟨g', cap', cur, hv, hb0, hh, hnc, hcm, hcs, htk⟩
  · cases hv
  · injection hv with ha hnn hc
    have hkl : k ≤ xs.length := by omega
    have hmul : k * d.sz ≤ xs.length * d.sz := Nat.mul_le_mul_right _ hkl
    have hlt : (xs.take k).length = k := by rw [List.length_take]; omega
    refine ⟨fun j hj => h0 j (by simpa [Value.ownBlock] using hj), inner.take (k * d.sz), ⟨?_, .inr ⟨g', cap', cur, ?_, hb0, hh, by omega, hcm, hcs, ?_⟩⟩, ?_, ?_⟩
    · rw [List.length_take, hlt, hlen]; omega
    · rw [hlt, ha, hc]
    · rw [hlt, ← htk, List.take_take, Nat.min_eq_left hmul]
    · rw [List.length_take, hlt, hlen]; omega
    · intro j p hj
      have hjk : j < k := by have := (List.getElem?_eq_some_iff.1 hj).1; omega
      rw [List.getElem?_take, if_pos hjk] at hj
      have h1 := hr.2 j p hj
      have h2 : j * d.sz + d.sz ≤ k * d.sz := by rw [← Nat.succ_mul]; exact Nat.mul_le_mul_right _ hjk
      have e1 : List.take d.sz (List.drop (j * d.sz) (inner.take (k * d.sz))) = List.take d.sz (List.drop (j * d.sz) inner) := by
        rw [List.drop_take, List.take_take, Nat.min_eq_left (by omega)]
      rw [e1]
      exact d.M_mono (fun b hb => by simpa [Value.ownBlock] using hb) h1
end
end Go.Proofs.YtldbelghobohiaaGreat
