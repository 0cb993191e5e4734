/-
  FnClaimAlone: what its lists come to. No program in sight but for the words.
-/
import Derived.Test.YtldbelghobohiaaGreatDelG
import Derived.Test.YtldbelghobohiaaGreatFill
namespace Go.Proofs.YtldbelghobohiaaGreat
open Go.RowKit Go.Proofs.YtldbelghobohiaaGreatW.PrintWords Go.ChangeShapes Go.WideShapes
set_option linter.unusedVariables false
set_option linter.unusedSimpArgs false
set_option maxRecDepth 100000
def mk (s t : ByteArray) : Fg := ((s, 0, t, false, 0, []), none, 0, 0)
def lX : ByteArray := ⟨#[120]⟩
theorem mk_ok (w : World) (s t : ByteArray) : LstOk w (mk s t) := ⟨⟨none, 0, rfl, Nat.le_refl _, rfl, Nat.zero_le _, fun h => absurd h (Nat.lt_irrefl _)⟩⟩
theorem last_keep {l : ByteArray} (hl : isOwn l = true) : ∀ (gs : List Fg), (∀ x ∈ gs, notOwn x = true) → ∀ cur, (gs.map (·.1)).foldl (fun cur f => txStep l f.1 f.2 cur) cur = cur
  | [], _, _ => rfl
  | x :: r, h, cur => by
    have h1 := h x (by simp)
    have hne : x.1.1 ≠ l := by
      rintro rfl
      unfold notOwn at h1
      rw [hl] at h1
      cases h1
    rw [List.map_cons, List.foldl_cons, txStep_other hne]
    exact last_keep hl r (fun y hy => h y (by simp [hy])) cur
/-- The fields that are set: the others, and between them the three. -/
def threeIn (o : List Fg) (k : Nat) (iss sub jti : ByteArray) : List Fg := o.take k ++ [mk lJ jti, mk lI iss] ++ o.drop k ++ [mk lS sub]
theorem last_three (gs : List Fg) (k : Nat) (iss sub jti : ByteArray) : lastT lI ((threeIn (gs.filter notOwn) k iss sub jti).map (·.1)) = some iss ∧ lastT lS ((threeIn (gs.filter notOwn) k iss sub jti).map (·.1)) = some sub ∧ lastT lJ ((threeIn (gs.filter notOwn) k iss sub jti).map (·.1)) = some jti := by
  have ho : ∀ x ∈ gs.filter notOwn, notOwn x = true := fun x hx => (List.mem_filter.1 hx).2
  have h1 : ∀ x ∈ (gs.filter notOwn).take k, notOwn x = true := fun x hx => ho x (List.mem_of_mem_take hx)
  have h2 : ∀ x ∈ (gs.filter notOwn).drop k, notOwn x = true := fun x hx => ho x (List.mem_of_mem_drop hx)
  have key : ∀ l, isOwn l = true → lastT l ((threeIn (gs.filter notOwn) k iss sub jti).map (·.1)) = txStep l lS (mk lS sub).1.2 (txStep l lI (mk lI iss).1.2 (txStep l lJ (mk lJ jti).1.2 none)) := by
    intro l hl
    unfold lastT threeIn
    rw [List.map_append, List.map_append, List.map_append, List.foldl_append, List.foldl_append, List.foldl_append, last_keep hl _ h1]
    show List.foldl _ (List.foldl _ (txStep l lI (mk lI iss).1.2 (txStep l lJ (mk lJ jti).1.2 none)) _) _ = _
    rw [last_keep hl _ h2]
    rfl
  refine ⟨?_, ?_, ?_⟩
  · rw [key lI (by decide), txStep_other (by decide), txStep_hit rfl]; rfl
  · rw [key lS (by decide), txStep_hit rfl]; rfl
  · rw [key lJ (by decide), txStep_other (by decide), txStep_other (by decide), txStep_hit rfl]; rfl
theorem last_none (gs : List Fg) : lastT lI ((gs.filter notOwn).map (·.1)) = none ∧ lastT lS ((gs.filter notOwn).map (·.1)) = none ∧ lastT lJ ((gs.filter notOwn).map (·.1)) = none := by
  have ho : ∀ x ∈ gs.filter notOwn, notOwn x = true := fun x hx => (List.mem_filter.1 hx).2
  exact ⟨last_keep (by decide) _ ho none, last_keep (by decide) _ ho none, last_keep (by decide) _ ho none⟩
structure Short3 (gs : List Fg) : Prop where
  len : gs.length ≤ 97
  mild : Mild gs
theorem short3_of (gs : List Fg) (a b c : ByteArray) (h : mapShortB 2 ((gs ++ [mk lX a, mk lX b, mk lX c]).map (·.1)) = true) : Short3 gs := by
  unfold mapShortB at h
  rw [Bool.and_eq_true] at h
  obtain ⟨h1, h2⟩ := h
  have h1' := of_decide_eq_true h1
  rw [List.length_map, List.length_append] at h1'
  refine ⟨by simp at h1'; omega, ⟨fun x hx => ?_⟩⟩
  rw [List.all_eq_true] at h2
  have h3 := h2 x.1 (List.mem_map_of_mem (List.mem_append_left _ hx))
  unfold fldShort at h3
  simp only [Bool.and_eq_true] at h3
  exact ⟨of_decide_eq_true h3.1.1.1.1.1.1, of_decide_eq_true h3.1.1.1.1.2⟩
theorem Mild.sub {gs hs : List Fg} (h : Mild gs) (hs2 : ∀ x ∈ hs, x ∈ gs) : Mild hs := ⟨fun x hx => h.out x (hs2 x hx)⟩
theorem Mild.app {gs hs : List Fg} (h : Mild gs) (k : Mild hs) : Mild (gs ++ hs) := ⟨fun x hx => by
  rcases List.mem_append.1 hx with hx | hx
  · exact h.out x hx
  · exact k.out x hx⟩
theorem mild_three {gs : List Fg} (h : Mild gs) (k : Nat) (iss sub jti : ByteArray) : Mild (threeIn (gs.filter notOwn) k iss sub jti) := by
  have h1 : Mild (gs.filter notOwn) := h.sub (fun x hx => (List.mem_filter.1 hx).1)
  refine Mild.app (Mild.app (Mild.app (h1.sub fun x hx => List.mem_of_mem_take hx) ?_) (h1.sub fun x hx => List.mem_of_mem_drop hx)) ?_
  · refine ⟨fun x hx => ?_⟩
    simp only [List.mem_cons, List.not_mem_nil, or_false] at hx
    rcases hx with rfl | rfl
    · exact ⟨show lJ.size ≤ 100 by decide, Nat.zero_le _⟩
    · exact ⟨show lI.size ≤ 100 by decide, Nat.zero_le _⟩
  · refine ⟨fun x hx => ?_⟩
    simp only [List.mem_cons, List.not_mem_nil, or_false] at hx
    subst hx
    exact ⟨show lS.size ≤ 100 by decide, Nat.zero_le _⟩
theorem lst_three {w : World} {gs : List Fg} (h : AllLst w gs) (k : Nat) (iss sub jti : ByteArray) : AllLst w (threeIn (gs.filter notOwn) k iss sub jti) := by
  have h1 : AllLst w (gs.filter notOwn) := h.sub (fun x hx => (List.mem_filter.1 hx).1)
  refine AllLst.app (AllLst.app (AllLst.app (h1.sub fun x hx => List.mem_of_mem_take hx) ?_) (h1.sub fun x hx => List.mem_of_mem_drop hx)) ?_
  · refine ⟨fun x hx => ?_⟩
    simp only [List.mem_cons, List.not_mem_nil, or_false] at hx
    rcases hx with rfl | rfl <;> exact mk_ok _ _ _
  · refine ⟨fun x hx => ?_⟩
    simp only [List.mem_cons, List.not_mem_nil, or_false] at hx
    subst hx
    exact mk_ok _ _ _
theorem len_three (gs : List Fg) (k : Nat) (iss sub jti : ByteArray) : (threeIn (gs.filter notOwn) k iss sub jti).length ≤ gs.length + 3 := by
  unfold threeIn
  have := List.length_filter_le notOwn gs
  simp only [List.length_append, List.length_take, List.length_drop, List.length_cons, List.length_nil]
  omega
/-- The beginning and the end of a row that is read. -/
theorem CG_take {w : World} {A : Option Addr} {n : Nat} {gs : List Fg} (h : kFg.C w A n gs) (k : Nat) (hk : k ≤ n) : kFg.C w A k (gs.take k) := by
  refine ⟨by rw [List.length_take, h.1]; omega, by have := h.2.1; omega, fun hn => ?_⟩
  obtain ⟨ad, e, hc⟩ := h.2.2 (by omega)
  refine ⟨ad, e, fun j p hj => hc j p ?_⟩
  rw [List.getElem?_take] at hj
  split at hj
  · exact hj
  · cases hj
theorem CG_drop {w : World} {g : Nat} {n : Nat} {gs : List Fg} (h : kFg.C w (some ⟨g, 0, none⟩) n gs) (k : Nat) (hk : k ≤ n) : kFg.C w (some ⟨g, k * 6, none⟩) (n - k) (gs.drop k) := by
  refine ⟨by rw [List.length_drop, h.1], by have := h.2.1; omega, fun hn => ?_⟩
  obtain ⟨ad, e, hc⟩ := h.2.2 (by omega)
  injection e with e
  subst e
  refine ⟨_, rfl, fun j p hj => ?_⟩
  rw [List.getElem?_drop] at hj
  obtain ⟨c, h1, h2, h3⟩ := hc (k + j) p hj
  refine ⟨c, h1, h2, fun i u hi => ?_⟩
  have := h3 i u hi
  have h6 : (kFg).sz = 6 := rfl
  rw [h6] at this ⊢
  rw [WideShapes.add_plain] at this ⊢
  rw [show k * 6 + (j * 6 + i) = 0 + ((k + j) * 6 + i) by omega]
  exact this
theorem reps_fg (R : Fg → List Value → Prop) (hR : ∀ x, R x (fgV x)) : ∀ gs : List Fg, Reps R 6 gs (gs.flatMap fgV)
  | [] => Reps.none _ _
  | x :: r => by
    rw [List.flatMap_cons]
    exact reps_cons (hR x) rfl (reps_fg R hR r)
/-- A row of fields written out, read. -/
theorem litF (w : World) (g : Nat) (hg : w.heap.size = g) (gs : List Fg) (hm : gs.length ≤ 1000) : kFg.C (w.alloc (.cells (gs.flatMap fgV).toArray 30)) (some ⟨g, 0, none⟩) gs.length gs :=
  CK_lit w 30 g hg gs _ (reps_fg (fun x cs => cs = fgV x) (fun _ => rfl) gs) (by omega)
end Go.Proofs.YtldbelghobohiaaGreat
