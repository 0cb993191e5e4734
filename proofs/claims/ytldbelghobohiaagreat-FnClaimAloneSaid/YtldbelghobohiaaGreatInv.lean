/-
  A region that draws its order, by what holds between any two of its operations: one step for each operation, whatever the order.
-/
import Derived.Test.YtldbelghobohiaaGreatRows
import Derived.WalkKit
import Derived.Deep.RegionLaw
namespace Go.Proofs.YtldbelghobohiaaGreat
open Go.RowKit
set_option linter.unusedVariables false
set_option linter.unusedSimpArgs false
theorem count_set_true : ∀ (l : List Bool) (i : Nat), l[i]? = some false → (l.set i true).count false + 1 = l.count false
  | [], i, h => by simp at h
  | b :: r, 0, h => by
    obtain rfl : b = false := by simpa using h
    simp
  | b :: r, i + 1, h => by
    have ih := count_set_true r i (by simpa using h)
    rw [List.set_cons_succ, List.count_cons, List.count_cons]
    omega
theorem getD_false {l : Array Bool} {i : Nat} (h : l.getD i true = false) : l.toList[i]? = some false := by
  rw [Array.getD_eq_getD_getElem?] at h
  rw [Array.getElem?_toList]
  cases h2 : l[i]? with
  | none => rw [h2] at h; simp at h
  | some b => rw [h2] at h; simpa using h
theorem wpAny_inv {P : Program} {md : Region.Mode} {ops : Array Oper} {Q : Exit → Act → World → Prop} (I : Array Bool → Act → World → Prop)
    (step : ∀ listed a w, I listed a w → ∀ i ∈ Region.ready md ops listed, wpOp P ops Q i (fun a' w' => I (listed.setIfInBounds i true) a' w') a w)
    (fin : ∀ listed a w, I listed a w → Region.ready md ops listed = [] → Q .normal a w) :
    ∀ (fuel : Nat) (listed : Array Bool) (a : Act) (w : World), listed.toList.count false ≤ fuel → I listed a w → wpAny P md ops Q fuel listed a w
  | 0, listed, a, w, hc, hI => by
    have hr : Region.ready md ops listed = [] := by
      cases hr : Region.ready md ops listed with
      | nil => rfl
      | cons i r =>
        have hm := (mem_ready (md := md) (ops := ops) (j := i) (listed := listed)).1 (by rw [hr]; simp)
        have h2 := count_set_true _ _ (getD_false hm.1)
        omega
    exact ⟨hr, fin listed a w hI hr⟩
  | fuel + 1, listed, a, w, hc, hI => by
    refine ⟨fun hr => fin listed a w hI hr, fun i hi => wpOp_mono (fun a' w' h => ?_) (step listed a w hI i hi)⟩
    have hm := (mem_ready (md := md) (ops := ops) (j := i) (listed := listed)).1 hi
    have h2 := count_set_true _ _ (getD_false hm.1)
    exact wpAny_inv I step fin fuel _ a' w' (by rw [Array.toList_setIfInBounds]; omega) h
/-- Each operation waits for earlier ones alone. -/
def inOrder (md : Region.Mode) (ops : Array Oper) : Bool := (List.range ops.size).all fun i => (ops[i]?.map fun o => o.after.all fun e => !(Region.binds md e) || decide (e.on < i)).getD true
theorem all_listed {md : Region.Mode} {ops : Array Oper} {listed : Array Bool} (hr : Region.ready md ops listed = []) (hd : inOrder md ops = true) (hs : listed.size = ops.size) : listed = Array.replicate ops.size true := by
  have key : ∀ i, i < ops.size → listed.getD i false = true := by
    intro i
    induction i using Nat.strongRecOn with
    | ind i ih =>
      intro hi
      cases hb : listed.getD i true with
      | true =>
        have hlt : i < listed.size := by omega
        simp [hlt] at hb ⊢
        exact hb
      | false =>
        exfalso
        have hm : i ∈ Region.ready md ops listed := by
          rw [mem_ready]
          refine ⟨hb, ops[i], Array.getElem?_eq_getElem hi, fun e he hbd => ?_⟩
          have h1 := List.all_eq_true.1 hd i (List.mem_range.2 hi)
          rw [Array.getElem?_eq_getElem hi] at h1
          simp only [Option.map_some, Option.getD_some, Array.all_eq_true_iff_forall_mem] at h1
          have h2 := h1 e he
          rw [hbd] at h2
          have h3 : e.on < i := by simpa using h2
          exact ih e.on h3 (by omega)
        rw [hr] at hm
        cases hm
  apply Array.ext
  · simp [hs]
  · intro i h1 h2
    have := key i (by omega)
    simp [h1] at this
    simp [this]
theorem dep {md : Region.Mode} {o : Oper} {listed : Array Bool} (hd : ∀ e ∈ o.after, Region.binds md e = true → listed.getD e.on false = true) (j : Nat) (h : (o.after.any fun e => Region.binds md e && e.on == j) = true) : listed.getD j false = true := by
  rw [Array.any_eq_true] at h
  obtain ⟨i, hi, hb⟩ := h
  rw [Bool.and_eq_true, beq_iff_eq] at hb
  have := hd _ (Array.getElem_mem hi) hb.1
  rwa [hb.2] at this
/-- A drawn region, by an invariant: one step for each operation. -/
theorem wpAny_by {P : Program} {md : Region.Mode} {ops : Array Oper} {Q : Exit → Act → World → Prop} (I : Array Bool → Act → World → Prop) (hd : inOrder md ops = true)
    (hs : ∀ listed a w, I listed a w → listed.size = ops.size)
    (step : ∀ i o, ops[i]? = some o → ∀ listed a w, listed.getD i true = false → (∀ e ∈ o.after, Region.binds md e = true → listed.getD e.on false = true) → I listed a w →
      ∀ K : Act → World → Prop, (∀ a' w', I (listed.setIfInBounds i true) a' w' → K a' w') → if Region.wanted o (yielded ops a.tmps) = true then Oper.wp P o a w K Q else K (a.put o.dst undef) w)
    (fin : ∀ a w, I (Array.replicate ops.size true) a w → Q .normal a w) (a : Act) (w : World) (h0 : I (Array.replicate ops.size false) a w) :
    wpAny P md ops Q ops.size (Array.replicate ops.size false) a w := by
  refine wpAny_inv I (fun listed a w hI i hi => ?_) (fun listed a w hI hr => ?_) _ _ a w (by simp) h0
  · obtain ⟨hf, o, ho, hdep⟩ := mem_ready.1 hi
    exact wpOp_step ho (step i o ho listed a w hf hdep hI)
  · have := all_listed hr hd (hs _ _ _ hI)
    rw [this] at hI
    exact fin a w hI
end Go.Proofs.YtldbelghobohiaaGreat
