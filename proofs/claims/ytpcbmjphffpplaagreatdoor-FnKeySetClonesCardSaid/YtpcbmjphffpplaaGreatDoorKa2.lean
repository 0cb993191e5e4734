/-
  A region that draws its order, by what holds between any two of its operations: one step for each operation, whatever the order.
  A region that draws its order, by what each slot holds: facts of slots that stay as memory grows; one step for each operation, each once, whatever the order; a last operation that waits for the others.
  A region that draws its order, whose calls stand one behind the other: each call is the next one of a chain, and says what the world holds behind it; all else only reads. One step for each operation, whatever the order.
  As XRc, where a call's value is not known ahead of the region: what the calls have drawn is carried along.
  As XRe's region_chainT, with a last operation that waits for all others (a store).
  As XReg's region_list, where the last operation has no slot and waits for all others.
-/
import Derived.Test.YtpcbmjphffpplaaGreatDoorRows
import Derived.WalkKit
import Derived.Deep.RegionLaw
import Derived.Test.YtpcbmjphffpplaaGreatDoorKa1
namespace Go.Proofs.YtpcbmjphffpplaaGreatDoor
open Go.RowKit
set_option linter.unusedVariables false
set_option linter.unusedSimpArgs false
theorem count_set_true : ∀ (l : List Bool) (i : Nat), l[i]? = some false → (l.set i true).count false + 1 = l.count false
  | [], i, h => by simp at h
  | b :: r, 0, h => by
    obtain rfl : b = false := by simpa using h
    simp
  | b :: r, i + 1, h => by
    have ih := count_set_true r i (by simpa using h)
    rw [List.set_cons_succ, List.count_cons, List.count_cons]
    omega
theorem getD_false {l : Array Bool} {i : Nat} (h : l.getD i true = false) : l.toList[i]? = some false := by
  rw [Array.getD_eq_getD_getElem?] at h
  rw [Array.getElem?_toList]
  cases h2 : l[i]? with
  | none => rw [h2] at h; simp at h
  | some b => rw [h2] at h; simpa using h
theorem wpAny_inv {P : Program} {md : Region.Mode} {ops : Array Oper} {Q : Exit → Act → World → Prop} (I : Array Bool → Act → World → Prop)
    (step : ∀ listed a w, I listed a w → ∀ i ∈ Region.ready md ops listed, wpOp P ops Q i (fun a' w' => I (listed.setIfInBounds i true) a' w') a w)
    (fin : ∀ listed a w, I listed a w → Region.ready md ops listed = [] → Q .normal a w) :
    ∀ (fuel : Nat) (listed : Array Bool) (a : Act) (w : World), listed.toList.count false ≤ fuel → I listed a w → wpAny P md ops Q fuel listed a w
  | 0, listed, a, w, hc, hI => by
    have hr : Region.ready md ops listed = [] := by
      cases hr : Region.ready md ops listed with
      | nil => rfl
      | cons i r =>
        have hm := (mem_ready (md := md) (ops := ops) (j := i) (listed := listed)).1 (by rw [hr]; simp)
        have h2 := count_set_true _ _ (getD_false hm.1)
        omega
    exact ⟨hr, fin listed a w hI hr⟩
  | fuel + 1, listed, a, w, hc, hI => by
    refine ⟨fun hr => fin listed a w hI hr, fun i hi => wpOp_mono (fun a' w' h => ?_) (step listed a w hI i hi)⟩
    have hm := (mem_ready (md := md) (ops := ops) (j := i) (listed := listed)).1 hi
    have h2 := count_set_true _ _ (getD_false hm.1)
    exact wpAny_inv I step fin fuel _ a' w' (by rw [Array.toList_setIfInBounds]; omega) h
/-- Each operation waits for earlier ones alone. -/
def inOrder (md : Region.Mode) (ops : Array Oper) : Bool := (List.range ops.size).all fun i => (ops[i]?.map fun o => o.after.all fun e => !(Region.binds md e) || decide (e.on < i)).getD true
theorem all_listed {md : Region.Mode} {ops : Array Oper} {listed : Array Bool} (hr : Region.ready md ops listed = []) (hd : inOrder md ops = true) (hs : listed.size = ops.size) : listed = Array.replicate ops.size true := by
  have key : ∀ i, i < ops.size → listed.getD i false = true := by
    intro i
    induction i using Nat.strongRecOn with
    | ind i ih =>
      intro hi
      cases hb : listed.getD i true with
      | true =>
        have hlt : i < listed.size := by omega
        simp [hlt] at hb ⊢
        exact hb
      | false =>
        exfalso
        have hm : i ∈ Region.ready md ops listed := by
          rw [mem_ready]
          refine ⟨hb, ops[i], Array.getElem?_eq_getElem hi, fun e he hbd => ?_⟩
          have h1 := List.all_eq_true.1 hd i (List.mem_range.2 hi)
          rw [Array.getElem?_eq_getElem hi] at h1
          simp only [Option.map_some, Option.getD_some, Array.all_eq_true_iff_forall_mem] at h1
          have h2 := h1 e he
          rw [hbd] at h2
          have h3 : e.on < i := by simpa using h2
          exact ih e.on h3 (by omega)
        rw [hr] at hm
        cases hm
  apply Array.ext
  · simp [hs]
  · intro i h1 h2
    have := key i (by omega)
    simp [h1] at this
    simp [this]
theorem dep {md : Region.Mode} {o : Oper} {listed : Array Bool} (hd : ∀ e ∈ o.after, Region.binds md e = true → listed.getD e.on false = true) (j : Nat) (h : (o.after.any fun e => Region.binds md e && e.on == j) = true) : listed.getD j false = true := by
  rw [Array.any_eq_true] at h
  obtain ⟨i, hi, hb⟩ := h
  rw [Bool.and_eq_true, beq_iff_eq] at hb
  have := hd _ (Array.getElem_mem hi) hb.1
  rwa [hb.2] at this
/-- A drawn region, by an invariant: one step for each operation. -/
theorem wpAny_by {P : Program} {md : Region.Mode} {ops : Array Oper} {Q : Exit → Act → World → Prop} (I : Array Bool → Act → World → Prop) (hd : inOrder md ops = true)
    (hs : ∀ listed a w, I listed a w → listed.size = ops.size)
    (step : ∀ i o, ops[i]? = some o → ∀ listed a w, listed.getD i true = false → (∀ e ∈ o.after, Region.binds md e = true → listed.getD e.on false = true) → I listed a w →
      ∀ K : Act → World → Prop, (∀ a' w', I (listed.setIfInBounds i true) a' w' → K a' w') → if Region.wanted o (yielded ops a.tmps) = true then Oper.wp P o a w K Q else K (a.put o.dst undef) w)
    (fin : ∀ a w, I (Array.replicate ops.size true) a w → Q .normal a w) (a : Act) (w : World) (h0 : I (Array.replicate ops.size false) a w) :
    wpAny P md ops Q ops.size (Array.replicate ops.size false) a w := by
  refine wpAny_inv I (fun listed a w hI i hi => ?_) (fun listed a w hI hr => ?_) _ _ a w (by simp) h0
  · obtain ⟨hf, o, ho, hdep⟩ := mem_ready.1 hi
    exact wpOp_step ho (step i o ho listed a w hf hdep hI)
  · have := all_listed hr hd (hs _ _ _ hI)
    rw [this] at hI
    exact fin a w hI
end Go.Proofs.YtpcbmjphffpplaaGreatDoor
namespace Go.Proofs.YtpcbmjphffpplaaGreatDoor
open Go.RowKit
set_option linter.unusedVariables false
set_option linter.unusedSimpArgs false
def upd (u : Nat → Value) (d : Nat) (v : Value) : Nat → Value := fun j => if j = d then v else u j
def ov (a0 : Act) (W : List Nat) (u : Nat → Value) : Act := W.foldl (fun a d => a.put (some d) (u d)) a0
theorem put_get (a : Act) (d j : Nat) (v : Value) : (a.put (some d) v).tmps[j]? = if j < a.tmps.size then (if j = d then some v else a.tmps[j]?) else none := by
  show (a.tmps.setIfInBounds d v)[j]? = _
  rw [Array.getElem?_setIfInBounds]
  by_cases h : d = j
  · subst h
    simp
  · have h' : ¬ j = d := fun e => h e.symm
    rw [if_neg h, if_neg h']
    split
    · rfl
    · rw [Array.getElem?_eq_none (by omega)]
theorem put_size (a : Act) (d : Nat) (v : Value) : (a.put (some d) v).tmps.size = a.tmps.size := by
  show (a.tmps.setIfInBounds d v).size = _
  simp
theorem ov_get (u : Nat → Value) (j : Nat) : ∀ (W : List Nat) (a0 : Act), (ov a0 W u).tmps[j]? = if j < a0.tmps.size then (if j ∈ W then some (u j) else a0.tmps[j]?) else none
  | [], a0 => by
    show a0.tmps[j]? = _
    split
    · simp
    · rw [Array.getElem?_eq_none (by omega)]
  | d :: W, a0 => by
    have ih := ov_get u j W (a0.put (some d) (u d))
    rw [put_size, put_get] at ih
    show (ov (a0.put (some d) (u d)) W u).tmps[j]? = _
    rw [ih]
    by_cases h1 : j < a0.tmps.size
    · simp only [h1, if_true, List.mem_cons]
      by_cases h2 : j = d
      · subst h2
        simp
      · simp [h2]
    · simp [h1]
theorem ov_defers (u : Nat → Value) : ∀ (W : List Nat) (a0 : Act), (ov a0 W u).defers = a0.defers
  | [], a0 => rfl
  | d :: W, a0 => ov_defers u W (a0.put (some d) (u d))
theorem act_ext {a b : Act} (h : ∀ j : Nat, a.tmps[j]? = b.tmps[j]?) (hd : a.defers = b.defers) : a = b := by
  cases a
  cases b
  have := Array.ext_getElem? h
  simp_all
theorem ov_size (u : Nat → Value) : ∀ (W : List Nat) (a0 : Act), (ov a0 W u).tmps.size = a0.tmps.size
  | [], a0 => rfl
  | d :: W, a0 => (ov_size u W (a0.put (some d) (u d))).trans (put_size _ _ _)
theorem ov_put (a0 : Act) (W : List Nat) (u : Nat → Value) (d : Nat) (v : Value) (hd : d ∈ W) : (ov a0 W u).put (some d) v = ov a0 W (upd u d v) := by
  refine act_ext (fun j => ?_) ?_
  · rw [put_get, ov_get, ov_get, ov_size]
    by_cases h1 : j < a0.tmps.size
    · simp only [h1, if_true, upd]
      by_cases h2 : j = d
      · subst h2
        simp [hd]
      · simp [h2]
    · simp [h1]
  · show (ov a0 W u).defers = _
    rw [ov_defers, ov_defers]
theorem ov_self (a0 : Act) (W : List Nat) : ov a0 W (fun j => a0.tmps.getD j undef) = a0 := by
  refine act_ext (fun j => ?_) (ov_defers _ _ _)
  rw [ov_get]
  by_cases h1 : j < a0.tmps.size
  · simp only [h1, if_true]
    split
    · simp [h1]
    · rfl
  · rw [if_neg h1, Array.getElem?_eq_none (by omega)]
theorem ov_eval (a0 : Act) (W : List Nat) (u : Nat → Value) (j : Nat) (hj : j ∈ W) (hs : j < a0.tmps.size) : (ov a0 W u).eval (.tmp j) = u j := by
  show (ov a0 W u).tmps.getD j undef = _
  rw [Array.getD_eq_getD_getElem?, ov_get, if_pos hs, if_pos hj]
  rfl
theorem ov_eval_ne (a0 : Act) (W : List Nat) (u : Nat → Value) (j : Nat) (hj : j ∉ W) : (ov a0 W u).eval (.tmp j) = a0.eval (.tmp j) := by
  show (ov a0 W u).tmps.getD j undef = a0.tmps.getD j undef
  rw [Array.getD_eq_getD_getElem?, Array.getD_eq_getD_getElem?, ov_get, if_neg hj]
  split
  · rfl
  · rw [Array.getElem?_eq_none (by omega)]
theorem ev_get {a : Act} {j : Nat} {v : Value} (h : a.eval (.tmp j) = v) : a.tmps[j]?.getD undef = v := by
  have : a.tmps.getD j undef = v := h
  rwa [Array.getD_eq_getD_getElem?] at this
structure Rin (ops : Array Oper) (W : List Nat) (pc : Nat → Value → World → Prop) (b : Nat) (a0 : Act) (w0 : World) (listed : Array Bool) (a : Act) (w : World) : Prop where
  size : listed.size = ops.size
  below : Below w0.heap.size w0 w
  nb : listed.getD b false = false
  ns : ∀ (i : Nat) (o : Oper), ops[i]? = some o → o.dst = none → listed.getD i false = false
  at_ : ∃ u, a = ov a0 W u ∧ ∀ i o d, ops[i]? = some o → o.dst = some d → listed.getD i false = true → pc d (u d) w
/-- What the region's text must meet. -/
def regOk (md : Region.Mode) (ops : Array Oper) (W : List Nat) (b : Nat) (dp : Nat → List (Nat × Nat)) : Bool :=
  inOrder md ops
  && ((List.range ops.size).all fun i => (ops[i]?.map fun o => (dp i).all fun p => (o.after.any fun e => Region.binds md e && e.on == p.1) && (ops[p.1]?.map fun q => q.dst == some p.2).getD false).getD false)
  && ((List.range ops.size).all fun i => (ops[i]?.map fun o => match o.dst with | some d => W.contains d | none => i == b || o.after.any fun e => Region.binds md e && e.on == b).getD false)
  && ((List.range ops.size).all fun i => (List.range ops.size).all fun j => i == j || ((ops[i]?.map fun o => (ops[j]?.map fun q => o.dst != q.dst || o.dst == none).getD false).getD false))
theorem all_range {n : Nat} {p : Nat → Bool} (h : (List.range n).all p = true) (i : Nat) (hi : i < n) : p i = true := List.all_eq_true.1 h i (List.mem_range.2 hi)
theorem getD_set (l : Array Bool) (i j : Nat) (hi : i < l.size) : (l.setIfInBounds i true).getD j false = if i = j then true else l.getD j false := by
  rw [Array.getD_eq_getD_getElem?, Array.getElem?_setIfInBounds, Array.getD_eq_getD_getElem?]
  by_cases h : i = j
  · subst h
    simp [hi]
  · simp [h]
theorem repl_getD (n b : Nat) : (Array.replicate n false).getD b false = false := by
  rw [Array.getD_eq_getD_getElem?, Array.getElem?_replicate]
  split <;> rfl
theorem wpAny_bar {P : Program} {md : Region.Mode} {ops : Array Oper} {Q : Exit → Act → World → Prop} (b : Nat) (I : Array Bool → Act → World → Prop)
    (step : ∀ listed a w, I listed a w → b ∉ Region.ready md ops listed → ∀ i ∈ Region.ready md ops listed, wpOp P ops Q i (fun a' w' => I (listed.setIfInBounds i true) a' w') a w)
    (bar : ∀ fuel listed a w, I listed a w → b ∈ Region.ready md ops listed → listed.toList.count false ≤ fuel → wpAny P md ops Q fuel listed a w)
    (fin : ∀ listed a w, I listed a w → Region.ready md ops listed = [] → Q .normal a w) :
    ∀ (fuel : Nat) (listed : Array Bool) (a : Act) (w : World), listed.toList.count false ≤ fuel → I listed a w → wpAny P md ops Q fuel listed a w
  | 0, listed, a, w, hc, hI => by
    have hr : Region.ready md ops listed = [] := by
      cases hr : Region.ready md ops listed with
      | nil => rfl
      | cons i r =>
        have hm := (mem_ready (md := md) (ops := ops) (j := i) (listed := listed)).1 (by rw [hr]; simp)
        have h2 := count_set_true _ _ (getD_false hm.1)
        omega
    exact ⟨hr, fin listed a w hI hr⟩
  | fuel + 1, listed, a, w, hc, hI => by
    by_cases hb : b ∈ Region.ready md ops listed
    · exact bar _ _ _ _ hI hb hc
    · refine ⟨fun hr => fin listed a w hI hr, fun i hi => wpOp_mono (fun a' w' h => ?_) (step listed a w hI hb i hi)⟩
      have hm := (mem_ready (md := md) (ops := ops) (j := i) (listed := listed)).1 hi
      have h2 := count_set_true _ _ (getD_false hm.1)
      exact wpAny_bar b I step bar fin fuel _ a' w' (by rw [Array.toList_setIfInBounds]; omega) h
theorem region_pcs {P : Program} {md : Region.Mode} {ops : Array Oper} {Q : Exit → Act → World → Prop} (a0 : Act) (w0 : World) (W : List Nat) (pc : Nat → Value → World → Prop) (b : Nat) (dp : Nat → List (Nat × Nat))
    (hok : regOk md ops W b dp = true)
    (mono : ∀ d v w w', pc d v w → Below w.heap.size w w' → pc d v w')
    (step : ∀ (i : Nat) (o : Oper) (d : Nat), ops[i]? = some o → o.dst = some d → i ≠ b → ∀ u w, Below w0.heap.size w0 w → (∀ p ∈ dp i, pc p.2 (u p.2) w) →
      ∀ K : Act → World → Prop, (∀ v w', Below w.heap.size w w' → pc d v w' → K ((ov a0 W u).put (some d) v) w') → if Region.wanted o (yielded ops (ov a0 W u).tmps) = true then Oper.wp P o (ov a0 W u) w K Q else K ((ov a0 W u).put o.dst undef) w)
    (bar : ∀ (fuel : Nat) (listed : Array Bool) (u : Nat → Value) (w : World), listed.size = ops.size → b ∈ Region.ready md ops listed → listed.toList.count false ≤ fuel → Below w0.heap.size w0 w → (∀ (i : Nat) (o : Oper), ops[i]? = some o → o.dst = none → listed.getD i false = false) → (∀ (i : Nat) (o : Oper) (d : Nat), ops[i]? = some o → o.dst = some d → listed.getD i false = true → pc d (u d) w) → wpAny P md ops Q fuel listed (ov a0 W u) w)
    (fin : ∀ u w, ops.size ≤ b → Below w0.heap.size w0 w → (∀ (i : Nat) (o : Oper) (d : Nat), ops[i]? = some o → o.dst = some d → pc d (u d) w) → Q .normal (ov a0 W u) w) :
    wpAny P md ops Q ops.size (Array.replicate ops.size false) a0 w0 := by
  unfold regOk at hok
  rw [Bool.and_eq_true, Bool.and_eq_true, Bool.and_eq_true] at hok
  obtain ⟨⟨⟨hin, hdp⟩, hds⟩, hdd⟩ := hok
  refine wpAny_bar b (Rin ops W pc b a0 w0) ?_ ?_ ?_ _ _ a0 w0 (by rw [Array.toList_replicate, List.count_replicate]; simp) ⟨by simp, Below.refl _ _, repl_getD _ _, fun i o _ _ => repl_getD _ _, fun j => a0.tmps.getD j undef, (ov_self a0 W).symm, fun i o d _ _ h => by rw [repl_getD] at h; cases h⟩
  · intro listed a w hI hnb i hi
    obtain ⟨hsz, hbel, hb0, hns, u, rfl, hat⟩ := hI
    obtain ⟨hf, o, ho, hdep⟩ := mem_ready.1 hi
    have hlt : i < ops.size := (Array.getElem?_eq_some_iff.1 ho).1
    have hib : i ≠ b := fun e => hnb (e ▸ hi)
    have h3 := all_range hds i hlt
    rw [ho, Option.map_some, Option.getD_some] at h3
    have h2 := all_range hdp i hlt
    rw [ho, Option.map_some, Option.getD_some] at h2
    cases hd : o.dst with
    | none =>
      rw [hd] at h3
      simp only [Bool.or_eq_true, beq_iff_eq] at h3
      rcases h3 with h3 | h3
      · exact absurd h3 hib
      · have := dep hdep b h3
        rw [hb0] at this
        cases this
    | some d =>
      rw [hd] at h3
      have hdW : d ∈ W := by simpa using h3
      refine wpOp_step ho (fun K hK => ?_)
      refine step i o d ho hd hib u w hbel (fun p hp => ?_) K (fun v w' hb2 hpc => hK _ _ ?_)
      · have h4 := List.all_eq_true.1 h2 p hp
        rw [Bool.and_eq_true] at h4
        obtain ⟨h5, h6⟩ := h4
        cases hq : ops[p.1]? with
        | none => rw [hq] at h6; cases h6
        | some q =>
          rw [hq] at h6
          simp only [Option.map_some, Option.getD_some, beq_iff_eq] at h6
          exact hat p.1 q p.2 hq h6 (dep hdep p.1 h5)
      · refine ⟨by simp [hsz], hbel.trans (hb2.mono (by exact hbel.size)), ?_, fun j q hq hqd => ?_, upd u d v, ov_put a0 W u d v hdW, fun j q d' hq hd' hl => ?_⟩
        · rw [getD_set _ _ _ (by omega), if_neg hib, hb0]
        · rw [getD_set _ _ _ (by omega)]
          by_cases hij : i = j
          · subst hij
            rw [ho] at hq
            injection hq with hq
            subst hq
            rw [hd] at hqd
            cases hqd
          · rw [if_neg hij, hns j q hq hqd]
        · rw [getD_set _ _ _ (by omega)] at hl
          by_cases hij : i = j
          · subst hij
            rw [ho] at hq
            injection hq with hq
            subst hq
            rw [hd] at hd'
            injection hd' with hd'
            subst hd'
            show pc d (upd u d v d) w'
            unfold upd
            rw [if_pos rfl]
            exact hpc
          · rw [if_neg hij] at hl
            have hjl : j < ops.size := (Array.getElem?_eq_some_iff.1 hq).1
            have h7 := all_range (all_range hdd i hlt) j hjl
            have hbf : (i == j) = false := by simpa using hij
            rw [ho, hq, hbf] at h7
            simp only [Option.map_some, Option.getD_some, Bool.false_or, hd, hd'] at h7
            have hdd' : d' ≠ d := by
              rintro rfl
              simp at h7
            show pc d' (upd u d v d') w'
            unfold upd
            rw [if_neg hdd']
            exact mono _ _ _ _ (hat j q d' hq hd' hl) hb2
  · intro fuel listed a w hI hb hc
    obtain ⟨hsz, hbel, hb0, hns, u, rfl, hat⟩ := hI
    exact bar fuel listed u w hsz hb hc hbel hns hat
  · intro listed a w hI hr
    obtain ⟨hsz, hbel, hb0, hns, u, rfl, hat⟩ := hI
    have hl := all_listed hr hin hsz
    subst hl
    have hbs : ops.size ≤ b := by
      rcases Nat.lt_or_ge b ops.size with h | h
      · simp [h] at hb0
      · exact h
    exact fin u w hbs hbel (fun i o d ho hd => hat i o d ho hd (by have := (Array.getElem?_eq_some_iff.1 ho).1; simp [this]))
/-- One step for each operation of a list. -/
def StepOne (P : Program) (ops : Array Oper) (Q : Exit → Act → World → Prop) (a0 : Act) (w0 : World) (W : List Nat) (pc : Nat → Value → World → Prop) (dp : Nat → List (Nat × Nat)) (i : Nat) (o : Oper) (d : Nat) : Prop :=
  ∀ a w, Below w0.heap.size w0 w → (∀ j, j ∉ W → a.eval (.tmp j) = a0.eval (.tmp j)) → (∀ p ∈ dp i, pc p.2 (a.eval (.tmp p.2)) w) →
      ∀ K : Act → World → Prop, (∀ v w', Below w.heap.size w w' → pc d v w' → K (a.put (some d) v) w') → if Region.wanted o (yielded ops a.tmps) = true then Oper.wp P o a w K Q else K (a.put o.dst undef) w
inductive StepAll (P : Program) (ops : Array Oper) (Q : Exit → Act → World → Prop) (a0 : Act) (w0 : World) (W : List Nat) (pc : Nat → Value → World → Prop) (b : Nat) (dp : Nat → List (Nat × Nat)) : Nat → List Oper → Prop
  | nil (i : Nat) : StepAll P ops Q a0 w0 W pc b dp i []
  | some {i d : Nat} {op : Op} {t : TypeId} {ps : String} {af : Array Edge} {g : Option (Nat × Bool)} {r : List Oper} : StepOne P ops Q a0 w0 W pc dp i ⟨.some d, op, t, ps, af, g⟩ d → StepAll P ops Q a0 w0 W pc b dp (i + 1) r → StepAll P ops Q a0 w0 W pc b dp i (⟨.some d, op, t, ps, af, g⟩ :: r)
  | none {i : Nat} {op : Op} {t : TypeId} {ps : String} {af : Array Edge} {g : Option (Nat × Bool)} {r : List Oper} : StepAll P ops Q a0 w0 W pc b dp (i + 1) r → StepAll P ops Q a0 w0 W pc b dp i (⟨.none, op, t, ps, af, g⟩ :: r)
  | skip {i : Nat} {o : Oper} {r : List Oper} : i = b → StepAll P ops Q a0 w0 W pc b dp (i + 1) r → StepAll P ops Q a0 w0 W pc b dp i (o :: r)
theorem StepAll.at_ {P : Program} {ops : Array Oper} {Q : Exit → Act → World → Prop} {a0 : Act} {w0 : World} {W : List Nat} {pc : Nat → Value → World → Prop} {b : Nat} {dp : Nat → List (Nat × Nat)} {s : Nat} {l : List Oper} (h : StepAll P ops Q a0 w0 W pc b dp s l) :
    ∀ (i : Nat) (o : Oper) (d : Nat), l[i]? = .some o → o.dst = .some d → s + i ≠ b → StepOne P ops Q a0 w0 W pc dp (s + i) o d := by
  induction h with
  | nil s => intro i o d hi; simp at hi
  | @some s d0 op t ps af g r h1 h2 ih =>
    intro i o d hi hd hb
    cases i with
    | zero =>
      simp only [List.getElem?_cons_zero, Option.some.injEq] at hi
      subst hi
      injection hd with hd
      subst hd
      exact h1
    | succ i =>
      rw [List.getElem?_cons_succ] at hi
      have := ih i o d hi hd (by omega)
      rw [show s + (i + 1) = s + 1 + i by omega]
      exact this
  | @none s op t ps af g r h2 ih =>
    intro i o d hi hd hb
    cases i with
    | zero =>
      simp only [List.getElem?_cons_zero, Option.some.injEq] at hi
      subst hi
      cases hd
    | succ i =>
      rw [List.getElem?_cons_succ] at hi
      have := ih i o d hi hd (by omega)
      rw [show s + (i + 1) = s + 1 + i by omega]
      exact this
  | @skip s o0 r h1 h2 ih =>
    intro i o d hi hd hb
    cases i with
    | zero => exact absurd (by omega) hb
    | succ i =>
      rw [List.getElem?_cons_succ] at hi
      have := ih i o d hi hd (by omega)
      rw [show s + (i + 1) = s + 1 + i by omega]
      exact this
theorem region_list {P : Program} {md : Region.Mode} {l : List Oper} {Q : Exit → Act → World → Prop} (a0 : Act) (w0 : World) (W : List Nat) (pc : Nat → Value → World → Prop) (b : Nat) (dp : Nat → List (Nat × Nat))
    (hW : W.all (fun d => decide (d < a0.tmps.size)) = true) (hdW : ((List.range l.toArray.size).all fun i => (dp i).all fun p => W.contains p.2) = true) (hok : regOk md l.toArray W b dp = true)
    (mono : ∀ d v w w', pc d v w → Below w.heap.size w w' → pc d v w')
    (step : StepAll P l.toArray Q a0 w0 W pc b dp 0 l)
    (bar : ∀ (fuel : Nat) (listed : Array Bool) (u : Nat → Value) (w : World), listed.size = l.toArray.size → b ∈ Region.ready md l.toArray listed → listed.toList.count false ≤ fuel → Below w0.heap.size w0 w → (∀ (i : Nat) (o : Oper), l[i]? = some o → o.dst = none → listed.getD i false = false) → (∀ (i : Nat) (o : Oper) (d : Nat), l[i]? = some o → o.dst = some d → listed.getD i false = true → pc d (u d) w) → wpAny P md l.toArray Q fuel listed (ov a0 W u) w)
    (fin : ∀ u w, l.toArray.size ≤ b → Below w0.heap.size w0 w → (∀ (i : Nat) (o : Oper) (d : Nat), l[i]? = some o → o.dst = some d → pc d (u d) w) → Q .normal (ov a0 W u) w) :
    wpAny P md l.toArray Q l.toArray.size (Array.replicate l.toArray.size false) a0 w0 := by
  refine region_pcs a0 w0 W pc b dp hok mono (fun i o d hi hd hb => ?_) (fun fuel listed u w h1 h2 h3 h4 h5 h6 => ?_) (fun u w h1 h2 h3 => ?_)
  · have := step.at_ i o d (by simpa using hi) hd (by omega)
    rw [Nat.zero_add] at this
    intro u w hbel hp K hK
    refine this _ w hbel (fun j hj => ov_eval_ne a0 W u j hj) (fun p hpm => ?_) K hK
    have hlt : i < l.toArray.size := (Array.getElem?_eq_some_iff.1 hi).1
    have h1 := List.all_eq_true.1 (all_range hdW i hlt) p hpm
    have h2 : p.2 ∈ W := by simpa using h1
    have h3 := of_decide_eq_true (List.all_eq_true.1 hW p.2 h2)
    rw [ov_eval a0 W u p.2 h2 h3]
    exact hp p hpm
  · exact bar fuel listed u w h1 h2 h3 h4 (fun i o hi => h5 i o (by simpa using hi)) (fun i o d hi => h6 i o d (by simpa using hi))
  · exact fin u w h1 h2 (fun i o d hi => h3 i o d (by simpa using hi))
theorem arr_of (l : Array Bool) (L : List Bool) (hs : l.size = L.length) (h : ∀ i, i < L.length → l.getD i false = L.getD i false) : l = L.toArray := by
  apply Array.ext
  · simpa using hs
  · intro i h1 h2
    have := h i (by omega)
    rw [Array.getD_eq_getD_getElem?, List.getD_eq_getElem?_getD] at this
    have h3 : i < L.length := by omega
    simpa [h1, h3] using this
def arrB (n b : Nat) (ns : List Nat) (fr : Nat) (t : Bool) : List Bool := (List.range n).map fun j => if j == b || ns.contains j then false else if j == fr then t else true
def barOk (md : Region.Mode) (ops : Array Oper) (b : Nat) (ns : List Nat) (fr : Nat) (bdp : List (Nat × Nat)) : Bool :=
  decide (b < ops.size)
  && (ns.all fun j => (ops[j]?.map fun o => o.dst == none).getD false)
  && ((List.range ops.size).all fun j => j == b || ns.contains j || j == fr || (ops[b]?.map fun o => o.after.any fun e => Region.binds md e && e.on == j).getD false)
  && (bdp.all fun p => p.1 != b && !ns.contains p.1 && p.1 != fr && (ops[p.1]?.map fun o => o.dst == some p.2).getD false)
theorem region_bar {P : Program} {md : Region.Mode} {l : List Oper} {Q : Exit → Act → World → Prop} (a0 : Act) (w0 : World) (W : List Nat) (pc : Nat → Value → World → Prop) (b : Nat) (dp : Nat → List (Nat × Nat)) (ns : List Nat) (fr frs : Nat) (bdp : List (Nat × Nat))
    (hW : W.all (fun d => decide (d < a0.tmps.size)) = true) (hdW : ((List.range l.toArray.size).all fun i => (dp i).all fun p => W.contains p.2) = true) (hok : regOk md l.toArray W b dp = true) (hbk : barOk md l.toArray b ns fr bdp = true) (hfr : fr = l.toArray.size ∨ (l.toArray[fr]?.map fun o => o.dst) = some (some frs))
    (mono : ∀ d v w w', pc d v w → Below w.heap.size w w' → pc d v w')
    (step : StepAll P l.toArray Q a0 w0 W pc b dp 0 l)
    (bar : ∀ (t : Bool) (fuel : Nat) (u : Nat → Value) (w : World), (arrB l.toArray.size b ns fr t).count false ≤ fuel → Below w0.heap.size w0 w → (∀ p ∈ bdp, pc p.2 (u p.2) w) → (fr < l.toArray.size → t = true → pc frs (u frs) w) → wpAny P md l.toArray Q fuel (arrB l.toArray.size b ns fr t).toArray (ov a0 W u) w) :
    wpAny P md l.toArray Q l.toArray.size (Array.replicate l.toArray.size false) a0 w0 := by
  unfold barOk at hbk
  rw [Bool.and_eq_true, Bool.and_eq_true, Bool.and_eq_true] at hbk
  obtain ⟨⟨⟨hbn, hns⟩, hj⟩, hbd⟩ := hbk
  have hbn := of_decide_eq_true hbn
  refine region_list a0 w0 W pc b dp hW hdW hok mono step (fun fuel listed u w hsz hb hc hbel hnone hat => ?_) (fun u w h => by omega)
  obtain ⟨hf, ob, hob, hdep⟩ := mem_ready.1 hb
  have hbf : listed.getD b false = false := by
    rw [Array.getD_eq_getD_getElem?] at hf ⊢
    cases hq : listed[b]? with
    | none => rfl
    | some x => rw [hq] at hf; exact hf
  have hL : listed = (arrB l.toArray.size b ns fr (listed.getD fr false)).toArray := by
    refine arr_of _ _ (by rw [hsz]; unfold arrB; simp) (fun i hi => ?_)
    have hi' : i < l.toArray.size := by unfold arrB at hi; simpa using hi
    have hr : (arrB l.toArray.size b ns fr (listed.getD fr false)).getD i false = if (i == b || ns.contains i) = true then false else if (i == fr) = true then listed.getD fr false else true := by
      unfold arrB
      rw [List.getD_eq_getElem?_getD, List.getElem?_map, List.getElem?_range hi', Option.map_some, Option.getD_some]
    rw [hr]
    by_cases h1 : (i == b || ns.contains i) = true
    · rw [if_pos h1]
      rw [Bool.or_eq_true] at h1
      rcases h1 with h1 | h1
      · rw [beq_iff_eq] at h1
        rw [h1]
        exact hbf
      · have h2 := List.all_eq_true.1 hns i (by simpa using h1)
        cases ho : l.toArray[i]? with
        | none => rw [ho] at h2; cases h2
        | some o =>
          rw [ho] at h2
          exact hnone i o (by simpa using ho) (by simpa using h2)
    · rw [if_neg h1]
      by_cases h3 : (i == fr) = true
      · rw [if_pos h3]
        rw [beq_iff_eq] at h3
        rw [h3]
      · rw [if_neg h3]
        have h4 := all_range hj i hi'
        rw [Bool.or_eq_true, Bool.or_eq_true] at h4
        rcases h4 with h4 | h4
        · rcases h4 with h4 | h4
          · rw [h4] at h1; exact absurd rfl h1
          · exact absurd h4 h3
        · rw [hob] at h4
          exact dep hdep i h4
  rw [hL] at hc ⊢
  refine bar _ fuel u w (by simpa using hc) hbel (fun p hp => ?_) (fun hlt ht => ?_)
  · have h5 := List.all_eq_true.1 hbd p hp
    simp only [Bool.and_eq_true, Bool.not_eq_true', bne_iff_ne, ne_eq] at h5
    obtain ⟨⟨⟨h6, h7⟩, h8⟩, h9⟩ := h5
    cases ho : l.toArray[p.1]? with
    | none => rw [ho] at h9; cases h9
    | some o =>
      rw [ho] at h9
      have hp1 : p.1 < l.toArray.size := (Array.getElem?_eq_some_iff.1 ho).1
      refine hat p.1 o p.2 (by simpa using ho) (by simpa using h9) ?_
      have h4 := all_range hj p.1 hp1
      rw [Bool.or_eq_true, Bool.or_eq_true, Bool.or_eq_true, h7, beq_iff_eq, beq_iff_eq] at h4
      rcases h4 with ((h4 | h4) | h4) | h4
      · exact absurd h4 h6
      · cases h4
      · exact absurd h4 h8
      · rw [hob] at h4
        exact dep hdep p.1 h4
  · rcases hfr with hfr | hfr
    · omega
    · cases ho : l.toArray[fr]? with
      | none => rw [ho] at hfr; cases hfr
      | some o =>
        rw [ho, Option.map_some] at hfr
        injection hfr with hfr
        exact hat fr o frs (by simpa using ho) hfr ht
/-- What slots hold. -/
structure Pc where
  p : Value → World → Prop
  mono : ∀ {v : Value} {w w' : World}, p v w → Below w.heap.size w w' → p v w'
def Pc.is (v : Value) : Pc := ⟨fun u _ => u = v, fun h _ => h⟩
def pcOf (l : List (Nat × Pc)) (d : Nat) (v : Value) (w : World) : Prop := ∀ q, l.lookup d = some q → q.p v w
theorem pcOf_mono (l : List (Nat × Pc)) (d : Nat) (v : Value) (w w' : World) (h : pcOf l d v w) (hb : Below w.heap.size w w') : pcOf l d v w' := fun q hq => q.mono (h q hq) hb
theorem pcOf_mk {l : List (Nat × Pc)} {d : Nat} {v : Value} {w : World} (q : Pc) (hq : l.lookup d = some q) (h : q.p v w) : pcOf l d v w := fun q' hq' => by
  rw [hq] at hq'
  injection hq' with hq'
  exact hq' ▸ h
def Pc.box (z : Nat) (cs : Array Value) (t : Nat) : Pc where
  p := fun v w => ∃ g, v = .pointer (some ⟨g, 0, none⟩) ∧ z ≤ g ∧ w.heap[g]? = some (.cells cs t)
  mono := fun h hb => by
    obtain ⟨g, h1, h2, h3⟩ := h
    exact ⟨g, h1, h2, (hb.block g (Array.getElem?_eq_some_iff.1 h3).1).trans h3⟩
/-- Two blocks that are new. -/
theorem Hold.two {w0 w : World} {B g1 g2 : Nat} {o1 o2 : Obj} (hS : Hold w0 B w []) (h1 : B ≤ g1) (h2 : B ≤ g2) (b1 : w.heap[g1]? = some o1) (b2 : w.heap[g2]? = some o2) (hne : g1 ≠ g2) : Hold w0 B w [.blk g1 o1, .blk g2 o2] := by
  refine ⟨hS.below, hS.le, fun i k => (i = 0 ∧ k = g1) ∨ (i = 1 ∧ k = g2), fun i a ha => ?_, fun i k hk => ?_, fun i j k hi hj => ?_⟩
  · match i, ha with
    | 0, ha => injection ha with ha; subst ha; exact ⟨.inl ⟨rfl, rfl⟩, b1⟩
    | 1, ha => injection ha with ha; subst ha; exact ⟨.inr ⟨rfl, rfl⟩, b2⟩
    | i + 2, ha => simp at ha
  · rcases hk with ⟨_, rfl⟩ | ⟨_, rfl⟩
    · exact ⟨h1, (Array.getElem?_eq_some_iff.1 b1).1⟩
    · exact ⟨h2, (Array.getElem?_eq_some_iff.1 b2).1⟩
  · rcases hi with ⟨hi, h3⟩ | ⟨hi, h3⟩ <;> rcases hj with ⟨hj, h4⟩ | ⟨hj, h4⟩ <;> omega
end Go.Proofs.YtpcbmjphffpplaaGreatDoor
namespace Go.Proofs.YtpcbmjphffpplaaGreatDoor
open Go.RowKit
set_option linter.unusedVariables false
set_option linter.unusedSimpArgs false
structure RinC (md : Region.Mode) (ops : Array Oper) (W : List Nat) (val : Nat → Value) (ch : List Nat) (WI : Nat → World → Prop) (a0 : Act) (listed : Array Bool) (a : Act) (w : World) : Prop where
  size : listed.size = ops.size
  wi : ∃ k, k ≤ ch.length ∧ WI k w ∧ ∀ j x, ch[j]? = some x → listed.getD x false = decide (j < k)
  cl : ∀ (j : Nat) (o : Oper) (x : Nat), ops[j]? = some o → listed.getD j false = true → (o.after.any fun e => Region.binds md e && e.on == x) = true → listed.getD x false = true
  at_ : ∃ u, a = ov a0 W u ∧ (∀ i o d, ops[i]? = some o → o.dst = some d → listed.getD i false = true → u d = val d) ∧ ∀ i o d, ops[i]? = some o → o.dst = some d → listed.getD i false = false → u d = a0.tmps.getD d undef
/-- What the region's text must meet. -/
def regOkC (md : Region.Mode) (ops : Array Oper) (W : List Nat) (dp rd : Nat → List (Nat × Nat)) (ch : List Nat) : Bool :=
  inOrder md ops
  && ((List.range ops.size).all fun i => (ops[i]?.map fun o => (dp i).all fun p => (o.after.any fun e => Region.binds md e && e.on == p.1) && (ops[p.1]?.map fun q => q.dst == some p.2).getD false).getD false)
  && ((List.range ops.size).all fun i => (ops[i]?.map fun o => match o.dst with | some d => W.contains d | none => false).getD false)
  && ((List.range ops.size).all fun i => (List.range ops.size).all fun j => i == j || ((ops[i]?.map fun o => (ops[j]?.map fun q => o.dst != q.dst).getD false).getD false))
  && ((List.range ch.length).all fun j => match ch[j]?, ch[j + 1]? with | some x, some y => (ops[y]?.map fun o => o.after.any fun e => Region.binds md e && e.on == x).getD false | some _, none => true | none, _ => false)
  && decide ch.Nodup && (ch.all fun x => decide (x < ops.size))
  && ((List.range ops.size).all fun i => (rd i).all fun p => W.contains p.2 && (ops[p.1]?.map fun o => o.dst == some p.2 && o.after.any fun e => Region.binds md e && e.on == i).getD false)
/-- One step of an operation. -/
def StepQ (P : Program) (ops : Array Oper) (Q : Exit → Act → World → Prop) (a0 : Act) (W : List Nat) (val : Nat → Value) (dp rd : Nat → List (Nat × Nat)) (I J : World → Prop) (i : Nat) (o : Oper) (d : Nat) : Prop :=
  ∀ a w, I w → (∀ j, j ∉ W → a.eval (.tmp j) = a0.eval (.tmp j)) → (∀ p ∈ dp i, a.eval (.tmp p.2) = val p.2) → (∀ p ∈ rd i, a.eval (.tmp p.2) = a0.eval (.tmp p.2)) →
      ∀ K : Act → World → Prop, (∀ w', J w' → K (a.put (some d) (val d)) w') → if Region.wanted o (yielded ops a.tmps) = true then Oper.wp P o a w K Q else K (a.put o.dst undef) w
inductive StepsC (P : Program) (ops : Array Oper) (Q : Exit → Act → World → Prop) (a0 : Act) (W : List Nat) (val : Nat → Value) (dp rd : Nat → List (Nat × Nat)) (ch : List Nat) (WI : Nat → World → Prop) : Nat → List Oper → Prop
  | nil (i : Nat) : StepsC P ops Q a0 W val dp rd ch WI i []
  | quiet {i d : Nat} {op : Op} {t : TypeId} {ps : String} {af : Array Edge} {g : Option (Nat × Bool)} {r : List Oper} (hi : decide (i ∈ ch) = false) (h : ∀ k, StepQ P ops Q a0 W val dp rd (WI k) (WI k) i ⟨some d, op, t, ps, af, g⟩ d) (hr : StepsC P ops Q a0 W val dp rd ch WI (i + 1) r) : StepsC P ops Q a0 W val dp rd ch WI i (⟨some d, op, t, ps, af, g⟩ :: r)
  | call {i d : Nat} {op : Op} {t : TypeId} {ps : String} {af : Array Edge} {g : Option (Nat × Bool)} {r : List Oper} (k : Nat) (hi : ch[k]? = some i) (h : StepQ P ops Q a0 W val dp rd (WI k) (WI (k + 1)) i ⟨some d, op, t, ps, af, g⟩ d) (hr : StepsC P ops Q a0 W val dp rd ch WI (i + 1) r) : StepsC P ops Q a0 W val dp rd ch WI i (⟨some d, op, t, ps, af, g⟩ :: r)
theorem StepsC.at_ {P : Program} {ops : Array Oper} {Q : Exit → Act → World → Prop} {a0 : Act} {W : List Nat} {val : Nat → Value} {dp rd : Nat → List (Nat × Nat)} {ch : List Nat} {WI : Nat → World → Prop} {s : Nat} {l : List Oper} (h : StepsC P ops Q a0 W val dp rd ch WI s l) :
    ∀ (i : Nat) (o : Oper) (d : Nat), l[i]? = some o → o.dst = some d → (s + i ∉ ch ∧ ∀ k, StepQ P ops Q a0 W val dp rd (WI k) (WI k) (s + i) o d) ∨ ∃ k, ch[k]? = some (s + i) ∧ StepQ P ops Q a0 W val dp rd (WI k) (WI (k + 1)) (s + i) o d := by
  induction h with
  | nil s => intro i o d hi; simp at hi
  | @quiet s d0 op t ps af g r h1 h2 hr ih =>
    intro i o d hi hd
    cases i with
    | zero =>
      simp only [List.getElem?_cons_zero, Option.some.injEq] at hi
      subst hi
      injection hd with hd
      subst hd
      exact .inl ⟨of_decide_eq_false h1, h2⟩
    | succ i =>
      rw [List.getElem?_cons_succ] at hi
      have := ih i o d hi hd
      rw [show s + (i + 1) = s + 1 + i by omega]
      exact this
  | @call s d0 op t ps af g r k h1 h2 hr ih =>
    intro i o d hi hd
    cases i with
    | zero =>
      simp only [List.getElem?_cons_zero, Option.some.injEq] at hi
      subst hi
      injection hd with hd
      subst hd
      exact .inr ⟨k, h1, h2⟩
    | succ i =>
      rw [List.getElem?_cons_succ] at hi
      have := ih i o d hi hd
      rw [show s + (i + 1) = s + 1 + i by omega]
      exact this
theorem nodup_get : ∀ {ch : List Nat}, ch.Nodup → ∀ {i j x : Nat}, ch[i]? = some x → ch[j]? = some x → i = j
  | [], _, i, j, x, hi, _ => by simp at hi
  | c :: ch, h, i, j, x, hi, hj => by
    rw [List.nodup_cons] at h
    cases i with
    | zero =>
      cases j with
      | zero => rfl
      | succ j =>
        exfalso
        rw [List.getElem?_cons_zero] at hi
        injection hi with hi
        rw [List.getElem?_cons_succ] at hj
        exact h.1 (hi ▸ List.mem_of_getElem? hj)
    | succ i =>
      cases j with
      | zero =>
        exfalso
        rw [List.getElem?_cons_zero] at hj
        injection hj with hj
        rw [List.getElem?_cons_succ] at hi
        exact h.1 (hj ▸ List.mem_of_getElem? hi)
      | succ j =>
        rw [List.getElem?_cons_succ] at hi hj
        rw [nodup_get h.2 hi hj]
theorem ov_congr (a0 : Act) (u v : Nat → Value) : ∀ (W : List Nat), (∀ d ∈ W, u d = v d) → ov a0 W u = ov a0 W v := by
  intro W
  induction W generalizing a0 with
  | nil => intro _; rfl
  | cons d W ih =>
    intro h
    show ov (a0.put (some d) (u d)) W u = ov (a0.put (some d) (v d)) W v
    rw [h d (List.mem_cons_self ..)]
    exact ih _ (fun x hx => h x (List.mem_cons_of_mem _ hx))
theorem region_chain {P : Program} {md : Region.Mode} {l : List Oper} {Q : Exit → Act → World → Prop} (a0 : Act) (w0 : World) (W : List Nat) (val : Nat → Value) (dp rd : Nat → List (Nat × Nat)) (ch : List Nat) (WI : Nat → World → Prop)
    (hW : W.all (fun d => decide (d < a0.tmps.size)) = true) (hWd : (W.all fun d => l.any fun o => o.dst == some d) = true) (hdW : ((List.range l.toArray.size).all fun i => (dp i).all fun p => W.contains p.2) = true) (hok : regOkC md l.toArray W dp rd ch = true)
    (h0 : WI 0 w0) (step : StepsC P l.toArray Q a0 W val dp rd ch WI 0 l) (fin : ∀ w, WI ch.length w → Q .normal (ov a0 W val) w) :
    wpAny P md l.toArray Q l.toArray.size (Array.replicate l.toArray.size false) a0 w0 := by
  unfold regOkC at hok
  rw [Bool.and_eq_true, Bool.and_eq_true, Bool.and_eq_true, Bool.and_eq_true, Bool.and_eq_true, Bool.and_eq_true, Bool.and_eq_true] at hok
  obtain ⟨⟨⟨⟨⟨⟨⟨hin, hdp⟩, hds⟩, hdd⟩, hch⟩, hnd⟩, hcl⟩, hrd⟩ := hok
  have hnd := of_decide_eq_true hnd
  refine wpAny_bar l.toArray.size (RinC md l.toArray W val ch WI a0) ?_ ?_ ?_ _ _ a0 w0 (by rw [Array.toList_replicate, List.count_replicate]; simp) ⟨by simp, ⟨0, Nat.zero_le _, h0, fun j x _ => by rw [repl_getD]; simp⟩, (fun j o x _ h => by rw [repl_getD] at h; cases h), fun j => a0.tmps.getD j undef, (ov_self a0 W).symm, (fun i o d _ _ h => by rw [repl_getD] at h; cases h), fun i o d _ _ _ => rfl⟩
  · intro listed a w hI hnb i hi
    obtain ⟨hsz, ⟨k, hk, hWI, hkl⟩, hclo, u, rfl, hat, hun⟩ := hI
    obtain ⟨hf, o, ho, hdep⟩ := mem_ready.1 hi
    have hlt : i < l.toArray.size := (Array.getElem?_eq_some_iff.1 ho).1
    have hfi : listed.getD i false = false := by
      rw [Array.getD_eq_getD_getElem?]
      rw [Array.getD_eq_getD_getElem?] at hf
      cases hq : listed[i]? with
      | none => rfl
      | some x => rw [hq] at hf; exact hf
    have h3 := all_range hds i hlt
    rw [ho, Option.map_some, Option.getD_some] at h3
    have h2 := all_range hdp i hlt
    rw [ho, Option.map_some, Option.getD_some] at h2
    cases hd : o.dst with
    | none => rw [hd] at h3; cases h3
    | some d =>
      rw [hd] at h3
      have hdW' : d ∈ W := by simpa using h3
      have hargs : ∀ p ∈ dp i, (ov a0 W u).eval (.tmp p.2) = val p.2 := fun p hp => by
        have h1 := List.all_eq_true.1 (all_range hdW i hlt) p hp
        have h2' : p.2 ∈ W := by simpa using h1
        have h3' := of_decide_eq_true (List.all_eq_true.1 hW p.2 h2')
        rw [ov_eval a0 W u p.2 h2' h3']
        have h4 := List.all_eq_true.1 h2 p hp
        rw [Bool.and_eq_true] at h4
        obtain ⟨h5, h6⟩ := h4
        cases hq : l.toArray[p.1]? with
        | none => rw [hq] at h6; cases h6
        | some q =>
          rw [hq] at h6
          simp only [Option.map_some, Option.getD_some, beq_iff_eq] at h6
          exact hat p.1 q p.2 hq h6 (dep hdep p.1 h5)
      have hreads : ∀ p ∈ rd i, (ov a0 W u).eval (.tmp p.2) = a0.eval (.tmp p.2) := fun p hp => by
        have h1 := List.all_eq_true.1 (all_range hrd i hlt) p hp
        rw [Bool.and_eq_true] at h1
        have h2' : p.2 ∈ W := by simpa using h1.1
        have h3' := of_decide_eq_true (List.all_eq_true.1 hW p.2 h2')
        rw [ov_eval a0 W u p.2 h2' h3']
        cases hq : l.toArray[p.1]? with
        | none => rw [hq] at h1; cases h1.2
        | some q =>
          rw [hq] at h1
          have h6 := h1.2
          simp only [Option.map_some, Option.getD_some, Bool.and_eq_true, beq_iff_eq] at h6
          refine (hun p.1 q p.2 hq h6.1 ?_)
          cases hl : listed.getD p.1 false with
          | false => rfl
          | true =>
            exfalso
            have := hclo p.1 q i hq hl h6.2
            rw [hfi] at this
            cases this
      have hput : ∀ (w' : World) (k' : Nat), k' ≤ ch.length → WI k' w' → (∀ j x, ch[j]? = some x → (listed.setIfInBounds i true).getD x false = decide (j < k')) → RinC md l.toArray W val ch WI a0 (listed.setIfInBounds i true) ((ov a0 W u).put (some d) (val d)) w' := fun w' k' hk' hWI' hl' => by
        refine ⟨by simp [hsz], ⟨k', hk', hWI', hl'⟩, fun j q x hq hl hx => ?_, Go.Proofs.YtpcbmjphffpplaaGreatDoor.upd u d (val d), ov_put a0 W u d (val d) hdW', fun j q d' hq hd' hl => ?_, fun j q d' hq hd' hl => ?_⟩
        · rw [getD_set _ _ _ (by omega)] at hl ⊢
          by_cases hij : i = j
          · subst hij
            rw [ho] at hq
            injection hq with hq
            subst hq
            by_cases hix : i = x
            · rw [if_pos hix]
            · rw [if_neg hix]
              exact dep hdep x hx
          · rw [if_neg hij] at hl
            by_cases hix : i = x
            · rw [if_pos hix]
            · rw [if_neg hix]
              exact hclo j q x hq hl hx
        rotate_left
        · rw [getD_set _ _ _ (by omega)] at hl
          have hij : i ≠ j := fun e => by rw [if_pos e] at hl; cases hl
          rw [if_neg hij] at hl
          have hjl : j < l.toArray.size := (Array.getElem?_eq_some_iff.1 hq).1
          have h7 := all_range (all_range hdd i hlt) j hjl
          have hbf : (i == j) = false := by simpa using hij
          rw [ho, hq, hbf] at h7
          simp only [Option.map_some, Option.getD_some, Bool.false_or, hd, hd'] at h7
          have hdd' : d' ≠ d := by
            rintro rfl
            simp at h7
          show (if d' = d then val d else u d') = _
          rw [if_neg hdd']
          exact hun j q d' hq hd' hl
        rw [getD_set _ _ _ (by omega)] at hl
        by_cases hij : i = j
        · subst hij
          rw [ho] at hq
          injection hq with hq
          subst hq
          rw [hd] at hd'
          injection hd' with hd'
          subst hd'
          show (if d = d then val d else u d) = val d
          rw [if_pos rfl]
        · rw [if_neg hij] at hl
          have hjl : j < l.toArray.size := (Array.getElem?_eq_some_iff.1 hq).1
          have h7 := all_range (all_range hdd i hlt) j hjl
          have hbf : (i == j) = false := by simpa using hij
          rw [ho, hq, hbf] at h7
          simp only [Option.map_some, Option.getD_some, Bool.false_or, hd, hd'] at h7
          have hdd' : d' ≠ d := by
            rintro rfl
            simp at h7
          show (if d' = d then val d else u d') = val d'
          rw [if_neg hdd']
          exact hat j q d' hq hd' hl
      refine wpOp_step ho (fun K hK => ?_)
      have hst := step.at_ i o d (by simpa using ho) hd
      rw [Nat.zero_add] at hst
      rcases hst with ⟨hni, hs⟩ | ⟨k2, hk2, hs⟩
      · refine hs k _ w hWI (fun j hj => ov_eval_ne a0 W u j hj) hargs hreads K (fun w' hw' => hK _ _ (hput w' k hk hw' (fun j x hx => ?_)))
        rw [getD_set _ _ _ (by omega), if_neg (fun e => hni (by rw [e]; exact List.mem_of_getElem? hx))]
        exact hkl j x hx
      · have hkk : k = k2 := by
          have h1 := hkl k2 i hk2
          rw [hfi] at h1
          have h1' : ¬ k2 < k := fun hh => by rw [decide_eq_true hh] at h1; cases h1
          rcases Nat.lt_or_ge k k2 with hh | hh
          · exfalso
            -- the one ahead of it in the chain is listed
            obtain ⟨j, rfl⟩ : ∃ j, k2 = j + 1 := ⟨k2 - 1, by omega⟩
            have hjl : j + 1 < ch.length := (List.getElem?_eq_some_iff.1 hk2).1
            have h5 := all_range hch j (by omega)
            rw [List.getElem?_eq_getElem (show j < ch.length by omega), hk2] at h5
            simp only [ho, Option.map_some, Option.getD_some] at h5
            have h6 := dep hdep _ h5
            rw [hkl j _ (List.getElem?_eq_getElem (show j < ch.length by omega))] at h6
            have := of_decide_eq_true h6
            omega
          · omega
        subst hkk
        have hkl2 : k < ch.length := (List.getElem?_eq_some_iff.1 hk2).1
        refine hs _ w hWI (fun j hj => ov_eval_ne a0 W u j hj) hargs hreads K (fun w' hw' => hK _ _ (hput w' (k + 1) hkl2 hw' (fun j x hx => ?_)))
        rw [getD_set _ _ _ (by omega)]
        by_cases hix : i = x
        · subst hix
          rw [if_pos rfl, nodup_get hnd hx hk2]
          exact (decide_eq_true (by omega)).symm
        · rw [if_neg hix, hkl j x hx]
          have hjk : j ≠ k := by
            rintro rfl
            rw [hx] at hk2
            injection hk2 with e
            exact hix e.symm
          congr 1
          exact propext ⟨fun h => by omega, fun h => by omega⟩
  · intro fuel listed a w hI hb hc
    exfalso
    obtain ⟨_, o, ho, _⟩ := mem_ready.1 hb
    have := (Array.getElem?_eq_some_iff.1 ho).1
    omega
  · intro listed a w hI hr
    obtain ⟨hsz, ⟨k, hk, hWI, hkl⟩, hclo, u, rfl, hat, hun⟩ := hI
    have hl := all_listed hr hin hsz
    subst hl
    have hkc : k = ch.length := by
      rcases Nat.lt_or_ge k ch.length with h | h
      · exfalso
        have h1 := hkl k _ (List.getElem?_eq_getElem h)
        have h2 := of_decide_eq_true (List.all_eq_true.1 hcl _ (List.getElem_mem h))
        rw [decide_eq_false (by omega), Array.getD_eq_getD_getElem?, Array.getElem?_replicate, if_pos h2] at h1
        cases h1
      · omega
    subst hkc
    have hu : ov a0 W u = ov a0 W val := ov_congr a0 u val W (fun d hd => by
      obtain ⟨o, ho, hod⟩ := List.any_eq_true.1 (List.all_eq_true.1 hWd d hd)
      obtain ⟨i, hi, e⟩ := List.mem_iff_getElem.1 ho
      have ho2 : l.toArray[i]? = some o := by simp [List.getElem?_eq_getElem hi, e]
      have hlt : i < l.toArray.size := (Array.getElem?_eq_some_iff.1 ho2).1
      exact hat i o d ho2 (by simpa using hod) (by rw [Array.getD_eq_getD_getElem?, Array.getElem?_replicate, if_pos hlt]; rfl))
    rw [hu]
    exact fin w hWI
end Go.Proofs.YtpcbmjphffpplaaGreatDoor
namespace Go.Proofs.YtpcbmjphffpplaaGreatDoor
open Go.RowKit
set_option linter.unusedVariables false
set_option linter.unusedSimpArgs false
structure RinT {τ : Type} (md : Region.Mode) (ops : Array Oper) (W : List Nat) (val : τ → Nat → Value) (ch : List Nat) (WI : Nat → τ → World → Prop) (a0 : Act) (listed : Array Bool) (a : Act) (w : World) : Prop where
  size : listed.size = ops.size
  cl : ∀ (j : Nat) (o : Oper) (x : Nat), ops[j]? = some o → listed.getD j false = true → (o.after.any fun e => Region.binds md e && e.on == x) = true → listed.getD x false = true
  wi : ∃ k t, k ≤ ch.length ∧ WI k t w ∧ (∀ j x, ch[j]? = some x → listed.getD x false = decide (j < k)) ∧ ∃ u, a = ov a0 W u ∧ (∀ i o d, ops[i]? = some o → o.dst = some d → listed.getD i false = true → u d = val t d) ∧ ∀ i o d, ops[i]? = some o → o.dst = some d → listed.getD i false = false → u d = a0.tmps.getD d undef
/-- One step of an operation that only reads. -/
def StepT {τ : Type} (P : Program) (ops : Array Oper) (Q : Exit → Act → World → Prop) (a0 : Act) (W : List Nat) (val : τ → Nat → Value) (dp rd : Nat → List (Nat × Nat)) (I : τ → World → Prop) (i : Nat) (o : Oper) (d : Nat) : Prop :=
  ∀ t a w, I t w → (∀ j, j ∉ W → a.eval (.tmp j) = a0.eval (.tmp j)) → (∀ p ∈ dp i, a.eval (.tmp p.2) = val t p.2) → (∀ p ∈ rd i, a.eval (.tmp p.2) = a0.eval (.tmp p.2)) →
      ∀ K : Act → World → Prop, (∀ w', I t w' → K (a.put (some d) (val t d)) w') → if Region.wanted o (yielded ops a.tmps) = true then Oper.wp P o a w K Q else K (a.put o.dst undef) w
/-- One step of a call: it may draw. -/
def CallT {τ : Type} (P : Program) (ops : Array Oper) (Q : Exit → Act → World → Prop) (a0 : Act) (W : List Nat) (val : τ → Nat → Value) (dp rd : Nat → List (Nat × Nat)) (I J : τ → World → Prop) (i : Nat) (o : Oper) (d : Nat) : Prop :=
  ∀ t a w, I t w → (∀ j, j ∉ W → a.eval (.tmp j) = a0.eval (.tmp j)) → (∀ p ∈ dp i, a.eval (.tmp p.2) = val t p.2) → (∀ p ∈ rd i, a.eval (.tmp p.2) = a0.eval (.tmp p.2)) →
      ∀ K : Act → World → Prop, (∀ t' w', J t' w' → (∀ d', d' ≠ d → val t' d' = val t d') → K (a.put (some d) (val t' d)) w') → if Region.wanted o (yielded ops a.tmps) = true then Oper.wp P o a w K Q else K (a.put o.dst undef) w
inductive StepsT {τ : Type} (P : Program) (ops : Array Oper) (Q : Exit → Act → World → Prop) (a0 : Act) (W : List Nat) (val : τ → Nat → Value) (dp rd : Nat → List (Nat × Nat)) (ch : List Nat) (WI : Nat → τ → World → Prop) : Nat → List Oper → Prop
  | nil (i : Nat) : StepsT P ops Q a0 W val dp rd ch WI i []
  | quiet {i d : Nat} {op : Op} {t : TypeId} {ps : String} {af : Array Edge} {g : Option (Nat × Bool)} {r : List Oper} (hi : decide (i ∈ ch) = false) (h : ∀ k, StepT P ops Q a0 W val dp rd (WI k) i ⟨some d, op, t, ps, af, g⟩ d) (hr : StepsT P ops Q a0 W val dp rd ch WI (i + 1) r) : StepsT P ops Q a0 W val dp rd ch WI i (⟨some d, op, t, ps, af, g⟩ :: r)
  | call {i d : Nat} {op : Op} {t : TypeId} {ps : String} {af : Array Edge} {g : Option (Nat × Bool)} {r : List Oper} (k : Nat) (hi : ch[k]? = some i) (h : CallT P ops Q a0 W val dp rd (WI k) (WI (k + 1)) i ⟨some d, op, t, ps, af, g⟩ d) (hr : StepsT P ops Q a0 W val dp rd ch WI (i + 1) r) : StepsT P ops Q a0 W val dp rd ch WI i (⟨some d, op, t, ps, af, g⟩ :: r)
theorem StepsT.at_ {τ : Type} {P : Program} {ops : Array Oper} {Q : Exit → Act → World → Prop} {a0 : Act} {W : List Nat} {val : τ → Nat → Value} {dp rd : Nat → List (Nat × Nat)} {ch : List Nat} {WI : Nat → τ → World → Prop} {s : Nat} {l : List Oper} (h : StepsT P ops Q a0 W val dp rd ch WI s l) :
    ∀ (i : Nat) (o : Oper) (d : Nat), l[i]? = some o → o.dst = some d → (s + i ∉ ch ∧ ∀ k, StepT P ops Q a0 W val dp rd (WI k) (s + i) o d) ∨ ∃ k, ch[k]? = some (s + i) ∧ CallT P ops Q a0 W val dp rd (WI k) (WI (k + 1)) (s + i) o d := by
  induction h with
  | nil s => intro i o d hi; simp at hi
  | @quiet s d0 op t ps af g r h1 h2 hr ih =>
    intro i o d hi hd
    cases i with
    | zero =>
      simp only [List.getElem?_cons_zero, Option.some.injEq] at hi
      subst hi
      injection hd with hd
      subst hd
      exact .inl ⟨of_decide_eq_false h1, h2⟩
    | succ i =>
      rw [List.getElem?_cons_succ] at hi
      have := ih i o d hi hd
      rw [show s + (i + 1) = s + 1 + i by omega]
      exact this
  | @call s d0 op t ps af g r k h1 h2 hr ih =>
    intro i o d hi hd
    cases i with
    | zero =>
      simp only [List.getElem?_cons_zero, Option.some.injEq] at hi
      subst hi
      injection hd with hd
      subst hd
      exact .inr ⟨k, h1, h2⟩
    | succ i =>
      rw [List.getElem?_cons_succ] at hi
      have := ih i o d hi hd
      rw [show s + (i + 1) = s + 1 + i by omega]
      exact this
theorem region_chainT {τ : Type} {P : Program} {md : Region.Mode} {l : List Oper} {Q : Exit → Act → World → Prop} (a0 : Act) (w0 : World) (W : List Nat) (val : τ → Nat → Value) (dp rd : Nat → List (Nat × Nat)) (ch : List Nat) (WI : Nat → τ → World → Prop)
    (hW : W.all (fun d => decide (d < a0.tmps.size)) = true) (hWd : (W.all fun d => l.any fun o => o.dst == some d) = true) (hdW : ((List.range l.toArray.size).all fun i => (dp i).all fun p => W.contains p.2) = true) (hok : regOkC md l.toArray W dp rd ch = true)
    (t0 : τ) (h0 : WI 0 t0 w0) (step : StepsT P l.toArray Q a0 W val dp rd ch WI 0 l) (fin : ∀ t w, WI ch.length t w → Q .normal (ov a0 W (val t)) w) :
    wpAny P md l.toArray Q l.toArray.size (Array.replicate l.toArray.size false) a0 w0 := by
  unfold regOkC at hok
  rw [Bool.and_eq_true, Bool.and_eq_true, Bool.and_eq_true, Bool.and_eq_true, Bool.and_eq_true, Bool.and_eq_true, Bool.and_eq_true] at hok
  obtain ⟨⟨⟨⟨⟨⟨⟨hin, hdp⟩, hds⟩, hdd⟩, hch⟩, hnd⟩, hcl⟩, hrd⟩ := hok
  have hnd := of_decide_eq_true hnd
  refine wpAny_bar l.toArray.size (RinT md l.toArray W val ch WI a0) ?_ ?_ ?_ _ _ a0 w0 (by rw [Array.toList_replicate, List.count_replicate]; simp) ⟨by simp, (fun j o x _ h => by rw [repl_getD] at h; cases h), 0, t0, Nat.zero_le _, h0, (fun j x _ => by rw [repl_getD]; simp), fun j => a0.tmps.getD j undef, (ov_self a0 W).symm, (fun i o d _ _ h => by rw [repl_getD] at h; cases h), fun i o d _ _ _ => rfl⟩
  · intro listed a w hI hnb i hi
    obtain ⟨hsz, hclo, k, t, hk, hWI, hkl, u, rfl, hat, hun⟩ := hI
    obtain ⟨hf, o, ho, hdep⟩ := mem_ready.1 hi
    have hlt : i < l.toArray.size := (Array.getElem?_eq_some_iff.1 ho).1
    have hfi : listed.getD i false = false := by
      rw [Array.getD_eq_getD_getElem?]
      rw [Array.getD_eq_getD_getElem?] at hf
      cases hq : listed[i]? with
      | none => rfl
      | some x => rw [hq] at hf; exact hf
    have h3 := all_range hds i hlt
    rw [ho, Option.map_some, Option.getD_some] at h3
    have h2 := all_range hdp i hlt
    rw [ho, Option.map_some, Option.getD_some] at h2
    cases hd : o.dst with
    | none => rw [hd] at h3; cases h3
    | some d =>
      rw [hd] at h3
      have hdW' : d ∈ W := by simpa using h3
      have hargs : ∀ p ∈ dp i, (ov a0 W u).eval (.tmp p.2) = val t p.2 := fun p hp => by
        have h1 := List.all_eq_true.1 (all_range hdW i hlt) p hp
        have h2' : p.2 ∈ W := by simpa using h1
        have h3' := of_decide_eq_true (List.all_eq_true.1 hW p.2 h2')
        rw [ov_eval a0 W u p.2 h2' h3']
        have h4 := List.all_eq_true.1 h2 p hp
        rw [Bool.and_eq_true] at h4
        obtain ⟨h5, h6⟩ := h4
        cases hq : l.toArray[p.1]? with
        | none => rw [hq] at h6; cases h6
        | some q =>
          rw [hq] at h6
          simp only [Option.map_some, Option.getD_some, beq_iff_eq] at h6
          exact hat p.1 q p.2 hq h6 (dep hdep p.1 h5)
      have hreads : ∀ p ∈ rd i, (ov a0 W u).eval (.tmp p.2) = a0.eval (.tmp p.2) := fun p hp => by
        have h1 := List.all_eq_true.1 (all_range hrd i hlt) p hp
        rw [Bool.and_eq_true] at h1
        have h2' : p.2 ∈ W := by simpa using h1.1
        have h3' := of_decide_eq_true (List.all_eq_true.1 hW p.2 h2')
        rw [ov_eval a0 W u p.2 h2' h3']
        cases hq : l.toArray[p.1]? with
        | none => rw [hq] at h1; cases h1.2
        | some q =>
          rw [hq] at h1
          have h6 := h1.2
          simp only [Option.map_some, Option.getD_some, Bool.and_eq_true, beq_iff_eq] at h6
          refine (hun p.1 q p.2 hq h6.1 ?_)
          cases hl : listed.getD p.1 false with
          | false => rfl
          | true =>
            exfalso
            have := hclo p.1 q i hq hl h6.2
            rw [hfi] at this
            cases this
      have hput : ∀ (w' : World) (k' : Nat) (t' : τ), k' ≤ ch.length → WI k' t' w' → (∀ d', d' ≠ d → val t' d' = val t d') → (∀ j x, ch[j]? = some x → (listed.setIfInBounds i true).getD x false = decide (j < k')) → RinT md l.toArray W val ch WI a0 (listed.setIfInBounds i true) ((ov a0 W u).put (some d) (val t' d)) w' := fun w' k' t' hk' hWI' hval hl' => by
        refine ⟨by simp [hsz], fun j q x hq hl hx => ?_, k', t', hk', hWI', hl', Go.Proofs.YtpcbmjphffpplaaGreatDoor.upd u d (val t' d), ov_put a0 W u d (val t' d) hdW', fun j q d' hq hd' hl => ?_, fun j q d' hq hd' hl => ?_⟩
        · rw [getD_set _ _ _ (by omega)] at hl ⊢
          by_cases hij : i = j
          · subst hij
            rw [ho] at hq
            injection hq with hq
            subst hq
            by_cases hix : i = x
            · rw [if_pos hix]
            · rw [if_neg hix]
              exact dep hdep x hx
          · rw [if_neg hij] at hl
            by_cases hix : i = x
            · rw [if_pos hix]
            · rw [if_neg hix]
              exact hclo j q x hq hl hx
        rotate_left
        · rw [getD_set _ _ _ (by omega)] at hl
          have hij : i ≠ j := fun e => by rw [if_pos e] at hl; cases hl
          rw [if_neg hij] at hl
          have hjl : j < l.toArray.size := (Array.getElem?_eq_some_iff.1 hq).1
          have h7 := all_range (all_range hdd i hlt) j hjl
          have hbf : (i == j) = false := by simpa using hij
          rw [ho, hq, hbf] at h7
          simp only [Option.map_some, Option.getD_some, Bool.false_or, hd, hd'] at h7
          have hdd' : d' ≠ d := by
            rintro rfl
            simp at h7
          show (if d' = d then val t' d else u d') = _
          rw [if_neg hdd']
          exact hun j q d' hq hd' hl
        rw [getD_set _ _ _ (by omega)] at hl
        by_cases hij : i = j
        · subst hij
          rw [ho] at hq
          injection hq with hq
          subst hq
          rw [hd] at hd'
          injection hd' with hd'
          subst hd'
          show (if d = d then val t' d else u d) = val t' d
          rw [if_pos rfl]
        · rw [if_neg hij] at hl
          have hjl : j < l.toArray.size := (Array.getElem?_eq_some_iff.1 hq).1
          have h7 := all_range (all_range hdd i hlt) j hjl
          have hbf : (i == j) = false := by simpa using hij
          rw [ho, hq, hbf] at h7
          simp only [Option.map_some, Option.getD_some, Bool.false_or, hd, hd'] at h7
          have hdd' : d' ≠ d := by
            rintro rfl
            simp at h7
          show (if d' = d then val t' d else u d') = val t' d'
          rw [if_neg hdd', hval d' hdd']
          exact hat j q d' hq hd' hl
      refine wpOp_step ho (fun K hK => ?_)
      have hst := step.at_ i o d (by simpa using ho) hd
      rw [Nat.zero_add] at hst
      rcases hst with ⟨hni, hs⟩ | ⟨k2, hk2, hs⟩
      · refine hs k t _ w hWI (fun j hj => ov_eval_ne a0 W u j hj) hargs hreads K (fun w' hw' => hK _ _ (hput w' k t hk hw' (fun _ _ => rfl) (fun j x hx => ?_)))
        rw [getD_set _ _ _ (by omega), if_neg (fun e => hni (by rw [e]; exact List.mem_of_getElem? hx))]
        exact hkl j x hx
      · have hkk : k = k2 := by
          have h1 := hkl k2 i hk2
          rw [hfi] at h1
          have h1' : ¬ k2 < k := fun hh => by rw [decide_eq_true hh] at h1; cases h1
          rcases Nat.lt_or_ge k k2 with hh | hh
          · exfalso
            -- the one ahead of it in the chain is listed
            obtain ⟨j, rfl⟩ : ∃ j, k2 = j + 1 := ⟨k2 - 1, by omega⟩
            have hjl : j + 1 < ch.length := (List.getElem?_eq_some_iff.1 hk2).1
            have h5 := all_range hch j (by omega)
            rw [List.getElem?_eq_getElem (show j < ch.length by omega), hk2] at h5
            simp only [ho, Option.map_some, Option.getD_some] at h5
            have h6 := dep hdep _ h5
            rw [hkl j _ (List.getElem?_eq_getElem (show j < ch.length by omega))] at h6
            have := of_decide_eq_true h6
            omega
          · omega
        subst hkk
        have hkl2 : k < ch.length := (List.getElem?_eq_some_iff.1 hk2).1
        refine hs t _ w hWI (fun j hj => ov_eval_ne a0 W u j hj) hargs hreads K (fun t' w' hw' hv => hK _ _ (hput w' (k + 1) t' hkl2 hw' hv (fun j x hx => ?_)))
        rw [getD_set _ _ _ (by omega)]
        by_cases hix : i = x
        · subst hix
          rw [if_pos rfl, nodup_get hnd hx hk2]
          exact (decide_eq_true (by omega)).symm
        · rw [if_neg hix, hkl j x hx]
          have hjk : j ≠ k := by
            rintro rfl
            rw [hx] at hk2
            injection hk2 with e
            exact hix e.symm
          congr 1
          exact propext ⟨fun h => by omega, fun h => by omega⟩
  · intro fuel listed a w hI hb hc
    exfalso
    obtain ⟨_, o, ho, _⟩ := mem_ready.1 hb
    have := (Array.getElem?_eq_some_iff.1 ho).1
    omega
  · intro listed a w hI hr
    obtain ⟨hsz, hclo, k, t, hk, hWI, hkl, u, rfl, hat, hun⟩ := hI
    have hl := all_listed hr hin hsz
    subst hl
    have hkc : k = ch.length := by
      rcases Nat.lt_or_ge k ch.length with h | h
      · exfalso
        have h1 := hkl k _ (List.getElem?_eq_getElem h)
        have h2 := of_decide_eq_true (List.all_eq_true.1 hcl _ (List.getElem_mem h))
        rw [decide_eq_false (by omega), Array.getD_eq_getD_getElem?, Array.getElem?_replicate, if_pos h2] at h1
        cases h1
      · omega
    subst hkc
    have hu : ov a0 W u = ov a0 W (val t) := ov_congr a0 u (val t) W (fun d hd => by
      obtain ⟨o, ho, hod⟩ := List.any_eq_true.1 (List.all_eq_true.1 hWd d hd)
      obtain ⟨i, hi, e⟩ := List.mem_iff_getElem.1 ho
      have ho2 : l.toArray[i]? = some o := by simp [List.getElem?_eq_getElem hi, e]
      have hlt : i < l.toArray.size := (Array.getElem?_eq_some_iff.1 ho2).1
      exact hat i o d ho2 (by simpa using hod) (by rw [Array.getD_eq_getD_getElem?, Array.getElem?_replicate, if_pos hlt]; rfl))
    rw [hu]
    exact fin t w hWI
end Go.Proofs.YtpcbmjphffpplaaGreatDoor
namespace Go.Proofs.YtpcbmjphffpplaaGreatDoor
open Go.RowKit
set_option linter.unusedVariables false
set_option linter.unusedSimpArgs false
structure RinS {τ : Type} (md : Region.Mode) (ops : Array Oper) (W : List Nat) (val : τ → Nat → Value) (ch : List Nat) (WI : Nat → τ → World → Prop) (a0 : Act) (listed : Array Bool) (b : Nat) (a : Act) (w : World) : Prop where
  nb : listed.getD b false = false
  size : listed.size = ops.size
  cl : ∀ (j : Nat) (o : Oper) (x : Nat), ops[j]? = some o → listed.getD j false = true → (o.after.any fun e => Region.binds md e && e.on == x) = true → listed.getD x false = true
  wi : ∃ k t, k ≤ ch.length ∧ WI k t w ∧ (∀ j x, ch[j]? = some x → listed.getD x false = decide (j < k)) ∧ ∃ u, a = ov a0 W u ∧ (∀ i o d, ops[i]? = some o → o.dst = some d → listed.getD i false = true → u d = val t d) ∧ ∀ i o d, ops[i]? = some o → o.dst = some d → listed.getD i false = false → u d = a0.tmps.getD d undef
/-- The last operation: whatever it leaves, the region is over. -/
def LastS {τ : Type} (P : Program) (ops : Array Oper) (Q : Exit → Act → World → Prop) (a0 : Act) (W : List Nat) (val : τ → Nat → Value) (I : τ → World → Prop) (o : Oper) : Prop :=
  ∀ t w, I t w → ∀ K : Act → World → Prop, (∀ a' w', Q .normal a' w' → K a' w') → if Region.wanted o (yielded ops (ov a0 W (val t)).tmps) = true then Oper.wp P o (ov a0 W (val t)) w K Q else K ((ov a0 W (val t)).put o.dst undef) w
inductive StepsS {τ : Type} (P : Program) (ops : Array Oper) (Q : Exit → Act → World → Prop) (a0 : Act) (W : List Nat) (val : τ → Nat → Value) (dp rd : Nat → List (Nat × Nat)) (ch : List Nat) (WI : Nat → τ → World → Prop) : Nat → List Oper → Prop
  | last {i : Nat} {o : Oper} (h : LastS P ops Q a0 W val (WI ch.length) o) : StepsS P ops Q a0 W val dp rd ch WI i [o]
  | quiet {i d : Nat} {op : Op} {t : TypeId} {ps : String} {af : Array Edge} {g : Option (Nat × Bool)} {r : List Oper} (hi : decide (i ∈ ch) = false) (h : ∀ k, StepT P ops Q a0 W val dp rd (WI k) i ⟨some d, op, t, ps, af, g⟩ d) (hr : StepsS P ops Q a0 W val dp rd ch WI (i + 1) r) : StepsS P ops Q a0 W val dp rd ch WI i (⟨some d, op, t, ps, af, g⟩ :: r)
  | call {i d : Nat} {op : Op} {t : TypeId} {ps : String} {af : Array Edge} {g : Option (Nat × Bool)} {r : List Oper} (k : Nat) (hi : ch[k]? = some i) (h : CallT P ops Q a0 W val dp rd (WI k) (WI (k + 1)) i ⟨some d, op, t, ps, af, g⟩ d) (hr : StepsS P ops Q a0 W val dp rd ch WI (i + 1) r) : StepsS P ops Q a0 W val dp rd ch WI i (⟨some d, op, t, ps, af, g⟩ :: r)
theorem StepsS.at_ {τ : Type} {P : Program} {ops : Array Oper} {Q : Exit → Act → World → Prop} {a0 : Act} {W : List Nat} {val : τ → Nat → Value} {dp rd : Nat → List (Nat × Nat)} {ch : List Nat} {WI : Nat → τ → World → Prop} {s : Nat} {l : List Oper} (h : StepsS P ops Q a0 W val dp rd ch WI s l) :
    ∀ (i : Nat) (o : Oper) (d : Nat), i + 1 < l.length → l[i]? = some o → o.dst = some d → (s + i ∉ ch ∧ ∀ k, StepT P ops Q a0 W val dp rd (WI k) (s + i) o d) ∨ ∃ k, ch[k]? = some (s + i) ∧ CallT P ops Q a0 W val dp rd (WI k) (WI (k + 1)) (s + i) o d := by
  induction h with
  | last h => intro i o d hil hi; simp at hil
  | @quiet s d0 op t ps af g r h1 h2 hr ih =>
    intro i o d hil hi hd
    cases i with
    | zero =>
      simp only [List.getElem?_cons_zero, Option.some.injEq] at hi
      subst hi
      injection hd with hd
      subst hd
      exact .inl ⟨of_decide_eq_false h1, h2⟩
    | succ i =>
      rw [List.getElem?_cons_succ] at hi
      have := ih i o d (by simp at hil ⊢; omega) hi hd
      rw [show s + (i + 1) = s + 1 + i by omega]
      exact this
  | @call s d0 op t ps af g r k h1 h2 hr ih =>
    intro i o d hil hi hd
    cases i with
    | zero =>
      simp only [List.getElem?_cons_zero, Option.some.injEq] at hi
      subst hi
      injection hd with hd
      subst hd
      exact .inr ⟨k, h1, h2⟩
    | succ i =>
      rw [List.getElem?_cons_succ] at hi
      have := ih i o d (by simp at hil ⊢; omega) hi hd
      rw [show s + (i + 1) = s + 1 + i by omega]
      exact this
theorem StepsS.at_last {τ : Type} {P : Program} {ops : Array Oper} {Q : Exit → Act → World → Prop} {a0 : Act} {W : List Nat} {val : τ → Nat → Value} {dp rd : Nat → List (Nat × Nat)} {ch : List Nat} {WI : Nat → τ → World → Prop} {s : Nat} {l : List Oper} (h : StepsS P ops Q a0 W val dp rd ch WI s l) :
    ∀ (o : Oper), l[l.length - 1]? = some o → LastS P ops Q a0 W val (WI ch.length) o := by
  induction h with
  | last h1 =>
    intro o ho
    replace ho := Option.some.inj ho
    subst ho
    exact h1
  | @quiet s d0 op t ps af g r h1 h2 hr ih =>
    intro o ho
    refine ih o ?_
    cases r with
    | nil => cases hr
    | cons x r => simpa using ho
  | @call s d0 op t ps af g r k h1 h2 hr ih =>
    intro o ho
    refine ih o ?_
    cases r with
    | nil => cases hr
    | cons x r => simpa using ho
/-- What the region's text must meet: as regOkC; its last operation has no slot and waits for all others. -/
def regOkS (md : Region.Mode) (ops : Array Oper) (W : List Nat) (dp rd : Nat → List (Nat × Nat)) (ch : List Nat) (b : Nat) : Bool :=
  inOrder md ops
  && ((List.range ops.size).all fun i => (ops[i]?.map fun o => (dp i).all fun p => (o.after.any fun e => Region.binds md e && e.on == p.1) && (ops[p.1]?.map fun q => q.dst == some p.2).getD false).getD false)
  && ((List.range ops.size).all fun i => (ops[i]?.map fun o => match o.dst with | some d => W.contains d && decide (i < b) | none => i == b).getD false)
  && ((List.range ops.size).all fun i => (List.range ops.size).all fun j => i == j || ((ops[i]?.map fun o => (ops[j]?.map fun q => o.dst != q.dst).getD false).getD false))
  && ((List.range ch.length).all fun j => match ch[j]?, ch[j + 1]? with | some x, some y => (ops[y]?.map fun o => o.after.any fun e => Region.binds md e && e.on == x).getD false | some _, none => true | none, _ => false)
  && decide ch.Nodup && (ch.all fun x => decide (x < b))
  && ((List.range ops.size).all fun i => (rd i).all fun p => W.contains p.2 && (ops[p.1]?.map fun o => o.dst == some p.2 && o.after.any fun e => Region.binds md e && e.on == i).getD false)
  && (decide (b + 1 = ops.size) && (ops[b]?.map fun o => (List.range b).all fun j => (o.after.any fun e => Region.binds md e && e.on == j) || (List.range b).any fun m => (o.after.any fun e => Region.binds md e && e.on == m) && (ops[m]?.map fun q => q.after.any fun e => Region.binds md e && e.on == j).getD false).getD false)
theorem region_chainS {τ : Type} {P : Program} {md : Region.Mode} {l : List Oper} {Q : Exit → Act → World → Prop} (a0 : Act) (w0 : World) (W : List Nat) (val : τ → Nat → Value) (dp rd : Nat → List (Nat × Nat)) (ch : List Nat) (WI : Nat → τ → World → Prop)
    (hW : W.all (fun d => decide (d < a0.tmps.size)) = true) (hWd : (W.all fun d => l.any fun o => o.dst == some d) = true) (hdW : ((List.range l.toArray.size).all fun i => (dp i).all fun p => W.contains p.2) = true) (hok : regOkS md l.toArray W dp rd ch (l.length - 1) = true)
    (t0 : τ) (h0 : WI 0 t0 w0) (step : StepsS P l.toArray Q a0 W val dp rd ch WI 0 l) :
    wpAny P md l.toArray Q l.toArray.size (Array.replicate l.toArray.size false) a0 w0 := by
  unfold regOkS at hok
  rw [Bool.and_eq_true, Bool.and_eq_true, Bool.and_eq_true, Bool.and_eq_true, Bool.and_eq_true, Bool.and_eq_true, Bool.and_eq_true, Bool.and_eq_true, Bool.and_eq_true] at hok
  obtain ⟨⟨⟨⟨⟨⟨⟨⟨hin, hdp⟩, hds⟩, hdd⟩, hch⟩, hnd⟩, hcl⟩, hrd⟩, hbs, hbw⟩ := hok
  have hbs := of_decide_eq_true hbs
  generalize hb : l.length - 1 = b at *
  have hnd := of_decide_eq_true hnd
  refine wpAny_bar b (fun listed => RinS md l.toArray W val ch WI a0 listed b) ?_ ?_ ?_ _ _ a0 w0 (by rw [Array.toList_replicate, List.count_replicate]; simp) ⟨repl_getD _ _, by simp, (fun j o x _ h => by rw [repl_getD] at h; cases h), 0, t0, Nat.zero_le _, h0, (fun j x _ => by rw [repl_getD]; simp), fun j => a0.tmps.getD j undef, (ov_self a0 W).symm, (fun i o d _ _ h => by rw [repl_getD] at h; cases h), fun i o d _ _ _ => rfl⟩
  · intro listed a w hI hnb i hi
    obtain ⟨hnb0, hsz, hclo, k, t, hk, hWI, hkl, u, rfl, hat, hun⟩ := hI
    obtain ⟨hf, o, ho, hdep⟩ := mem_ready.1 hi
    have hib : i ≠ b := fun e => hnb (e ▸ hi)
    have hlt : i < l.toArray.size := (Array.getElem?_eq_some_iff.1 ho).1
    have hfi : listed.getD i false = false := by
      rw [Array.getD_eq_getD_getElem?]
      rw [Array.getD_eq_getD_getElem?] at hf
      cases hq : listed[i]? with
      | none => rfl
      | some x => rw [hq] at hf; exact hf
    have h3 := all_range hds i hlt
    rw [ho, Option.map_some, Option.getD_some] at h3
    have h2 := all_range hdp i hlt
    rw [ho, Option.map_some, Option.getD_some] at h2
    cases hd : o.dst with
    | none => rw [hd] at h3; exact absurd (by simpa using h3) hib
    | some d =>
      rw [hd] at h3
      rw [Bool.and_eq_true] at h3
      have hdW' : d ∈ W := by simpa using h3.1
      have hilt : i < b := of_decide_eq_true h3.2
      have hargs : ∀ p ∈ dp i, (ov a0 W u).eval (.tmp p.2) = val t p.2 := fun p hp => by
        have h1 := List.all_eq_true.1 (all_range hdW i hlt) p hp
        have h2' : p.2 ∈ W := by simpa using h1
        have h3' := of_decide_eq_true (List.all_eq_true.1 hW p.2 h2')
        rw [ov_eval a0 W u p.2 h2' h3']
        have h4 := List.all_eq_true.1 h2 p hp
        rw [Bool.and_eq_true] at h4
        obtain ⟨h5, h6⟩ := h4
        cases hq : l.toArray[p.1]? with
        | none => rw [hq] at h6; cases h6
        | some q =>
          rw [hq] at h6
          simp only [Option.map_some, Option.getD_some, beq_iff_eq] at h6
          exact hat p.1 q p.2 hq h6 (dep hdep p.1 h5)
      have hreads : ∀ p ∈ rd i, (ov a0 W u).eval (.tmp p.2) = a0.eval (.tmp p.2) := fun p hp => by
        have h1 := List.all_eq_true.1 (all_range hrd i hlt) p hp
        rw [Bool.and_eq_true] at h1
        have h2' : p.2 ∈ W := by simpa using h1.1
        have h3' := of_decide_eq_true (List.all_eq_true.1 hW p.2 h2')
        rw [ov_eval a0 W u p.2 h2' h3']
        cases hq : l.toArray[p.1]? with
        | none => rw [hq] at h1; cases h1.2
        | some q =>
          rw [hq] at h1
          have h6 := h1.2
          simp only [Option.map_some, Option.getD_some, Bool.and_eq_true, beq_iff_eq] at h6
          refine (hun p.1 q p.2 hq h6.1 ?_)
          cases hl : listed.getD p.1 false with
          | false => rfl
          | true =>
            exfalso
            have := hclo p.1 q i hq hl h6.2
            rw [hfi] at this
            cases this
      have hput : ∀ (w' : World) (k' : Nat) (t' : τ), k' ≤ ch.length → WI k' t' w' → (∀ d', d' ≠ d → val t' d' = val t d') → (∀ j x, ch[j]? = some x → (listed.setIfInBounds i true).getD x false = decide (j < k')) → RinS md l.toArray W val ch WI a0 (listed.setIfInBounds i true) b ((ov a0 W u).put (some d) (val t' d)) w' := fun w' k' t' hk' hWI' hval hl' => by
        refine ⟨by rw [getD_set _ _ _ (by omega), if_neg hib, hnb0], by simp [hsz], fun j q x hq hl hx => ?_, k', t', hk', hWI', hl', Go.Proofs.YtpcbmjphffpplaaGreatDoor.upd u d (val t' d), ov_put a0 W u d (val t' d) hdW', fun j q d' hq hd' hl => ?_, fun j q d' hq hd' hl => ?_⟩
        · rw [getD_set _ _ _ (by omega)] at hl ⊢
          by_cases hij : i = j
          · subst hij
            rw [ho] at hq
            injection hq with hq
            subst hq
            by_cases hix : i = x
            · rw [if_pos hix]
            · rw [if_neg hix]
              exact dep hdep x hx
          · rw [if_neg hij] at hl
            by_cases hix : i = x
            · rw [if_pos hix]
            · rw [if_neg hix]
              exact hclo j q x hq hl hx
        rotate_left
        · rw [getD_set _ _ _ (by omega)] at hl
          have hij : i ≠ j := fun e => by rw [if_pos e] at hl; cases hl
          rw [if_neg hij] at hl
          have hjl : j < l.toArray.size := (Array.getElem?_eq_some_iff.1 hq).1
          have h7 := all_range (all_range hdd i hlt) j hjl
          have hbf : (i == j) = false := by simpa using hij
          rw [ho, hq, hbf] at h7
          simp only [Option.map_some, Option.getD_some, Bool.false_or, hd, hd'] at h7
          have hdd' : d' ≠ d := by
            rintro rfl
            simp at h7
          show (if d' = d then val t' d else u d') = _
          rw [if_neg hdd']
          exact hun j q d' hq hd' hl
        rw [getD_set _ _ _ (by omega)] at hl
        by_cases hij : i = j
        · subst hij
          rw [ho] at hq
          injection hq with hq
          subst hq
          rw [hd] at hd'
          injection hd' with hd'
          subst hd'
          show (if d = d then val t' d else u d) = val t' d
          rw [if_pos rfl]
        · rw [if_neg hij] at hl
          have hjl : j < l.toArray.size := (Array.getElem?_eq_some_iff.1 hq).1
          have h7 := all_range (all_range hdd i hlt) j hjl
          have hbf : (i == j) = false := by simpa using hij
          rw [ho, hq, hbf] at h7
          simp only [Option.map_some, Option.getD_some, Bool.false_or, hd, hd'] at h7
          have hdd' : d' ≠ d := by
            rintro rfl
            simp at h7
          show (if d' = d then val t' d else u d') = val t' d'
          rw [if_neg hdd', hval d' hdd']
          exact hat j q d' hq hd' hl
      refine wpOp_step ho (fun K hK => ?_)
      have hst := step.at_ i o d (by rw [List.size_toArray] at hbs; omega) (by simpa using ho) hd
      rw [Nat.zero_add] at hst
      rcases hst with ⟨hni, hs⟩ | ⟨k2, hk2, hs⟩
      · refine hs k t _ w hWI (fun j hj => ov_eval_ne a0 W u j hj) hargs hreads K (fun w' hw' => hK _ _ (hput w' k t hk hw' (fun _ _ => rfl) (fun j x hx => ?_)))
        rw [getD_set _ _ _ (by omega), if_neg (fun e => hni (by rw [e]; exact List.mem_of_getElem? hx))]
        exact hkl j x hx
      · have hkk : k = k2 := by
          have h1 := hkl k2 i hk2
          rw [hfi] at h1
          have h1' : ¬ k2 < k := fun hh => by rw [decide_eq_true hh] at h1; cases h1
          rcases Nat.lt_or_ge k k2 with hh | hh
          · exfalso
            -- the one ahead of it in the chain is listed
            obtain ⟨j, rfl⟩ : ∃ j, k2 = j + 1 := ⟨k2 - 1, by omega⟩
            have hjl : j + 1 < ch.length := (List.getElem?_eq_some_iff.1 hk2).1
            have h5 := all_range hch j (by omega)
            rw [List.getElem?_eq_getElem (show j < ch.length by omega), hk2] at h5
            simp only [ho, Option.map_some, Option.getD_some] at h5
            have h6 := dep hdep _ h5
            rw [hkl j _ (List.getElem?_eq_getElem (show j < ch.length by omega))] at h6
            have := of_decide_eq_true h6
            omega
          · omega
        subst hkk
        have hkl2 : k < ch.length := (List.getElem?_eq_some_iff.1 hk2).1
        refine hs t _ w hWI (fun j hj => ov_eval_ne a0 W u j hj) hargs hreads K (fun t' w' hw' hv => hK _ _ (hput w' (k + 1) t' hkl2 hw' hv (fun j x hx => ?_)))
        rw [getD_set _ _ _ (by omega)]
        by_cases hix : i = x
        · subst hix
          rw [if_pos rfl, nodup_get hnd hx hk2]
          exact (decide_eq_true (by omega)).symm
        · rw [if_neg hix, hkl j x hx]
          have hjk : j ≠ k := by
            rintro rfl
            rw [hx] at hk2
            injection hk2 with e
            exact hix e.symm
          congr 1
          exact propext ⟨fun h => by omega, fun h => by omega⟩
  · intro fuel listed a w hI hbr hc
    obtain ⟨hnb0, hsz, hclo, k, t, hk, hWI, hkl, u, rfl, hat, hun⟩ := hI
    obtain ⟨hf, o, ho, hdep⟩ := mem_ready.1 hbr
    rw [ho, Option.map_some, Option.getD_some] at hbw
    have hall : ∀ j, j < b → listed.getD j false = true := fun j hj => by
      have h1 := all_range hbw j hj
      rw [Bool.or_eq_true] at h1
      rcases h1 with h1 | h1
      · exact dep hdep j h1
      · obtain ⟨m, hm, h2⟩ := List.any_eq_true.1 h1
        rw [Bool.and_eq_true] at h2
        cases hq : l.toArray[m]? with
        | none => rw [hq] at h2; cases h2.2
        | some q =>
          rw [hq] at h2
          exact hclo m q j hq (dep hdep m h2.1) h2.2
    have hkc : k = ch.length := by
      rcases Nat.lt_or_ge k ch.length with h | h
      · exfalso
        have h1 := hkl k _ (List.getElem?_eq_getElem h)
        have h2 := of_decide_eq_true (List.all_eq_true.1 hcl _ (List.getElem_mem h))
        rw [decide_eq_false (by omega), hall _ h2] at h1
        cases h1
      · omega
    subst hkc
    have hu : ov a0 W u = ov a0 W (val t) := ov_congr a0 u (val t) W (fun d hd => by
      obtain ⟨o2, ho2, hod⟩ := List.any_eq_true.1 (List.all_eq_true.1 hWd d hd)
      obtain ⟨i, hi, e⟩ := List.mem_iff_getElem.1 ho2
      have ho3 : l.toArray[i]? = some o2 := by simp [List.getElem?_eq_getElem hi, e]
      have hlt : i < l.toArray.size := (Array.getElem?_eq_some_iff.1 ho3).1
      have hod' : o2.dst = some d := by simpa using hod
      have h3 := all_range hds i hlt
      rw [ho3, Option.map_some, Option.getD_some, hod'] at h3
      simp only [Bool.and_eq_true, decide_eq_true_eq] at h3
      exact hat i o2 d ho3 hod' (hall i h3.2))
    have hlast := step.at_last o (by rw [hb]; simpa using ho)
    have hbl : b < listed.size := by omega
    cases fuel with
    | zero =>
      exfalso
      have hfb : listed.getD b true = false := hf
      have h2 := count_set_true _ _ (getD_false hfb)
      omega
    | succ fuel =>
      refine ⟨fun hr => (by rw [hr] at hbr; cases hbr), fun i hi => ?_⟩
      obtain ⟨hfi, o2, ho2, _⟩ := mem_ready.1 hi
      have hil : i < l.toArray.size := (Array.getElem?_eq_some_iff.1 ho2).1
      have hib : i = b := by
        rcases Nat.lt_or_ge i b with h | h
        · exfalso
          have h1 := hall i h
          rw [Array.getD_eq_getD_getElem?] at h1 hfi
          cases hq : listed[i]? with
          | none => rw [hq] at h1; cases h1
          | some x => rw [hq] at h1 hfi; simp at h1 hfi; rw [h1] at hfi; cases hfi
        · omega
      subst hib
      rw [ho] at ho2
      injection ho2 with ho2
      subst ho2
      rw [hu]
      refine wpOp_step ho (fun K hK => hlast t w hWI K (fun a' w' hq => hK a' w' ?_))
      have hr : Region.ready md l.toArray (listed.setIfInBounds i true) = [] := by
        cases hr : Region.ready md l.toArray (listed.setIfInBounds i true) with
        | nil => rfl
        | cons x r =>
          exfalso
          obtain ⟨hfx, ox, hox, _⟩ := mem_ready.1 (show x ∈ Region.ready md l.toArray (listed.setIfInBounds i true) from by rw [hr]; simp)
          have hxl : x < l.toArray.size := (Array.getElem?_eq_some_iff.1 hox).1
          have h1 : (listed.setIfInBounds i true).getD x false = true := by
            rw [getD_set _ _ _ hbl]
            by_cases e : i = x
            · rw [if_pos e]
            · rw [if_neg e]
              exact hall x (by omega)
          rw [Array.getD_eq_getD_getElem?] at h1 hfx
          cases hq : (listed.setIfInBounds i true)[x]? with
          | none => rw [hq] at h1; cases h1
          | some y => rw [hq] at h1 hfx; simp at h1 hfx; rw [h1] at hfx; cases hfx
      cases fuel with
      | zero => exact ⟨hr, hq⟩
      | succ fuel => exact ⟨fun _ => hq, fun x hx => by rw [hr] at hx; cases hx⟩
  · intro listed a w hI hr
    obtain ⟨hnb0, hsz, _⟩ := hI
    have hl := all_listed hr hin hsz
    subst hl
    exfalso
    rw [Array.getD_eq_getD_getElem?, Array.getElem?_replicate, if_pos (by omega)] at hnb0
    cases hnb0
/-- The last operation in two halves: its own step at an act that is only known by its slots, and what follows. -/
theorem StepsS.fin {τ : Type} {P : Program} {ops : Array Oper} {Q : Exit → Act → World → Prop} {a0 : Act} {W : List Nat} {val : τ → Nat → Value} {dp rd : Nat → List (Nat × Nat)} {ch : List Nat} {WI : Nat → τ → World → Prop} {i : Nat} {op : Op} {t : TypeId} {ps : String} {af : Array Edge} (J : τ → World → Prop)
    (hW : W.all (fun d => decide (d < a0.tmps.size)) = true)
    (h1 : ∀ t' w a, WI ch.length t' w → (∀ j, j ∉ W → a.eval (.tmp j) = a0.eval (.tmp j)) → (∀ j, j ∈ W → a.eval (.tmp j) = val t' j) → ∀ K : Act → World → Prop, (∀ w', J t' w' → K a w') → Oper.wp P ⟨none, op, t, ps, af, none⟩ a w K Q)
    (h2 : ∀ t' w, J t' w → Q .normal (ov a0 W (val t')) w) : StepsS P ops Q a0 W val dp rd ch WI i [⟨none, op, t, ps, af, none⟩] := by
  refine StepsS.last (fun t' w hI K hK => ?_)
  rw [if_pos (by rfl)]
  exact h1 t' w _ hI (fun j hj => ov_eval_ne a0 W _ j hj) (fun j hj => ov_eval a0 W _ j hj (of_decide_eq_true (List.all_eq_true.1 hW j hj))) K (fun w' hJ => hK _ _ (h2 t' w' hJ))
end Go.Proofs.YtpcbmjphffpplaaGreatDoor
namespace Go.Proofs.YtpcbmjphffpplaaGreatDoor
open Go.RowKit
set_option linter.unusedVariables false
set_option linter.unusedSimpArgs false
theorem region_pcL {P : Program} {md : Region.Mode} {l : List Oper} {Q : Exit → Act → World → Prop} (a0 : Act) (w0 : World) (W : List Nat) (pc : Nat → Value → World → Prop) (dp : Nat → List (Nat × Nat)) (b : Nat) (rds : List Nat) {o : Oper} (hdr : l.drop b = [o])
    (hW : W.all (fun d => decide (d < a0.tmps.size)) = true) (hdW : ((List.range l.toArray.size).all fun i => (dp i).all fun p => W.contains p.2) = true) (hok : regOk md l.toArray W b dp = true)
    (hrd : (rds.all fun d => l.any fun o => o.dst == some d) = true)
    (hlast : (l[b]?.map fun o => o.dst == none && (List.range b).all fun j => o.after.any fun e => Region.binds md e && e.on == j).getD false = true)
    (mono : ∀ d v w w', pc d v w → Below w.heap.size w w' → pc d v w')
    (step : StepAll P l.toArray Q a0 w0 W pc b dp 0 l)
    (last : ∀ u w, Below w0.heap.size w0 w → (∀ d ∈ rds, pc d (u d) w) → ∀ K : Act → World → Prop, (∀ a' w', Q .normal a' w' → K a' w') → if Region.wanted o (yielded l.toArray (ov a0 W u).tmps) = true then Oper.wp P o (ov a0 W u) w K Q else K ((ov a0 W u).put o.dst undef) w) :
    wpAny P md l.toArray Q l.toArray.size (Array.replicate l.toArray.size false) a0 w0 := by
  have hbl : b + 1 = l.length := by
    have := congrArg List.length hdr
    rw [List.length_drop] at this
    simp at this
    omega
  have hlo : l[b]? = some o := by
    have := congrArg (fun r => r[0]?) hdr
    simpa [List.getElem?_drop] using this
  refine region_list a0 w0 W pc b dp hW hdW hok mono step (fun fuel listed u w hsz hbr hc hbel hns hat => ?_) (fun u w h1 => absurd h1 (by simp; omega))
  obtain ⟨hf, o', ho, hdep⟩ := mem_ready.1 hbr
  have ho' : l[b]? = some o := hlo
  have eo : o = o' := by
    rw [List.getElem?_toArray, hlo] at ho
    injection ho with ho
  subst eo
  rw [ho', Option.map_some, Option.getD_some, Bool.and_eq_true] at hlast
  obtain ⟨hn, hal⟩ := hlast
  have hn : o.dst = none := by simpa using hn
  have hall : ∀ j, j < b → listed.getD j false = true := fun j hj => dep hdep j (all_range hal j hj)
  have hpc : ∀ (i : Nat) (o : Oper) (d : Nat), l[i]? = some o → o.dst = some d → pc d (u d) w := fun i o2 d hi hd => by
    refine hat i o2 d hi hd (hall i ?_)
    have h1 := (List.getElem?_eq_some_iff.1 hi).1
    rcases Nat.lt_or_ge i b with h | h
    · exact h
    · exfalso
      obtain rfl : i = b := by omega
      rw [ho'] at hi
      injection hi with hi
      subst hi
      rw [hn] at hd
      cases hd
  have hbl2 : b < listed.size := by rw [hsz, List.size_toArray]; omega
  cases fuel with
  | zero =>
    exfalso
    have hfb : listed.getD b true = false := hf
    have h2 := count_set_true _ _ (getD_false hfb)
    omega
  | succ fuel =>
    refine ⟨fun hr => (by rw [hr] at hbr; cases hbr), fun i hi => ?_⟩
    obtain ⟨hfi, o2, ho2, _⟩ := mem_ready.1 hi
    have hil : i < l.toArray.size := (Array.getElem?_eq_some_iff.1 ho2).1
    have hib : i = b := by
      rcases Nat.lt_or_ge i b with h | h
      · exfalso
        have h1 := hall i h
        rw [Array.getD_eq_getD_getElem?] at h1 hfi
        cases hq : listed[i]? with
        | none => rw [hq] at h1; cases h1
        | some x => rw [hq] at h1 hfi; simp at h1 hfi; rw [h1] at hfi; cases hfi
      · rw [List.size_toArray] at hil
        omega
    subst hib
    rw [ho] at ho2
    injection ho2 with ho2
    subst ho2
    refine wpOp_step ho (fun K hK => last u w hbel (fun d hd => by
      obtain ⟨x, hx, e⟩ := List.any_eq_true.1 (List.all_eq_true.1 hrd d hd)
      obtain ⟨i2, hi2, rfl⟩ := List.getElem_of_mem hx
      exact hpc i2 _ d (List.getElem?_eq_getElem hi2) (by simpa using e)) K (fun a' w' hq => hK a' w' ?_))
    have hr : Region.ready md l.toArray (listed.setIfInBounds i true) = [] := by
      cases hr : Region.ready md l.toArray (listed.setIfInBounds i true) with
      | nil => rfl
      | cons x r =>
        exfalso
        obtain ⟨hfx, ox, hox, _⟩ := mem_ready.1 (show x ∈ Region.ready md l.toArray (listed.setIfInBounds i true) from by rw [hr]; simp)
        have hxl : x < l.toArray.size := (Array.getElem?_eq_some_iff.1 hox).1
        rw [List.size_toArray] at hxl
        have h1 : (listed.setIfInBounds i true).getD x false = true := by
          rw [getD_set _ _ _ hbl2]
          by_cases e : i = x
          · rw [if_pos e]
          · rw [if_neg e]
            exact hall x (by omega)
        rw [Array.getD_eq_getD_getElem?] at h1 hfx
        cases hq : (listed.setIfInBounds i true)[x]? with
        | none => rw [hq] at h1; cases h1
        | some y => rw [hq] at h1 hfx; simp at h1 hfx; rw [h1] at hfx; cases hfx
    cases fuel with
    | zero => exact ⟨hr, hq⟩
    | succ fuel => exact ⟨fun _ => hq, fun x hx => by rw [hr] at hx; cases hx⟩
end Go.Proofs.YtpcbmjphffpplaaGreatDoor
