/-
  As XRc, where a call's value is not known ahead of the region: what the calls have drawn is carried along.
-/
import Derived.Test.YtdldblfklalaeaaGreatDoorQn
namespace Go.Proofs.YtdldblfklalaeaaGreatDoor
open Go.RowKit
set_option linter.unusedVariables false
set_option linter.unusedSimpArgs false
structure RinT {τ : Type} (md : Region.Mode) (ops : Array Oper) (W : List Nat) (val : τ → Nat → Value) (ch : List Nat) (WI : Nat → τ → World → Prop) (a0 : Act) (listed : Array Bool) (a : Act) (w : World) : Prop where
  size : listed.size = ops.size
  cl : ∀ (j : Nat) (o : Oper) (x : Nat), ops[j]? = some o → listed.getD j false = true → (o.after.any fun e => Region.binds md e && e.on == x) = true → listed.getD x false = true
  wi : ∃ k t, k ≤ ch.length ∧ WI k t w ∧ (∀ j x, ch[j]? = some x → listed.getD x false = decide (j < k)) ∧ ∃ u, a = ov a0 W u ∧ (∀ i o d, ops[i]? = some o → o.dst = some d → listed.getD i false = true → u d = val t d) ∧ ∀ i o d, ops[i]? = some o → o.dst = some d → listed.getD i false = false → u d = a0.tmps.getD d undef
/-- One step of an operation that only reads. -/
def StepT {τ : Type} (P : Program) (ops : Array Oper) (Q : Exit → Act → World → Prop) (a0 : Act) (W : List Nat) (val : τ → Nat → Value) (dp rd : Nat → List (Nat × Nat)) (I : τ → World → Prop) (i : Nat) (o : Oper) (d : Nat) : Prop :=
  ∀ t a w, I t w → (∀ j, j ∉ W → a.eval (.tmp j) = a0.eval (.tmp j)) → (∀ p ∈ dp i, a.eval (.tmp p.2) = val t p.2) → (∀ p ∈ rd i, a.eval (.tmp p.2) = a0.eval (.tmp p.2)) →
      ∀ K : Act → World → Prop, (∀ w', I t w' → K (a.put (some d) (val t d)) w') → if Region.wanted o (yielded ops a.tmps) = true then Oper.wp P o a w K Q else K (a.put o.dst undef) w
/-- One step of a call: it may draw. -/
def CallT {τ : Type} (P : Program) (ops : Array Oper) (Q : Exit → Act → World → Prop) (a0 : Act) (W : List Nat) (val : τ → Nat → Value) (dp rd : Nat → List (Nat × Nat)) (I J : τ → World → Prop) (i : Nat) (o : Oper) (d : Nat) : Prop :=
  ∀ t a w, I t w → (∀ j, j ∉ W → a.eval (.tmp j) = a0.eval (.tmp j)) → (∀ p ∈ dp i, a.eval (.tmp p.2) = val t p.2) → (∀ p ∈ rd i, a.eval (.tmp p.2) = a0.eval (.tmp p.2)) →
      ∀ K : Act → World → Prop, (∀ t' w', J t' w' → (∀ d', d' ≠ d → val t' d' = val t d') → K (a.put (some d) (val t' d)) w') → if Region.wanted o (yielded ops a.tmps) = true then Oper.wp P o a w K Q else K (a.put o.dst undef) w
inductive StepsT {τ : Type} (P : Program) (ops : Array Oper) (Q : Exit → Act → World → Prop) (a0 : Act) (W : List Nat) (val : τ → Nat → Value) (dp rd : Nat → List (Nat × Nat)) (ch : List Nat) (WI : Nat → τ → World → Prop) : Nat → List Oper → Prop
  | nil (i : Nat) : StepsT P ops Q a0 W val dp rd ch WI i []
  | quiet {i d : Nat} {op : Op} {t : TypeId} {ps : String} {af : Array Edge} {g : Option (Nat × Bool)} {r : List Oper} (hi : decide (i ∈ ch) = false) (h : ∀ k, StepT P ops Q a0 W val dp rd (WI k) i ⟨some d, op, t, ps, af, g⟩ d) (hr : StepsT P ops Q a0 W val dp rd ch WI (i + 1) r) : StepsT P ops Q a0 W val dp rd ch WI i (⟨some d, op, t, ps, af, g⟩ :: r)
  | call {i d : Nat} {op : Op} {t : TypeId} {ps : String} {af : Array Edge} {g : Option (Nat × Bool)} {r : List Oper} (k : Nat) (hi : ch[k]? = some i) (h : CallT P ops Q a0 W val dp rd (WI k) (WI (k + 1)) i ⟨some d, op, t, ps, af, g⟩ d) (hr : StepsT P ops Q a0 W val dp rd ch WI (i + 1) r) : StepsT P ops Q a0 W val dp rd ch WI i (⟨some d, op, t, ps, af, g⟩ :: r)
theorem StepsT.at_ {τ : Type} {P : Program} {ops : Array Oper} {Q : Exit → Act → World → Prop} {a0 : Act} {W : List Nat} {val : τ → Nat → Value} {dp rd : Nat → List (Nat × Nat)} {ch : List Nat} {WI : Nat → τ → World → Prop} {s : Nat} {l : List Oper} (h : StepsT P ops Q a0 W val dp rd ch WI s l) :
    ∀ (i : Nat) (o : Oper) (d : Nat), l[i]? = some o → o.dst = some d → (s + i ∉ ch ∧ ∀ k, StepT P ops Q a0 W val dp rd (WI k) (s + i) o d) ∨ ∃ k, ch[k]? = some (s + i) ∧ CallT P ops Q a0 W val dp rd (WI k) (WI (k + 1)) (s + i) o d := by
  induction h with
  | nil s => intro i o d hi; simp at hi
  | @quiet s d0 op t ps af g r h1 h2 hr ih =>
    intro i o d hi hd
    cases i with
    | zero =>
      simp only [List.getElem?_cons_zero, Option.some.injEq] at hi
      subst hi
      injection hd with hd
      subst hd
      exact .inl ⟨of_decide_eq_false h1, h2⟩
    | succ i =>
      rw [List.getElem?_cons_succ] at hi
      have := ih i o d hi hd
      rw [show s + (i + 1) = s + 1 + i by omega]
      exact this
  | @call s d0 op t ps af g r k h1 h2 hr ih =>
    intro i o d hi hd
    cases i with
    | zero =>
      simp only [List.getElem?_cons_zero, Option.some.injEq] at hi
      subst hi
      injection hd with hd
      subst hd
      exact .inr ⟨k, h1, h2⟩
    | succ i =>
      rw [List.getElem?_cons_succ] at hi
      have := ih i o d hi hd
      rw [show s + (i + 1) = s + 1 + i by omega]
      exact this
theorem region_chainT {τ : Type} {P : Program} {md : Region.Mode} {l : List Oper} {Q : Exit → Act → World → Prop} (a0 : Act) (w0 : World) (W : List Nat) (val : τ → Nat → Value) (dp rd : Nat → List (Nat × Nat)) (ch : List Nat) (WI : Nat → τ → World → Prop)
    (hW : W.all (fun d => decide (d < a0.tmps.size)) = true) (hWd : (W.all fun d => l.any fun o => o.dst == some d) = true) (hdW : ((List.range l.toArray.size).all fun i => (dp i).all fun p => W.contains p.2) = true) (hok : regOkC md l.toArray W dp rd ch = true)
    (t0 : τ) (h0 : WI 0 t0 w0) (step : StepsT P l.toArray Q a0 W val dp rd ch WI 0 l) (fin : ∀ t w, WI ch.length t w → Q .normal (ov a0 W (val t)) w) :
    wpAny P md l.toArray Q l.toArray.size (Array.replicate l.toArray.size false) a0 w0 := by
  unfold regOkC at hok
  rw [Bool.and_eq_true, Bool.and_eq_true, Bool.and_eq_true, Bool.and_eq_true, Bool.and_eq_true, Bool.and_eq_true, Bool.and_eq_true] at hok
  obtain ⟨⟨⟨⟨⟨⟨⟨hin, hdp⟩, hds⟩, hdd⟩, hch⟩, hnd⟩, hcl⟩, hrd⟩ := hok
  have hnd := of_decide_eq_true hnd
  refine wpAny_bar l.toArray.size (RinT md l.toArray W val ch WI a0) ?_ ?_ ?_ _ _ a0 w0 (by rw [Array.toList_replicate, List.count_replicate]; simp) ⟨by simp, (fun j o x _ h => by rw [repl_getD] at h; cases h), 0, t0, Nat.zero_le _, h0, (fun j x _ => by rw [repl_getD]; simp), fun j => a0.tmps.getD j undef, (ov_self a0 W).symm, (fun i o d _ _ h => by rw [repl_getD] at h; cases h), fun i o d _ _ _ => rfl⟩
  · intro listed a w hI hnb i hi
    obtain ⟨hsz, hclo, k, t, hk, hWI, hkl, u, rfl, hat, hun⟩ := hI
    obtain ⟨hf, o, ho, hdep⟩ := mem_ready.1 hi
    have hlt : i < l.toArray.size := (Array.getElem?_eq_some_iff.1 ho).1
    have hfi : listed.getD i false = false := by
      rw [Array.getD_eq_getD_getElem?]
      rw [Array.getD_eq_getD_getElem?] at hf
      cases hq : listed[i]? with
      | none => rfl
      | some x => rw [hq] at hf; exact hf
    have h3 := all_range hds i hlt
    rw [ho, Option.map_some, Option.getD_some] at h3
    have h2 := all_range hdp i hlt
    rw [ho, Option.map_some, Option.getD_some] at h2
    cases hd : o.dst with
    | none => rw [hd] at h3; cases h3
    | some d =>
      rw [hd] at h3
      have hdW' : d ∈ W := by simpa using h3
      have hargs : ∀ p ∈ dp i, (ov a0 W u).eval (.tmp p.2) = val t p.2 := fun p hp => by
        have h1 := List.all_eq_true.1 (all_range hdW i hlt) p hp
        have h2' : p.2 ∈ W := by simpa using h1
        have h3' := of_decide_eq_true (List.all_eq_true.1 hW p.2 h2')
        rw [ov_eval a0 W u p.2 h2' h3']
        have h4 := List.all_eq_true.1 h2 p hp
        rw [Bool.and_eq_true] at h4
        obtain ⟨h5, h6⟩ := h4
        cases hq : l.toArray[p.1]? with
        | none => rw [hq] at h6; cases h6
        | some q =>
          rw [hq] at h6
          simp only [Option.map_some, Option.getD_some, beq_iff_eq] at h6
          exact hat p.1 q p.2 hq h6 (dep hdep p.1 h5)
      have hreads : ∀ p ∈ rd i, (ov a0 W u).eval (.tmp p.2) = a0.eval (.tmp p.2) := fun p hp => by
        have h1 := List.all_eq_true.1 (all_range hrd i hlt) p hp
        rw [Bool.and_eq_true] at h1
        have h2' : p.2 ∈ W := by simpa using h1.1
        have h3' := of_decide_eq_true (List.all_eq_true.1 hW p.2 h2')
        rw [ov_eval a0 W u p.2 h2' h3']
        cases hq : l.toArray[p.1]? with
        | none => rw [hq] at h1; cases h1.2
        | some q =>
          rw [hq] at h1
          have h6 := h1.2
          simp only [Option.map_some, Option.getD_some, Bool.and_eq_true, beq_iff_eq] at h6
          refine (hun p.1 q p.2 hq h6.1 ?_)
          cases hl : listed.getD p.1 false with
          | false => rfl
          | true =>
            exfalso
            have := hclo p.1 q i hq hl h6.2
            rw [hfi] at this
            cases this
      have hput : ∀ (w' : World) (k' : Nat) (t' : τ), k' ≤ ch.length → WI k' t' w' → (∀ d', d' ≠ d → val t' d' = val t d') → (∀ j x, ch[j]? = some x → (listed.setIfInBounds i true).getD x false = decide (j < k')) → RinT md l.toArray W val ch WI a0 (listed.setIfInBounds i true) ((ov a0 W u).put (some d) (val t' d)) w' := fun w' k' t' hk' hWI' hval hl' => by
        refine ⟨by simp [hsz], fun j q x hq hl hx => ?_, k', t', hk', hWI', hl', Go.Proofs.YtdldblfklalaeaaGreatDoor.upd u d (val t' d), ov_put a0 W u d (val t' d) hdW', fun j q d' hq hd' hl => ?_, fun j q d' hq hd' hl => ?_⟩
        · rw [getD_set _ _ _ (by omega)] at hl ⊢
          by_cases hij : i = j
          · subst hij
            rw [ho] at hq
            injection hq with hq
            subst hq
            by_cases hix : i = x
            · rw [if_pos hix]
            · rw [if_neg hix]
              exact dep hdep x hx
          · rw [if_neg hij] at hl
            by_cases hix : i = x
            · rw [if_pos hix]
            · rw [if_neg hix]
              exact hclo j q x hq hl hx
        rotate_left
        · rw [getD_set _ _ _ (by omega)] at hl
          have hij : i ≠ j := fun e => by rw [if_pos e] at hl; cases hl
          rw [if_neg hij] at hl
          have hjl : j < l.toArray.size := (Array.getElem?_eq_some_iff.1 hq).1
          have h7 := all_range (all_range hdd i hlt) j hjl
          have hbf : (i == j) = false := by simpa using hij
          rw [ho, hq, hbf] at h7
          simp only [Option.map_some, Option.getD_some, Bool.false_or, hd, hd'] at h7
          have hdd' : d' ≠ d := by
            rintro rfl
            simp at h7
          show (if d' = d then val t' d else u d') = _
          rw [if_neg hdd']
          exact hun j q d' hq hd' hl
        rw [getD_set _ _ _ (by omega)] at hl
        by_cases hij : i = j
        · subst hij
          rw [ho] at hq
          injection hq with hq
          subst hq
          rw [hd] at hd'
          injection hd' with hd'
          subst hd'
          show (if d = d then val t' d else u d) = val t' d
          rw [if_pos rfl]
        · rw [if_neg hij] at hl
          have hjl : j < l.toArray.size := (Array.getElem?_eq_some_iff.1 hq).1
          have h7 := all_range (all_range hdd i hlt) j hjl
          have hbf : (i == j) = false := by simpa using hij
          rw [ho, hq, hbf] at h7
          simp only [Option.map_some, Option.getD_some, Bool.false_or, hd, hd'] at h7
          have hdd' : d' ≠ d := by
            rintro rfl
            simp at h7
          show (if d' = d then val t' d else u d') = val t' d'
          rw [if_neg hdd', hval d' hdd']
          exact hat j q d' hq hd' hl
      refine wpOp_step ho (fun K hK => ?_)
      have hst := step.at_ i o d (by simpa using ho) hd
      rw [Nat.zero_add] at hst
      rcases hst with ⟨hni, hs⟩ | ⟨k2, hk2, hs⟩
      · refine hs k t _ w hWI (fun j hj => ov_eval_ne a0 W u j hj) hargs hreads K (fun w' hw' => hK _ _ (hput w' k t hk hw' (fun _ _ => rfl) (fun j x hx => ?_)))
        rw [getD_set _ _ _ (by omega), if_neg (fun e => hni (by rw [e]; exact List.mem_of_getElem? hx))]
        exact hkl j x hx
      · have hkk : k = k2 := by
          have h1 := hkl k2 i hk2
          rw [hfi] at h1
          have h1' : ¬ k2 < k := fun hh => by rw [decide_eq_true hh] at h1; cases h1
          rcases Nat.lt_or_ge k k2 with hh | hh
          · exfalso
            -- the one ahead of it in the chain is listed
            obtain ⟨j, rfl⟩ : ∃ j, k2 = j + 1 := ⟨k2 - 1, by omega⟩
            have hjl : j + 1 < ch.length := (List.getElem?_eq_some_iff.1 hk2).1
            have h5 := all_range hch j (by omega)
            rw [List.getElem?_eq_getElem (show j < ch.length by omega), hk2] at h5
            simp only [ho, Option.map_some, Option.getD_some] at h5
            have h6 := dep hdep _ h5
            rw [hkl j _ (List.getElem?_eq_getElem (show j < ch.length by omega))] at h6
            have := of_decide_eq_true h6
            omega
          · omega
        subst hkk
        have hkl2 : k < ch.length := (List.getElem?_eq_some_iff.1 hk2).1
        refine hs t _ w hWI (fun j hj => ov_eval_ne a0 W u j hj) hargs hreads K (fun t' w' hw' hv => hK _ _ (hput w' (k + 1) t' hkl2 hw' hv (fun j x hx => ?_)))
        rw [getD_set _ _ _ (by omega)]
        by_cases hix : i = x
        · subst hix
          rw [if_pos rfl, nodup_get hnd hx hk2]
          exact (decide_eq_true (by omega)).symm
        · rw [if_neg hix, hkl j x hx]
          have hjk : j ≠ k := by
            rintro rfl
            rw [hx] at hk2
            injection hk2 with e
            exact hix e.symm
          congr 1
          exact propext ⟨fun h => by omega, fun h => by omega⟩
  · intro fuel listed a w hI hb hc
    exfalso
    obtain ⟨_, o, ho, _⟩ := mem_ready.1 hb
    have := (Array.getElem?_eq_some_iff.1 ho).1
    omega
  · intro listed a w hI hr
    obtain ⟨hsz, hclo, k, t, hk, hWI, hkl, u, rfl, hat, hun⟩ := hI
    have hl := all_listed hr hin hsz
    subst hl
    have hkc : k = ch.length := by
      rcases Nat.lt_or_ge k ch.length with h | h
      · exfalso
        have h1 := hkl k _ (List.getElem?_eq_getElem h)
        have h2 := of_decide_eq_true (List.all_eq_true.1 hcl _ (List.getElem_mem h))
        rw [decide_eq_false (by omega), Array.getD_eq_getD_getElem?, Array.getElem?_replicate, if_pos h2] at h1
        cases h1
      · omega
    subst hkc
    have hu : ov a0 W u = ov a0 W (val t) := ov_congr a0 u (val t) W (fun d hd => by
      obtain ⟨o, ho, hod⟩ := List.any_eq_true.1 (List.all_eq_true.1 hWd d hd)
      obtain ⟨i, hi, e⟩ := List.mem_iff_getElem.1 ho
      have ho2 : l.toArray[i]? = some o := by simp [List.getElem?_eq_getElem hi, e]
      have hlt : i < l.toArray.size := (Array.getElem?_eq_some_iff.1 ho2).1
      exact hat i o d ho2 (by simpa using hod) (by rw [Array.getD_eq_getD_getElem?, Array.getElem?_replicate, if_pos hlt]; rfl))
    rw [hu]
    exact fin t w hWI
end Go.Proofs.YtdldblfklalaeaaGreatDoor
