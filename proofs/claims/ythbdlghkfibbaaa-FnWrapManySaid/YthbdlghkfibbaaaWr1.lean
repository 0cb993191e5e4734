/-
  Words for key wraps: copy between blocks of bytes (in a list of operations, and in a region that draws); blocks of eight bytes that a row of rows leads to.
-/
import Derived.Test.YthbdlghkfibbaaaMix7
import Derived.Deep.RegionLaw
import Derived.Laws.Rows
namespace Go.Proofs.Ythbdlghkfibbaaa
open Go.RowKit Go.Proofs.YthbdlghkfibbaaaW.PrintWords Go.Lib
set_option linter.unusedVariables false
set_option linter.unusedSimpArgs false
/-- Words of eight bytes, in blocks of their own. -/
def Asrt.inner (e : Nat) (gs : List Nat) (r : List UInt64) : Asrt where
  p := fun w f => gs.Nodup ∧ gs.length = r.length ∧ ∀ (i g : Nat) (x : UInt64), gs[i]? = some g → r[i]? = some x → f g ∧ w.heap[g]? = some (.cells ((beB x.toNat).map bV).toArray e (0, 0))
  loc := fun h hm => ⟨h.1, h.2.1, fun i g x hg hx => ⟨(h.2.2 i g x hg hx).1, (hm _ (h.2.2 i g x hg hx).1 (blk_lt (h.2.2 i g x hg hx).2)).trans (h.2.2 i g x hg hx).2⟩⟩
  mono := fun hm h => ⟨h.1, h.2.1, fun i g x hg hx => ⟨hm _ (h.2.2 i g x hg hx).1, (h.2.2 i g x hg hx).2⟩⟩
  bnd := fun h => ⟨h.1, h.2.1, fun i g x hg hx => ⟨⟨(h.2.2 i g x hg hx).1, blk_lt (h.2.2 i g x hg hx).2⟩, (h.2.2 i g x hg hx).2⟩⟩
section
variable {w0 w : World} {B : Nat} {L : List Asrt}
theorem Hold.inner_blk {e : Nat} {gs : List Nat} {r : List UInt64} (hS : Hold w0 B w L) (i : Nat) (hi : L[i]? = some (.inner e gs r)) (j : Nat) (g : Nat) (x : UInt64) (hg : gs[j]? = some g) (hx : r[j]? = some x) :
    w.heap[g]? = some (.cells ((beB x.toNat).map bV).toArray e (0, 0)) := by
  obtain ⟨f, hp, _⟩ := hS.get i hi
  exact (hp.2.2 j g x hg hx).2
theorem Hold.inner_C {e : Nat} {gs : List Nat} {r : List UInt64} (hS : Hold w0 B w L) (i : Nat) (hi : L[i]? = some (.inner e gs r)) (j : Nat) (g : Nat) (x : UInt64) (hg : gs[j]? = some g) (hx : r[j]? = some x) :
    kB.C w (some ⟨g, 0, none⟩) 8 (beB x.toNat) := by
  have hb := hS.inner_blk i hi j g x hg hx
  exact C_of_cells (xs := beB x.toNat) (by show 8 ≤ 9223372036854775807; decide) (fun k hk => by
    rw [World.cell?, hb]
    simp [List.getElem?_eq_getElem hk])
/-- One more word. -/
theorem Hold.inner_add {e g : Nat} {a : Asrt} {gs : List Nat} {r : List UInt64} {x : UInt64} (hS : Hold w0 B w (.blk g (.cells ((beB x.toNat).map bV).toArray e (0, 0)) :: a :: .inner e gs r :: L)) :
    Hold w0 B w (a :: .inner e (gs ++ [g]) (r ++ [x]) :: L) := by
  obtain ⟨F, h1, h2, h3⟩ := hS.own
  have hp0 := h1 0 _ rfl
  have hp2 := h1 2 _ rfl
  have hne : ∀ k ∈ gs, k ≠ g := by
    intro k hk e'
    subst e'
    obtain ⟨i, hi⟩ := List.getElem?_of_mem hk
    have hl : i < r.length := by have := (List.getElem?_eq_some_iff.1 hi).1; have := hp2.2.1; omega
    have := (hp2.2.2 i k _ hi (List.getElem?_eq_getElem hl)).1
    exact absurd (h3 _ _ _ hp0.1 this) (by decide)
  refine ⟨hS.below, hS.le, fun j k => match j with | 0 => F 1 k | 1 => F 0 k ∨ F 2 k | j + 2 => F (j + 3) k, ?_, ?_, ?_⟩
  · intro j b hj
    match j with
    | 0 => exact h1 1 b hj
    | 1 =>
      simp only [List.getElem?_cons_succ, List.getElem?_cons_zero, Option.some.injEq] at hj
      subst hj
      refine ⟨?_, by simp [hp2.2.1], ?_⟩
      · rw [List.nodup_append]
        exact ⟨hp2.1, by simp, fun k hk l hl => by simp at hl; subst hl; exact hne k hk⟩
      · intro i k y hk hy
        rw [List.getElem?_append] at hk hy
        rw [← hp2.2.1] at hy
        split at hk
        · rename_i hlt
          rw [if_pos hlt] at hy
          have := hp2.2.2 i k y hk hy
          exact ⟨.inr this.1, this.2⟩
        · rename_i hlt
          rw [if_neg hlt] at hy
          have e0 : i - gs.length = 0 := by
            have := (List.getElem?_eq_some_iff.1 hk).1
            simp at this
            omega
          rw [e0] at hk hy
          simp at hk hy
          subst hk hy
          exact ⟨.inl hp0.1, hp0.2⟩
    | j + 2 => exact h1 (j + 3) b hj
  · intro j k hk
    match j with
    | 0 => exact h2 1 k hk
    | 1 => exact hk.elim (h2 0 k) (h2 2 k)
    | j + 2 => exact h2 (j + 3) k hk
  · intro i j k hi hj
    have key : ∀ i : Nat, (match i with | 0 => F 1 k | 1 => F 0 k ∨ F 2 k | j + 2 => F (j + 3) k) → ∃ l, F l k ∧ (i = match l with | 0 => 1 | 1 => 0 | l + 2 => l + 1) := by
      intro i hi
      match i with
      | 0 => exact ⟨1, hi, rfl⟩
      | 1 => rcases hi with h | h; exact ⟨0, h, rfl⟩; exact ⟨2, h, rfl⟩
      | j + 2 => exact ⟨j + 3, hi, rfl⟩
    obtain ⟨l1, f1, e1⟩ := key i hi
    obtain ⟨l2, f2, e2⟩ := key j hj
    obtain rfl := h3 _ _ _ f1 f2
    rw [e1, e2]
/-- A word, anew. -/
theorem Hold.inner_set {e : Nat} {gs : List Nat} {r : List UInt64} (hS : Hold w0 B w L) (i : Nat) (hi : L[i]? = some (.inner e gs r)) (j : Nat) (g : Nat) (y : UInt64) (hg : gs[j]? = some g) :
    Hold w0 B (w.setRow g ((beB y.toNat).map bV).toArray) (L.set i (.inner e gs (r.set j y))) := by
  refine hS.upd i hi (fun f hp => ?_)
  have hjr : j < r.length := by have := (List.getElem?_eq_some_iff.1 hg).1; have := hp.2.1; omega
  have h0 := hp.2.2 j g _ hg (List.getElem?_eq_getElem hjr)
  refine ⟨f, ⟨hp.1, by rw [List.length_set]; exact hp.2.1, ?_⟩, fun k hk => .inl hk, ⟨rfl, rfl, rfl, by simp [World.setRow], fun k _ hn => setRow_other w g k _ (fun e => hn (by rw [e]; exact h0.1))⟩⟩
  intro i' g' x' hg' hx'
  rw [List.getElem?_set] at hx'
  by_cases hij : j = i'
  · subst hij
    rw [hg] at hg'
    obtain rfl : g = g' := by simpa using hg'
    rw [if_pos rfl, if_pos hjr] at hx'
    obtain rfl : y = x' := by simpa using hx'
    exact ⟨h0.1, setRow_heap _ _ _ _ _ _ h0.2⟩
  · rw [if_neg hij] at hx'
    have h1 := hp.2.2 i' g' x' hg' hx'
    have hne : g' ≠ g := fun e' => hij (by
      subst e'
      exact (List.getElem?_inj (List.getElem?_eq_some_iff.1 hg).1 hp.1).1 (hg.trans hg'.symm))
    exact ⟨h1.1, (setRow_other w g g' _ hne).trans h1.2⟩
end
section
variable {P : Program} {ops : Array Oper} {rest : List Oper} {o : Oper} {a : Act} {Q : Exit → Act → World → Prop} {K : Act → World → Prop} {w0 W : World} {B : Nat} {L : List Asrt}
/-- copy(dst, src) of bytes, into a block. -/
theorem copy_wp {g t : Nat} {zs ys : List UInt8} (hb : W.heap[g]? = some (.cells (zs.map bV).toArray t (0, 0))) (d s : Operand) (dT sT : TypeId)
    (ho : o.op = .call { callee := .builtin .copy, args := #[d, s], argTypes := #[dT, sT] }) (hu : P.underlying dT = some (.slice t)) (hsz : (P.info? t).map (·.size) = some 1)
    (off dLen dCap m c : Nat) (ad : Addr) (hd : a.eval d = .slice (some ⟨g, off, none⟩) dLen dCap) (hs : a.eval s = .slice (some ad) m c) (hC : kB.C W (some ad) m ys) (k : Nat) (hk : k = min m dLen) (hfit : off + k ≤ zs.length) (zs' : List UInt8) (hz' : zs.take off ++ ys.take k ++ zs.drop (off + k) = zs')
    (h : K (a.put o.dst (goInt k)) (W.setRow g (zs'.map bV).toArray)) : Oper.wp P o a W K Q := by
  subst hz'
  have hml := hC.1
  unfold Oper.wp execOp
  simp only [ho, resolve, invoke, builtin, Sem.run_bind, Sem.run_pure, Result.andThen_ok, List.map_toArray, List.map_cons, List.map_nil, hd, hs]
  have hlen : (ys.take k |>.map bV).length = Nat.min m dLen := by simp [List.length_take]; show min k ys.length = min m dLen; omega
  have hkl : ((ys.take k).map bV).length = k := by rw [hlen]; exact hk.symm
  rw [run_copy_row P W dT sT o.type t g off dLen dCap ad m c _ t ((ys.take k).map bV) hu hsz hb hlen (by
      intro j u hu
      rw [List.getElem?_map, List.getElem?_take] at hu
      split at hu
      · cases hy : ys[j]? with
        | none => rw [hy] at hu; simp at hu
        | some y =>
          rw [hy] at hu
          obtain rfl : bV y = u := by simpa using hu
          have hj := (List.getElem?_eq_some_iff.1 hy).1
          obtain ⟨ad', e, hc⟩ := C1_get hC j hj
          injection e with e
          subst e
          rw [hc]
          exact congrArg (fun z => some (bV z)) (List.getElem?_eq_some_iff.1 hy).2
      · simp at hu) (by rw [hkl]; simpa using hfit) (by intro u hu; obtain ⟨y, _, rfl⟩ := List.mem_map.1 hu; rfl)]
  rw [hkl]
  have e : (zs.take off ++ ys.take k ++ zs.drop (off + k)).map bV = (zs.map bV).take off ++ (ys.take k).map bV ++ (zs.map bV).drop (off + k) := by
    rw [List.map_append, List.map_append, List.map_take, List.map_drop]
  rw [e] at h
  exact h
theorem stepCopy {E : Prop} (d s : Operand) (t u : TypeId) (ho : o.op = .call { callee := .builtin .copy, args := #[d, s], argTypes := #[t, u] }) (h : if Region.wanted o (yielded ops a.tmps) = true then Oper.wp P o a W K Q else E) :
    if Region.wanted o (yielded ops a.tmps) = true then Oper.wp P o a W K Q else E := h
end
theorem Hold.swap {w0 w : World} {B : Nat} {a b : Asrt} {L : List Asrt} (hS : Hold w0 B w (a :: b :: L)) : Hold w0 B w (b :: a :: L) := by
  obtain ⟨F, h1, h2, h3⟩ := hS.own
  let σ : Nat → Nat := fun i => if i = 0 then 1 else if i = 1 then 0 else i
  have hσ : ∀ i, (b :: a :: L)[i]? = (a :: b :: L)[σ i]? := by
    intro i
    match i with
    | 0 => rfl
    | 1 => rfl
    | i + 2 => rfl
  have hinj : ∀ i j, σ i = σ j → i = j := by
    intro i j h
    simp only [σ] at h
    split at h <;> split at h <;> (try split at h) <;> (try split at h) <;> omega
  exact ⟨hS.below, hS.le, fun i => F (σ i), fun i c hc => h1 (σ i) c (by rw [← hσ]; exact hc), fun i k hk => h2 _ k hk, fun i j k hi hj => hinj i j (h3 _ _ k hi hj)⟩
section
variable {P : Program} {ops : Array Oper} {rest : List Oper} {o : Oper} {a : Act} {Q : Exit → Act → World → Prop} {K : Act → World → Prop} {W : World}
theorem step_of {E : Prop} (hg : o.guard = none) (h : Oper.wp P o a W K Q) : if Region.wanted o (yielded ops a.tmps) = true then Oper.wp P o a W K Q else E := by
  rw [if_pos (by simp [Region.wanted, hg])]
  exact h
theorem alloc_wp (t : TypeId) (ho : o.op = .alloc t) (z : Value) (cs : Array Value) (hz : (P.info? t).map (·.zero) = some (some z)) (hcs : z.cells = cs)
    (h : K (a.put o.dst (.pointer (some ⟨W.heap.size, 0, none⟩))) (W.alloc (.cells cs t))) : Oper.wp P o a W K Q := by
  subst hcs
  unfold Oper.wp execOp
  cases hi : P.info? t with
  | none => simp [hi] at hz
  | some i =>
    have hz' : i.zero = some z := by simpa [hi] using hz
    simp [ho, Instr.alloc, zeroValue, typeInfo, hi, hz', newVar]
    exact h
end
end Go.Proofs.Ythbdlghkfibbaaa
