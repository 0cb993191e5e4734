/-
  What is read of a tree's text: plain.
-/
import Derived.Test.YtgldcjmdjhghpaaGreatDoorKx
namespace Go.Proofs.YtgldcjmdjhghpaaGreatDoor
open Go.RowKit Go.Proofs.YtgldcjmdjhghpaaGreatDoorW.PrintWords Go.ChangeShapes Go.WideShapes
set_option linter.unusedVariables false
set_option linter.unusedSimpArgs false
set_option maxRecDepth 100000
structure TRead (kd : Int) (v : JV) : Prop where
  fit : fitV v
  obj : ∀ kvs, v = .obj kvs → KeyFit (kvs.map (·.1)) ∧ ∀ p ∈ kvs, fitV p.2
  five : kd = 5 → ∃ kvs, v = .obj kvs
theorem fitS_of {v : JV} (h : fitV v) : fitS v := by
  cases v with
  | str raw => exact h
  | _ => trivial
theorem leaf_obj {kd : Int} {is mi : Bool} {nu : Int} {tx : ByteArray} {v : JV} (h0 : 0 ≤ kd) (h4 : kd < 4) (h : IsVal (leafF kd is mi nu tx) v) : ∀ kvs, v ≠ .obj kvs := by
  intro kvs e
  subst e
  unfold IsVal at h
  have e1 : (leafF kd is mi nu tx).2.1 = kd := rfl
  have e2 : (leafF kd is mi nu tx).2.2.1 = is := rfl
  rw [e1, e2] at h
  split at h
  · cases h
  · split at h
    · split at h <;> cases h
    · split at h
      · cases h
      · split at h
        · obtain ⟨raw, h, _⟩ := h
          cases h
        · omega
/-- A kid, and the blanks around it. -/
theorem kid_reads {k : Nat} (ih : ∀ (x : TrN k) (n : Nat), OkT k x → TGood k x n → ∀ y, ∃ v, TRead x.1 v ∧ Hard (trF k x y).1 ∧ Reads v (trF k x y).1 (k + 1)) (c : TrN k) (y : Nat) (b : Bs) (hb : WSs b) :
    ∃ v : JV, (OkT k c ∧ (∃ n, TGood k c n) → fitV v ∧ ReadsP v (b ++ (kidF (trF k) c y).1) (k + 1)) := by
  by_cases hg : OkT k c ∧ ∃ n, TGood k c n
  · obtain ⟨hO, n, hn⟩ := hg
    obtain ⟨v, h1, h2, h3⟩ := ih c n hO hn y
    exact ⟨v, fun _ => ⟨h1.fit, b, (trF k c y).1, (blk (trF k c y).2).1, by rw [List.append_assoc]; rfl, hb, blk_ws _, h2, h3⟩⟩
  · exact ⟨.nul, fun h => absurd h hg⟩
theorem trF_reads : ∀ (k : Nat) (x : TrN k) (n : Nat), OkT k x → TGood k x n → ∀ y, ∃ v, TRead x.1 v ∧ Hard (trF k x y).1 ∧ Reads v (trF k x y).1 (k + 1)
  | 0, _, _, _, h, _ => h.elim
  | k + 1, x, n, hO, hg, y => by
    have ih := trF_reads k
    obtain ⟨g5, g3, g6, gl, g1, g4⟩ := hg
    have hw := wf_int hO.1 hO.2.2.2.1
    have hK : ∀ c ∈ kidsL x, OkT k c := hO.2.2.2.2.2.2
    unfold trF
    by_cases h4 : x.1 < 4
    · rw [if_pos h4]
      obtain ⟨v, h1, h2, h3⟩ := val_reads (leafF x.1 x.2.1 x.2.2.1 x.2.2.2.1 x.2.2.2.2.1) y
      exact ⟨v, ⟨isVal_fit (leaf_ok hw.1 h4 hw.2 g3) h1, fun kvs e => absurd e (leaf_obj hw.1 h4 h1 kvs), fun h => by omega⟩, h2, h3.deep (by omega)⟩
    · rw [if_neg h4]
      obtain ⟨ns, e1, e2, e3⟩ := g4 (by omega)
      have hG : ∀ c ∈ kidsL x, OkT k c ∧ ∃ n, TGood k c n := fun c hc => ⟨hK c hc, by
        obtain ⟨i, hi, rfl⟩ := List.getElem_of_mem hc
        exact ⟨_, e2 i _ _ (List.getElem?_eq_getElem hi) (List.getElem?_eq_getElem (by omega))⟩⟩
      by_cases h5 : x.1 = 5
      · rw [if_pos h5]
        obtain ⟨gn, gk⟩ := g6 h5
        generalize hz : x.2.2.2.2.2.1.zip (kidsL x) = zs
        have hzs : ∀ p ∈ zs, TOk p.1 ∧ OkT k p.2 ∧ ∃ n, TGood k p.2 n := fun p hp => by
          rw [← hz] at hp
          have := List.of_mem_zip hp
          exact ⟨gn _ this.1, hG _ this.2⟩
        by_cases h0 : zs = []
        · subst h0
          refine ⟨.obj [], ⟨trivial, fun kvs e => ?_, fun _ => ⟨_, rfl⟩⟩, .of _ rfl, ?_⟩
          · injection e with e
            subst e
            exact ⟨⟨fun q hq => by simp at hq⟩, fun p hp => by simp at hp⟩
          · exact (reads_obj0 (blk_ws y)).deep (by omega)
        · obtain ⟨us, h1, h2, h3⟩ := seqF_commas (memF (trF k)) (fun p (q : Bs × JV) u => TOk p.1 ∧ OkT k p.2 ∧ (∃ n, TGood k p.2 n) → (Well q.1 ∧ q.1.length ≤ 900000000000) ∧ fitV q.2 ∧ FieldT q.1 q.2 u (k + 1)) (fun p y b hb => by
            obtain ⟨v, hv⟩ := kid_reads ih p.2 (blk (blk (quoF p.1 y).2).2).2 (blk (blk (quoF p.1 y).2).2).1 (blk_ws _)
            refine ⟨((textF (runesOf p.1) y).1, v), fun hp => ?_⟩
            obtain ⟨hf, hr⟩ := hv hp.2
            refine ⟨⟨(textF_pieces (runesOf_ok _) y).well, ?_⟩, hf, b, encR (runesOf p.1), (blk (quoF p.1 y).2).1, _, ?_, hb, blk_ws _, textF_pieces (runesOf_ok _) y, hr⟩
            · have h8 := textF_len (runesOf p.1) y
              have h9 := hp.1.runes
              show (textF (runesOf p.1) y).1.length ≤ _
              omega
            · unfold memF
              simp only [quoF, List.append_assoc, List.cons_append, List.nil_append]) zs (blk y).2 (blk y).1 h0 (blk_ws y)
          have hus : us ≠ [] := by
            rintro rfl
            exact h0 (List.eq_nil_of_length_eq_zero (by rw [← h2]; rfl))
          have hall : ∀ u ∈ us, (Well u.1.1 ∧ u.1.1.length ≤ 900000000000) ∧ fitV u.1.2 ∧ FieldT u.1.1 u.1.2 u.2 (k + 1) := fun u hu => by
            obtain ⟨i, hi, rfl⟩ := List.getElem_of_mem hu
            have hil : i < zs.length := by omega
            exact h3 i zs[i] us[i] (List.getElem?_eq_getElem hil) (List.getElem?_eq_getElem hi) (hzs _ (List.getElem_mem hil))
          refine ⟨.obj (us.map (·.1)), ⟨trivial, fun kvs e => ?_, fun _ => ⟨_, rfl⟩⟩, .of _ rfl, ?_⟩
          · injection e with e
            subst e
            refine ⟨⟨fun q hq => ?_⟩, fun p hp => ?_⟩
            · obtain ⟨p, hp, rfl⟩ := List.mem_map.1 hq
              obtain ⟨u, hu, rfl⟩ := List.mem_map.1 hp
              exact (hall u hu).1
            · obtain ⟨u, hu, rfl⟩ := List.mem_map.1 hp
              exact (hall u hu).2.1
          · have := reads_obj (dep := k + 1) (l := us) (fun p hp => (hall p hp).2.2) hus
            show Reads _ (123 :: ((blk y).1 ++ ((seqF (memF (trF k)) true zs (blk y).2).1 ++ [125]))) _
            rw [← List.append_assoc, h1]
            exact this
      · rw [if_neg h5]
        generalize hz : kidsL x = zs at *
        by_cases h0 : zs = []
        · subst h0
          refine ⟨.arr [], ⟨⟨fun x hx => by simp at hx, by simp⟩, fun kvs e => (by cases e), fun h => absurd h h5⟩, .of _ rfl, ?_⟩
          exact (reads_arr0 (blk_ws y)).deep (by omega)
        · obtain ⟨us, h1, h2, h3⟩ := seqF_commas (kidF (trF k)) (fun c (v : JV) u => OkT k c ∧ (∃ n, TGood k c n) → fitV v ∧ ReadsP v u (k + 1)) (fun c y b hb => kid_reads ih c y b hb) zs (blk y).2 (blk y).1 h0 (blk_ws y)
          have hus : us ≠ [] := by
            rintro rfl
            exact h0 (List.eq_nil_of_length_eq_zero (by rw [← h2]; rfl))
          have hall : ∀ u ∈ us, fitV u.1 ∧ ReadsP u.1 u.2 (k + 1) := fun u hu => by
            obtain ⟨i, hi, rfl⟩ := List.getElem_of_mem hu
            have hil : i < zs.length := by omega
            exact h3 i zs[i] us[i] (List.getElem?_eq_getElem hil) (List.getElem?_eq_getElem hi) (hG _ (List.getElem_mem hil))
          have hl : zs.length ≤ 200 := gl (by omega)
          refine ⟨.arr (us.map (·.1)), ⟨⟨fun v hv => ?_, by rw [List.length_map]; omega⟩, fun kvs e => (by cases e), fun h => absurd h h5⟩, .of _ rfl, ?_⟩
          · obtain ⟨u, hu, rfl⟩ := List.mem_map.1 hv
            exact fitS_of (hall u hu).1
          · by_cases hk : k + 1 < 300
            · have := reads_arr (dep := k + 1) (l := us) (fun p hp => (hall p hp).2) hus hk
              show Reads _ (91 :: ((blk y).1 ++ ((seqF (kidF (trF k)) true zs (blk y).2).1 ++ [93]))) _
              rw [← List.append_assoc, h1]
              exact this
            · intro n d rest _ _ hd
              omega
/-- The text of a tree that is an object, with blanks around it. -/
noncomputable def prF (x : TrN 60) (y : Nat) : Bs := (blk y).1 ++ (trF 60 x (blk y).2).1 ++ (blk (trF 60 x (blk y).2).2).1
theorem prF_fit {x : TrN 60} {n : Nat} (hO : OkT 60 x) (hg : TGood 60 x n) (h5 : x.1 = 5) (y : Nat) : FitO (pTop (prF x y)) := by
  obtain ⟨v, hv, h1, h2⟩ := trF_reads 60 x n hO hg (blk y).2
  obtain ⟨kvs, rfl⟩ := hv.five h5
  intro v' e
  have hp : pTop (prF x y) = some (.obj kvs) := pTop_of ⟨_, _, _, rfl, blk_ws _, blk_ws _, h1, h2⟩ (by decide)
  rw [hp] at e
  injection e with e
  subst e
  exact ⟨kvs, rfl, (hv.obj kvs rfl).1, (hv.obj kvs rfl).2⟩
theorem prF_len {x : TrN 60} {n : Nat} (hO : OkT 60 x) (hg : TGood 60 x n) (hn : n ≤ 200) (y : Nat) : (prF x y).length ≤ 5000000000 := by
  have h1 := trF_len 60 x n hO hg (blk y).2
  have h2 := blk_len y
  have h3 := blk_len (trF 60 x (blk y).2).2
  unfold prF
  simp only [List.length_append]
  omega
end Go.Proofs.YtgldcjmdjhghpaaGreatDoor
