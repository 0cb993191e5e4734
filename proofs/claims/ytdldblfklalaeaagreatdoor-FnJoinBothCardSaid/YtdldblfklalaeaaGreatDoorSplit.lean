/-
  Segments between periods: the pure function; spec.PartSplit: its contract.
-/
import Derived.Test.YtdldblfklalaeaaGreatDoorSa
namespace Go.Proofs.YtdldblfklalaeaaGreatDoor
open Go.RowKit Go.Proofs.YtdldblfklalaeaaGreatDoorW.PrintWords Go.Lib
set_option linter.unusedVariables false
set_option linter.unusedSimpArgs false
/-- What stands between periods, in reverse: the last segment, and those ahead of it, the latest first. -/
def segStep (s : List UInt8 × List (List UInt8)) (c : UInt8) : List UInt8 × List (List UInt8) := if c = 46 then ([], s.1 :: s.2) else (s.1 ++ [c], s.2)
def segFold (xs : List UInt8) : List UInt8 × List (List UInt8) := xs.foldl segStep ([], [])
theorem segFold_snoc (xs : List UInt8) (c : UInt8) : segFold (xs ++ [c]) = segStep (segFold xs) c := by
  unfold segFold
  rw [List.foldl_append]
  rfl
abbrev Sl := Option Addr × Nat × Nat
def slV (s : Sl) : Value := .slice s.1 s.2.1 s.2.2
theorem slV1 (s : Sl) : (slV s).oneCell' = true := rfl
abbrev kSl : Kd Sl := Kd.scalar slV slV1
def rowsOf : List Sl → List (List UInt8) → List Asrt
  | s :: ss, x :: xs => .row kB 5 (slV s) x :: rowsOf ss xs
  | _, _ => []
theorem rowsOf_len : ∀ (ss : List Sl) (xs : List (List UInt8)), ss.length = xs.length → (rowsOf ss xs).length = xs.length
  | [], [], _ => rfl
  | s :: ss, x :: xs, h => by simp only [rowsOf, List.length_cons, rowsOf_len ss xs (by simpa using h)]
  | [], _ :: _, h => by simp at h
  | _ :: _, [], h => by simp at h
theorem sl_of_row {w0 w : World} {B : Nat} {L : List Asrt} {e : Nat} {v : Value} {xs : List UInt8} (hS : Hold w0 B w L) (i : Nat) (hi : L[i]? = some (.row kB e v xs)) : ∃ s : Sl, v = slV s ∧ s.2.1 = xs.length := by
  obtain ⟨A, c, rfl, _, _⟩ := hS.reads i hi
  exact ⟨(A, xs.length, c), rfl, rfl⟩
theorem reps1S {s : Sl} {w : World} {b : Nat} {ok : Nat → Prop} {cs : List Value} (h : cs = [slV s]) : Reps (kSl.M w b ok) kSl.sz [s] cs := by
  subst h
  have := (Reps.none (kSl.M w b ok) kSl.sz).snoc (show kSl.M w b ok s [slV s] from rfl) rfl
  simpa using this
theorem cellA_of_C {w : World} {A : Option Addr} {n : Nat} {xs : List UInt8} (h : kB.C w A n xs) (k : Nat) (hk : k < xs.length) : ∃ ad, A = some ad ∧ w.cell? (ad.add k) = some (bV xs[k]) := C1_get h k hk
theorem Kd_cell_below {w w1 : World} {a : Addr} {v : Value} (h : w.cell? a = some v) (hb : Below w.heap.size w w1) : w1.cell? a = some v := pw_cell_below hb h
theorem cell_isSome {w : World} {a : Addr} {v : Value} (h : w.cell? a = some v) : ∃ o, w.cell? a = some o := ⟨v, h⟩
theorem Hold.swap0 {w0 w : World} {B : Nat} {a b : Asrt} {L : List Asrt} (hS : Hold w0 B w (a :: b :: L)) : Hold w0 B w (b :: a :: L) := by
  obtain ⟨F, h1, h2, h3⟩ := hS.own
  let σ : Nat → Nat := fun i => if i = 0 then 1 else if i = 1 then 0 else i
  have hσ : ∀ i, (b :: a :: L)[i]? = (a :: b :: L)[σ i]? := by
    intro i
    match i with
    | 0 => rfl
    | 1 => rfl
    | i + 2 => rfl
  have hinj : ∀ i j, σ i = σ j → i = j := by
    intro i j h
    simp only [σ] at h
    split at h <;> split at h <;> (try split at h) <;> (try split at h) <;> omega
  exact ⟨hS.below, hS.le, fun i => F (σ i), fun i c hc => h1 (σ i) c (by rw [← hσ]; exact hc), fun i k hk => h2 _ k hk, fun i j k hi hj => hinj i j (h3 _ _ k hi hj)⟩
theorem segFoldG_len : ∀ (xs : List UInt8) (st : List UInt8 × List (List UInt8)), (xs.foldl segStep st).1.length ≤ st.1.length + xs.length ∧ (xs.foldl segStep st).2.length ≤ st.2.length + xs.length
  | [], st => ⟨Nat.le_refl _, Nat.le_refl _⟩
  | x :: r, st => by
    obtain ⟨h1, h2⟩ := segFoldG_len r (segStep st x)
    simp only [List.foldl_cons, List.length_cons]
    unfold segStep at h1 h2 ⊢
    split at h1 <;> rename_i h <;> simp only [h, if_true, if_false, List.length_cons, List.length_nil, List.length_append] at h1 h2 ⊢ <;> omega
theorem segFold_len (xs : List UInt8) (k : Nat) (h : xs.length ≤ k) : (segFold xs).1.length ≤ k := by
  have := (segFoldG_len xs ([], [])).1
  simp at this
  exact Nat.le_trans this h
theorem segFold_len2 (xs : List UInt8) (k : Nat) (h : xs.length ≤ k) : (segFold xs).2.length ≤ k := by
  have := (segFoldG_len xs ([], [])).2
  simp at this
  exact Nat.le_trans this h
theorem info30 : (Tryz.prog.info? 30).map (fun i => (i.zero, i.size, i.bytes)) = some (some (.slice none 0 0), 1, 24) := by kernel_rfl
/-- The segments, as they are held: the outer row, the last segment, and those ahead of it. -/
def SegHold (w : World) (wr : World) (v : Value) (st : List UInt8 × List (List UInt8)) : Prop :=
  ∃ (s : Sl) (ss : List Sl), ss.length = st.2.length ∧ Hold w w.heap.size wr (.row kSl 30 v (ss.reverse ++ [s]) :: .row kB 5 (slV s) st.1 :: rowsOf ss st.2)
set_option maxRecDepth 100000 in
set_option maxHeartbeats 4000000 in
theorem segs_any (w : World) (A : Option Addr) (n c : Nat) (xs : List UInt8) (hn : n ≤ 1000000) (hC : kB.C w A n xs) :
    Calls Tryz.prog 73 #[.slice A n c] w fun e w' => ∃ v, e = .returned v ∧ SegHold w w' v (segFold xs) := by
  obtain rfl := hC.1
  have HC := Aside0.mk hC
  have hE := emptyRow w
  have H1 := Aside0.mk (hE.alloc (.cells #[slV (some ⟨w.heap.size, 0, none⟩, 0, 0)] 30))
  have H2 : Aside0 (Hold w w.heap.size _ [.row kSl 30 (.slice (some ⟨w.heap.size + 1, 0, none⟩) 1 1) [(some ⟨w.heap.size, 0, none⟩, 0, 0)], .row kB 5 (slV (some ⟨w.heap.size, 0, none⟩, 0, 0)) []]) := ⟨by
    have h := H1.out
    rw [show (w.alloc (.cells #[] 5)).heap.size = w.heap.size + 1 by simp] at h
    exact h.toRow 0 (d := kSl) (n := 1) (c := 1) (xs := [(some ⟨w.heap.size, 0, none⟩, 0, 0)]) rfl (reps1S rfl) rfl (Nat.le_refl _) (by decide) rfl⟩
  clear hC hE H1
  go_enter Tryz.func73, Tryz.ntmps73
  go_wp2
  go_loopw [3, 10] (fun v3 v10 wr => ∃ k : Nat, k ≤ xs.length ∧ v10 = .int .i64 k ∧ SegHold w wr v3 (segFold (xs.take k))) (fun _ v10 _ => xs.length - (intOf v10).toNat)
  case atStart => exact ⟨0, by omega, rfl, (some ⟨w.heap.size, 0, none⟩, 0, 0), [], rfl, H2.out⟩
  case round =>
    obtain ⟨k, hk, rfl, s, ss, hss, hR⟩ := hrel
    have HR := Aside0.mk hR
    have HSS := Aside0.mk hss
    clear hss
    by_cases hlt : k < xs.length
    · have e1 := cellA_of_C (HC.out) k hlt
      obtain ⟨ad, rfl, e1⟩ := e1
      have e1' := Kd_cell_below e1 HR.out.below
      obtain ⟨x, hx⟩ : ∃ x, x = xs[k] := ⟨_, rfl⟩
      rw [← hx] at e1'
      have HF : Aside0 (segFold (xs.take (k + 1)) = segStep (segFold (xs.take k)) x) := ⟨by rw [List.take_succ_eq_append_getElem hlt, segFold_snoc, hx]⟩
      have hcl : (segFold (xs.take k)).1.length ≤ k := segFold_len _ k (by rw [List.length_take]; omega)
      have hdl : (segFold (xs.take k)).2.length ≤ k := segFold_len2 _ k (by rw [List.length_take]; omega)
      rw [← HSS.out] at hdl
      have e2 : wr.cell? (ad.add k) = some (.int .u8 (x.toNat : Int)) := e1'
      clear hx e1'
      obtain ⟨st, hst⟩ : ∃ st, st = segFold (xs.take k) := ⟨_, rfl⟩
      rw [← hst] at HF HSS hR HR hcl
      obtain ⟨cur, done⟩ := st
      simp only at HSS hR HR hcl
      have hl1 : (ss.reverse ++ [s]).length = ss.length + 1 := by simp
      obtain ⟨g, cp, rfl, hcp, hgl, _, hfz⟩ := hR.form 0 rfl (by rw [hl1]; omega)
      have hat := hR.at1 0 rfl ss.length (by rw [hl1]; omega)
      have hlast : (ss.reverse ++ [s])[ss.length]'(by rw [hl1]; omega) = s := by
        rw [List.getElem_append_right (by simp)]
        simp
      rw [hlast] at hat
      have hfz0 := hfz ss.length
      obtain ⟨sA, sn, sc⟩ := s
      have hat' : wr.cell? ⟨g, ss.length, none⟩ = some (.slice sA sn sc) := hat
      obtain ⟨m, hm⟩ : ∃ m, m = ss.length := ⟨_, rfl⟩
      have hml : m ≤ 1000000 := by omega
      rw [← hm] at hat' hfz0
      have hl2 : (ss.reverse ++ [(sA, sn, sc)]).length = m + 1 := by rw [hl1, hm]
      rw [hl2] at HR hcp ⊢
      have HMm := Aside0.mk hm
      have HL2 := Aside0.mk hl2
      have hcl' : cur.length ≤ 1000000 := by omega
      clear hR hst hl1 hl2 hat hfz e1 hlast hm hcl
      have hcpm : cp ≤ 9223372036854775807 := by
        obtain ⟨cs, _, _, hcm, _⟩ := HR.out.rowOpen 0 rfl
        unfold maxLen at hcm
        exact hcm
      by_cases h46 : x = 46
      · have hx46 : ((x.toNat : Int) == 46) = true := by
          rw [h46]
          rfl
        have HX := Aside0.mk h46
        clear h46
        have HN : Aside0 (Hold w w.heap.size (wr.alloc (.cells #[] 5)) (.row kSl 30 (.slice (some ⟨g, 0, none⟩) (m + 1) cp) (ss.reverse ++ [(sA, sn, sc)]) :: .row kB 5 (slV (some ⟨wr.heap.size, 0, none⟩, 0, 0)) [] :: .row kB 5 (slV (sA, sn, sc)) cur :: rowsOf ss done)) := ⟨Hold.swap0 ((HR.out.alloc (.cells #[] 5)).toRow 0 (d := kB) (n := 0) (c := 0) (xs := []) rfl (Reps.none _ _) rfl (Nat.le_refl _) (Nat.zero_le _) rfl)⟩
        have HLm : Aside0 (((ss.reverse ++ [(sA, sn, sc)]).length + 1) * 24 ≤ 140737488355328) := ⟨by rw [HL2.out]; omega⟩
        go_wp2_with ((with_reducible refine at_bi (b := .append) (xs := #[.tmp 16, .tmp 18]) rfl ?_); at_builtin; refine Hold.append1 kSl 0 HN.out rfl rfl (.tmp 16) (.tmp 18) 106 (.slice none 0 0) 24 rfl Tryz.underlying106 info30 rfl (by decide) (by omega) (some ⟨wr.heap.size, 0, none⟩, 0, 0) [.slice (some ⟨wr.heap.size, 0, none⟩) 0 0] rfl (by simp [Act.eval, Act.put]) rfl HLm.out ?_; intro _ _ HN2'; have HN2 := Aside0.mk HN2'; clear HN2' HN)
        go_roundw
        case measure => simp [intOf]; omega
        case rel =>
          refine ⟨k + 1, by omega, by go_num, (some ⟨wr.heap.size, 0, none⟩, 0, 0), (sA, sn, sc) :: ss, ?_, ?_⟩
          · rw [HF.out]
            simp [segStep, HX.out, HSS.out]
          · rw [HF.out]
            have h := HN2.out
            simp only [segStep, if_pos HX.out, List.reverse_cons]
            exact h
      · have hx46 : ((x.toNat : Int) == 46) = false := by
          rw [beq_eq_false_iff_ne]
          intro e
          exact h46 (UInt8.toNat_inj.1 (by show x.toNat = 46; omega))
        have HX := Aside0.mk h46
        have HLc : Aside0 ((cur.length + 1) * 1 ≤ 140737488355328) := ⟨by omega⟩
        obtain ⟨cx, hcx⟩ : ∃ cx, cx = cur ++ [x] := ⟨_, rfl⟩
        have HCx := Aside0.mk hcx
        clear hcx
        clear h46
        go_wp2_with ((with_reducible refine at_bi (b := .append) (xs := #[.tmp 29, .tmp 31]) rfl ?_); at_builtin; refine Hold.append1 kB 1 HR.out rfl rfl (.tmp 29) (.tmp 31) 30 (.int .u8 0) 1 rfl Tryz.underlying30 info5 rfl (by decide) (by omega) x [.int .u8 (x.toNat : Int)] rfl rfl rfl HLc.out ?_; intro v1 w1 HB'; rw [← HCx.out] at HB'; obtain ⟨A2, c2, rfl, _, _⟩ := HB'.reads 1 rfl; have hat2 := HB'.at1 0 rfl m (by rw [HL2.out]; omega); obtain ⟨g2, c3, e3, _, hg2, _, hfz2⟩ := HB'.form 0 rfl (by rw [HL2.out]; omega); injection e3 with e3 e3b e3c; injection e3 with e3; injection e3 with e3 e3d e3e; clear e3b e3c e3d e3e; subst e3; have hfz3 := hfz2 m; have hat3 := cell_isSome hat2; obtain ⟨o3, hat4⟩ := hat3; have HB := Aside0.mk HB'; clear HB' hat2 hfz2 HR)
        go_roundw
        case measure => simp [intOf]; omega
        case rel =>
          refine ⟨k + 1, by omega, by go_num, (A2, cx.length, c2), ss, ?_, ?_⟩
          · rw [HF.out]
            simp [segStep, HX.out, HSS.out]
          · rw [HF.out]
            have h := HB.out.setCell1 0 rfl m (by omega) (A2, cx.length, c2)
            have e5 : (ss.reverse ++ [(sA, sn, sc)]).set m (A2, cx.length, c2) = ss.reverse ++ [(A2, cx.length, c2)] := by
              rw [HMm.out, List.set_append_right _ _ (by simp)]
              simp
            simp only [segStep, if_neg HX.out]
            rw [← e5, ← HCx.out]
            exact h
    · obtain rfl : k = xs.length := by omega
      clear hR
      go_wp2
      go_ret
      refine ⟨_, rfl, s, ss, ?_, ?_⟩
      · have := HSS.out; rwa [List.take_length] at this
      · have := HR.out; rwa [List.take_length] at this
end Go.Proofs.YtdldblfklalaeaaGreatDoor
