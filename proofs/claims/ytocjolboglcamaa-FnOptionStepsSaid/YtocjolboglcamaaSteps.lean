/-
  FnOptionSteps: the walks of the reference, of the copy, and of the law.
-/
import Derived.Test.YtocjolboglcamaaOpt
import Derived.Test.YtocjolboglcamaaB64
import Derived.Test.YtocjolboglcamaaOpen
namespace Go.Proofs.Ytocjolboglcamaa
open Go.RowKit Go.Proofs.YtocjolboglcamaaW.PrintWords
set_option linter.unusedVariables false
set_option linter.unusedSimpArgs false

def optStep2 (s k b : Int) : Int := if k = 0 then bits .or .u64 s b else if k = 1 then bits .andNot .u64 s b else if k = 2 then 0 else if k = 3 then b else s
def optVals2 : Int → List (Int × Int) → List Int
  | _, [] => []
  | s, x :: r => optStep2 s x.1 x.2 :: optVals2 (optStep2 s x.1 x.2) r
def optSt2 (s : Int) (xs : List (Int × Int)) : Int := xs.foldl (fun s x => optStep2 s x.1 x.2) s
def optAsks2 : Int → List (Int × Int) → List Bool
  | _, [] => []
  | s, x :: r => optAsk s x.1 x.2 :: optAsks2 (optStep2 s x.1 x.2) r
theorem optVals2_snoc (x : Int × Int) : ∀ (s : Int) (xs : List (Int × Int)), optVals2 s (xs ++ [x]) = optVals2 s xs ++ [optSt2 s (xs ++ [x])]
  | s, [] => rfl
  | s, y :: r => by simp [optVals2, optSt2, optVals2_snoc x _ r]
theorem optAsks2_snoc (x : Int × Int) : ∀ (s : Int) (xs : List (Int × Int)), optAsks2 s (xs ++ [x]) = optAsks2 s xs ++ [optAsk (optSt2 s xs) x.1 x.2]
  | s, [] => rfl
  | s, y :: r => by simp [optAsks2, optSt2, optAsks2_snoc x _ r]
theorem optVals2_length : ∀ (s : Int) (xs : List (Int × Int)), (optVals2 s xs).length = xs.length
  | _, [] => rfl
  | s, y :: r => by simp [optVals2, optVals2_length _ r]
theorem optAsks2_length : ∀ (s : Int) (xs : List (Int × Int)), (optAsks2 s xs).length = xs.length
  | _, [] => rfl
  | s, y :: r => by simp [optAsks2, optAsks2_length _ r]
theorem wf_u64 {n : Int} (h : (Lit.int .u64 n).wf = true) : 0 ≤ n ∧ n < 18446744073709551616 := by
  simp [Lit.wf, IntKind.min, IntKind.max, IntKind.bits, IntKind.signed] at h
  omega
/-- A whole number of a word of 64. -/
def In64 (n : Int) : Prop := 0 ≤ n ∧ n < 18446744073709551616
theorem optStep_eq {s k b : Int} (hs : In64 s) (hb : In64 b) : optStep2 s k b = optStep s k b ∧ In64 (optStep s k b) := by
  obtain ⟨x, rfl⟩ := b64_of hs.1 hs.2
  obtain ⟨y, rfl⟩ := b64_of hb.1 hb.2
  have hl := fun z : BitVec 64 => b64_lt z
  unfold optStep2 optStep In64
  rw [b64_or, b64_andNot, b64_not, b64_and]
  have h1 := hl (x ||| y); have h2 := hl (x &&& ~~~y); have h3 := hl x; have h4 := hl y
  refine ⟨rfl, ?_⟩
  repeat' split
  all_goals omega
theorem optVals_eq : ∀ (s : Int) (xs : List (Int × Int)), In64 s → (∀ x ∈ xs, In64 x.2) → optVals2 s xs = optVals s xs ∧ optAsks2 s xs = optAsks s xs
  | _, [], _, _ => ⟨rfl, rfl⟩
  | s, x :: r, hs, hx => by
    obtain ⟨e, hi⟩ := optStep_eq (k := x.1) hs (hx x (by simp))
    obtain ⟨h1, h2⟩ := optVals_eq (optStep s x.1 x.2) r hi (fun y hy => hx y (by simp [hy]))
    simp only [optVals2, optVals, optAsks2, optAsks, e, h1, h2, and_self]
set_option maxHeartbeats 1000000 in
theorem played_any (w : World) (A : Option Addr) (n c : Nat) (xs : List (Int × Int)) (hn : xs.length * 16 ≤ 140737488351232) 
   (hC : kOpt.C w A n xs) :
    Calls Try.prog 11 #[.slice A n c] w fun e w' => ∃ v1 v2, e = .returned (.tuple #[v1, v2]) ∧ Hold w w.heap.size w' [.row (Kd.int .u64) 22 v1 (optVals2 0 xs), .row Kd.bool 4 v2 (optAsks2 0 xs)] := by
  obtain rfl := hC.1
  have hu26 := Try.underlying26
  go_enter Try.func11, Try.ntmps11
  go_wp2
  go_loopw [4, 5, 6, 12] (fun v4 v5 v6 i wr => ∃ k : Nat, k ≤ xs.length ∧ i = .int .i64 k ∧ v4 = .int .u64 (optSt2 0 (xs.take k)) ∧
      Hold w w.heap.size wr [.row (Kd.int .u64) 22 v5 (optVals2 0 (xs.take k)), .row Kd.bool 4 v6 (optAsks2 0 (xs.take k))])
     (fun _ _ _ i _ => xs.length - (intOf i).toNat)
  case atStart => 
    exact ⟨0, Nat.zero_le _, rfl, rfl, ((Hold.start w).nil Kd.bool 4).nil (Kd.int .u64) 22⟩
  case round =>
    obtain ⟨k, hkn, rfl, rfl, hR⟩ := hrel
    have HR := Aside0.mk hR
    clear hR
    by_cases hlt : k < xs.length
    · obtain ⟨ad, rfl, e1, e2⟩ := C2_get (Kd.C_below hC HR.out.below) k hlt
      have HC := Aside0.mk hC
      clear hC
      go_upto_block 2 with (fail)
      go_cut [4, 9] (fun v4 v9 w2 => v4 = .int .u64 (optStep2 (optSt2 0 (xs.take k)) xs[k].1 xs[k].2) ∧ v9 = .bool (optAsk (optSt2 0 (xs.take k)) xs[k].1 xs[k].2) ∧ 
         Hold w w.heap.size w2 [.row (Kd.int .u64) 22 u5 (optVals2 0 (xs.take k)), .row Kd.bool 4 u6 (optAsks2 0 (xs.take k))])
      case first =>
        go_wp2
        · go_meet
          have h0 : (xs[k].1 == 0) = true := by assumption
          have h0 := beq_iff_eq.1 h0
          rw [show optStep2 (optSt2 0 (xs.take k)) xs[k].1 xs[k].2 = bits .or .u64 (optSt2 0 (xs.take k)) xs[k].2 from by simp [optStep2, h0]]
          exact ⟨rfl, by simp [optAsk, h0], HR.out.alloc_ _⟩
        · go_meet
          have h0 : (xs[k].1 == 1) = true := by assumption
          have h0 := beq_iff_eq.1 h0
          rw [show optStep2 (optSt2 0 (xs.take k)) xs[k].1 xs[k].2 = bits .andNot .u64 (optSt2 0 (xs.take k)) xs[k].2 from by simp [optStep2, h0]]
          exact ⟨rfl, by simp [optAsk, h0], HR.out.alloc_ _⟩
        · go_meet
          have h0 : (xs[k].1 == 2) = true := by assumption
          have h0 := beq_iff_eq.1 h0
          rw [show optStep2 (optSt2 0 (xs.take k)) xs[k].1 xs[k].2 = 0 from by simp [optStep2, h0]]
          exact ⟨rfl, by simp [optAsk, h0], HR.out.alloc_ _⟩
        · go_meet
          have h0 : (xs[k].1 == 3) = true := by assumption
          have h0 := beq_iff_eq.1 h0
          rw [show optStep2 (optSt2 0 (xs.take k)) xs[k].1 xs[k].2 = xs[k].2 from by simp [optStep2, h0]]
          exact ⟨rfl, by simp [optAsk, h0], HR.out.alloc_ _⟩
        · have h0 : (xs[k].1 == 4) = true := by assumption
          have h0 := beq_iff_eq.1 h0
          go_meet
          rw [show optStep2 (optSt2 0 (xs.take k)) xs[k].1 xs[k].2 = optSt2 0 (xs.take k) from by simp [optStep2, h0]]
          exact ⟨rfl, by simp [optAsk, h0], HR.out.alloc_ _⟩
        · have h0 : (xs[k].1 == 0) = false := by assumption
          have h1 : (xs[k].1 == 1) = false := by assumption
          have h2 : (xs[k].1 == 2) = false := by assumption
          have h3 : (xs[k].1 == 3) = false := by assumption
          have h4 : (xs[k].1 == 4) = false := by assumption
          have h0 := beq_eq_false_iff_ne.1 h0
          have h1 := beq_eq_false_iff_ne.1 h1
          have h2 := beq_eq_false_iff_ne.1 h2
          have h3 := beq_eq_false_iff_ne.1 h3
          go_meet
          rw [show optStep2 (optSt2 0 (xs.take k)) xs[k].1 xs[k].2 = optSt2 0 (xs.take k) from by simp [optStep2, h0, h1, h2, h3]]
          exact ⟨rfl, by simp [optAsk, h4], HR.out.alloc_ _⟩
      case rest =>
        obtain ⟨rfl, rfl, hR2⟩ := hcut
        have HR2 := Aside0.mk hR2
        clear hR2 HR e1 e2
        have Hl5 : Aside0 (((optVals2 0 (xs.take k)).length + 1) * 8 ≤ 140737488355328) := ⟨by rw [optVals2_length, List.length_take]; omega⟩
        have Hl6 : Aside0 (((optAsks2 0 (xs.take k)).length + 1) * 1 ≤ 140737488355328) := ⟨by rw [optAsks2_length, List.length_take]; omega⟩
        go_wp2_with (first 
          | ((with_reducible refine at_bi (b := .append) (xs := #[.tmp 45, .tmp 47]) rfl ?_); at_builtin; refine Hold.append1 (Kd.int .u64) 0 HR2.out rfl rfl (.tmp 45) (.tmp 47) 31 (.int .u64 0) 8 rfl Try.underlying31 info22 rfl (by decide) (by omega) (optStep2 (optSt2 0 (xs.take k)) xs[k].1 xs[k].2) [.int .u64 (optStep2 (optSt2 0 (xs.take k)) xs[k].1 xs[k].2)] rfl rfl rfl Hl5.out ?_; intro _ _ HR3'; have HR3 := Aside0.mk HR3'; clear HR3' HR2)
          | ((with_reducible refine at_bi (b := .append) (xs := #[.tmp 49, .tmp 51]) rfl ?_); at_builtin; refine Hold.append1 (Kd.bool) 1 HR3.out rfl rfl (.tmp 49) (.tmp 51) 32 (.bool false) 1 rfl Try.underlying32 info4 rfl (by decide) (by omega) (optAsk (optSt2 0 (xs.take k)) xs[k].1 xs[k].2) [.bool (optAsk (optSt2 0 (xs.take k)) xs[k].1 xs[k].2)] rfl rfl rfl Hl6.out ?_; intro _ _ HR4'; have HR4 := Aside0.mk HR4'; clear HR4' HR3))
        go_roundw
        case measure => simp [intOf]; omega
        case rel =>
          refine ⟨k + 1, hlt, by go_num, ?_⟩
          have e : xs.take (k + 1) = xs.take k ++ [xs[k]] := by rw [List.take_succ_eq_append_getElem hlt]
          have e' : optSt2 0 (xs.take (k + 1)) = optStep2 (optSt2 0 (xs.take k)) xs[k].1 xs[k].2 := by rw [e]; unfold optSt2; rw [List.foldl_append]; rfl
          have hv : optVals2 0 (xs.take (k + 1)) = optVals2 0 (xs.take k) ++ [optStep2 (optSt2 0 (xs.take k)) xs[k].1 xs[k].2] := by rw [← e', e, optVals2_snoc]
          have ha : optAsks2 0 (xs.take (k + 1)) = optAsks2 0 (xs.take k) ++ [optAsk (optSt2 0 (xs.take k)) xs[k].1 xs[k].2] := by rw [e, optAsks2_snoc]
          rw [hv, ha, e']
          exact ⟨rfl, HR4.out⟩
    · have hk : k = xs.length := by omega
      subst hk
      go_wp2
      go_ret2
      have h := HR.out
      rw [List.take_length] at h
      exact ⟨_, _, rfl, h⟩


theorem pair_KM {α β : Type} {e1 : α → Value} {e2 : β → Value} {h1 : ∀ x, (e1 x).oneCell' = true} {h2 : ∀ x, (e2 x).oneCell' = true} (w : World) (b : Nat) (ok : Nat → Prop) (x : α × β) (cs : List Value) (h : (Kd.pair (Kd.scalar e1 h1) (Kd.scalar e2 h2)).K w x cs) : (Kd.pair (Kd.scalar e1 h1) (Kd.scalar e2 h2)).M w b ok x cs := h
theorem infoOpt : (Try.prog.info? 26).map (fun i => (i.zero, i.size, i.bytes)) = some (some (.agg #[.int .i64 0, .int .u64 0]), 2, 16) := by kernel_rfl
set_option maxHeartbeats 1000000 in
theorem clone_any (w : World) (A : Option Addr) (n c : Nat) (xs : List (Int × Int)) (hn : xs.length * 16 ≤ 140737488351232) (hC : kOpt.C w A n xs) :
    Calls Try.prog 9 #[.slice A n c] w fun e w' => ∃ v, e = .returned v ∧ Hold w w.heap.size w' [.row kOpt 26 v xs] := by
  obtain rfl := hC.1
  have hnil := fun W : World => Lib.run_eql_slice_nil (P := Try.prog) W 29 26 A xs.length c 0 0 Try.underlying29
  cases A with
  | none =>
    have hx : xs = [] := by
      rcases Nat.eq_zero_or_pos xs.length with h | h
      · exact List.eq_nil_of_length_eq_zero h
      · obtain ⟨ad, e, _⟩ := hC.2.2 h
        cases e
    subst hx
    have hnil0 := fun W : World => Lib.run_eql_slice_nil (P := Try.prog) W 29 26 none 0 c 0 0 Try.underlying29
    go_enter Try.func9, Try.ntmps9
    go_wp2
    go_ret
    exact ⟨_, rfl, (Hold.start w).nil _ _⟩
  | some ad =>
    have H0 := Aside0.mk (((Hold.start w).alloc (.cells #[] 26)).toRow 0 (d := kOpt) (n := 0) (c := 0) (xs := []) rfl (Reps.none _ _) rfl (Nat.le_refl _) (Nat.zero_le _) rfl)
    have HC := Aside0.mk hC
    have Hl : Aside0 ((([] : List (Int × Int)).length + xs.length) * 16 ≤ 140737488355328) := ⟨by simp; omega⟩
    clear hC
    go_enter Try.func9, Try.ntmps9
    go_wp2_with ((with_reducible refine at_bi (b := .append) (xs := #[.tmp 5, .tmp 6]) rfl ?_); at_builtin; refine Hold.appendRowG kOpt 0 H0.out rfl rfl (.tmp 5) (.tmp 6) 29 (.agg #[.int .i64 0, .int .u64 0]) 16 rfl Try.underlying29 infoOpt rfl (by decide) (by omega) (some ad) xs.length c rfl rfl (Kd.C_below HC.out H0.out.below) (pair_KM _ _ _) Hl.out ?_; intro _ _ H1'; have H1 := Aside0.mk H1'; clear H1' H0)
    go_ret
    exact ⟨_, rfl, H1.out⟩

/-- What the law asks for: a single option is asked for. -/
def optOne (x : Int × Int) : Int × Int := if x.1 = 4 then (x.1, IntKind.u64.wrap (1 * 2 ^ min (x.2.tmod 64).toNat IntKind.u64.bits)) else x
/-- The first k of them asked for one by one. -/
def optUpto (xs : List (Int × Int)) (k : Nat) : List (Int × Int) := (xs.take k).map optOne ++ xs.drop k
theorem optUpto_zero (xs : List (Int × Int)) : optUpto xs 0 = xs := by simp [optUpto]
theorem optUpto_length (xs : List (Int × Int)) (k : Nat) : (optUpto xs k).length = xs.length := by simp [optUpto]; omega
theorem optUpto_at (xs : List (Int × Int)) (k : Nat) (hk : k < xs.length) : (optUpto xs k)[k]'(by rw [optUpto_length]; exact hk) = xs[k] := by
  simp only [optUpto]
  rw [List.getElem_append_right (by simp; omega)]
  simp [Nat.min_eq_left (Nat.le_of_lt hk)]
theorem optUpto_succ (xs : List (Int × Int)) (k : Nat) (hk : k < xs.length) : optUpto xs (k + 1) = (optUpto xs k).set k (optOne xs[k]) := by
  simp only [optUpto]
  rw [List.take_succ_eq_append_getElem hk, List.map_append, List.set_append_right _ _ (by simp; omega)]
  simp only [List.length_map, List.length_take, Nat.min_eq_left (Nat.le_of_lt hk), Nat.sub_self, List.append_assoc]
  rw [List.drop_eq_getElem_cons hk, List.set_cons_zero]
  rfl
theorem optUpto_same (xs : List (Int × Int)) (k : Nat) (hk : k < xs.length) : (optUpto xs k).set k xs[k] = optUpto xs k := by
  apply List.ext_getElem
  · simp
  · intro i h1 h2
    rw [List.getElem_set]
    split
    · rename_i e; subst e; exact (optUpto_at xs k hk).symm
    · rfl
theorem optUpto_all (xs : List (Int × Int)) : optUpto xs xs.length = xs.map optOne := by simp [optUpto]
set_option maxHeartbeats 1000000 in
theorem steps_any (w : World) (A : Option Addr) (n c : Nat) (xs : List (Int × Int)) (hn : xs.length * 16 ≤ 140737488351232) (hC : kOpt.C w A n xs) (hb : ∀ x ∈ xs, In64 x.2) :
    Calls Try.prog 4 #[.slice A n c] w fun e w' => e = .returned (.bool true) ∧ Below w.heap.size w w' := by
  obtain rfl := hC.1
  by_cases h1 : 1000 < xs.length
  · by_cases h2 : 2147483647 < xs.length
    · clear hC hb hn
      go_enter Try.func4, Try.ntmps4
      go_wp2
      go_ret
      exact ⟨rfl, Below.refl _ _⟩
    · clear hC hb hn
      go_enter Try.func4, Try.ntmps4
      go_wp2_with fail
      refine (optAwake_any _).mono ?_
      rintro e w1 ⟨rfl, hR⟩
      have HR := Aside0.mk hR
      clear hR
      go_wp2
      go_ret
      exact ⟨rfl, HR.out.below⟩
  · have h2 : ¬ 2147483647 < xs.length := by omega
    have HC := Aside0.mk hC
    have HB := Aside0.mk hb
    have HN := Aside0.mk hn
    clear hC hb hn
    go_enter Try.func4, Try.ntmps4
    go_wp2_with fail
    refine (clone_any _ A _ c xs HN.out HC.out).mono ?_
    rintro e w1 ⟨v, rfl, hR⟩
    obtain ⟨A1, c1, rfl, hc1, _⟩ := hR.reads 0 rfl
    have HR := Aside0.mk hR
    clear hR
    go_wp2
    go_loopw [20] (fun i wr => ∃ k : Nat, k ≤ xs.length ∧ i = .int .i64 k ∧ Hold w w.heap.size wr [.row kOpt 26 (.slice A1 xs.length c1) (optUpto xs k)]) (fun i _ => xs.length - (intOf i).toNat)
    case atStart => exact ⟨0, Nat.zero_le _, rfl, by rw [optUpto_zero]; exact HR.out⟩
    case round =>
      obtain ⟨k, hk, rfl, hR⟩ := hrel
      by_cases hlt : k < xs.length
      · have hlen := optUpto_length xs k
        obtain ⟨g, c2, he, _, hgs, _, hfr⟩ := hR.form 0 rfl (by rw [hlen]; omega)
        rw [hlen] at he
        obtain ⟨rfl, rfl⟩ : A1 = some ⟨g, 0, none⟩ ∧ c1 = c2 := by injection he with h1 h2 h3; exact ⟨h1, h3⟩
        obtain ⟨e1, e2⟩ := hR.at2 0 rfl k (by rw [hlen]; exact hlt)
        rw [optUpto_at xs k hlt] at e1 e2
        have hf1 := hfr (k * 2 + 1)
        have HR2 := Aside0.mk hR
        clear hR hfr he hlen
        have hu26 := Try.underlying26
        by_cases h4 : xs[k].1 = 4
        · have t4 : (xs[k].1 == 4) = true := beq_iff_eq.2 h4
          have H4 := Aside0.mk h4
          clear h4
          have hx0 : 0 ≤ xs[k].2 := (HB.out xs[k] (List.getElem_mem hlt)).1
          have hsh : ∀ W : World, (Op.shift .shl .u64 1 .u64 (xs[k].2.tmod 64)).run Try.prog W = .ok (.int .u64 (IntKind.u64.wrap (1 * 2 ^ min (xs[k].2.tmod 64).toNat IntKind.u64.bits))) W := by
            intro W
            unfold Op.shift
            rw [if_neg (by have := Int.tmod_nonneg 64 hx0; omega)]
            rfl
          clear hx0
          generalize hq : IntKind.u64.wrap (1 * 2 ^ min (xs[k].2.tmod 64).toNat IntKind.u64.bits) = q at hsh
          have HQ := Aside0.mk hq
          clear hq
          go_wp2
          go_roundw
          case measure => simp [intOf]; omega
          case rel =>
            refine ⟨k + 1, hlt, by go_num, ?_⟩
            rw [optUpto_succ xs k hlt, show optOne xs[k] = (xs[k].1, q) from by simp only [optOne, H4.out, if_true, HQ.out]]
            refine (HR2.out.setCell 0 rfl k 1 hlt (.int .u64 q) (xs[k].1, q) (by decide) [.int .i64 xs[k].1, .int .u64 xs[k].2] rfl ?_ ⟨[.int .i64 xs[k].1], [.int .u64 q], rfl, rfl, rfl⟩).alloc_ _
            intro j u hu
            match j with
            | 0 => exact e1.trans hu
            | 1 => exact e2.trans hu
            | j + 2 => simp at hu
        · have t4 : (xs[k].1 == 4) = false := beq_eq_false_iff_ne.2 h4
          have H4 := Aside0.mk h4
          clear h4
          go_wp2
          go_roundw
          case measure => simp [intOf]; omega
          case rel =>
            refine ⟨k + 1, hlt, by go_num, ?_⟩
            rw [optUpto_succ xs k hlt, show optOne xs[k] = xs[k] from by simp [optOne, H4.out]]
            rw [optUpto_same xs k hlt]
            exact HR2.out.alloc_ _
      · obtain rfl : k = xs.length := by omega
        rw [optUpto_all] at hR
        obtain ⟨A2, c2, he, _, hC2⟩ := hR.reads 0 rfl
        obtain ⟨rfl, rfl⟩ : A1 = A2 ∧ c1 = c2 := by injection he with h1 h2 h3; exact ⟨h1, h3⟩
        have hb2 : ∀ x ∈ xs.map optOne, In64 x.2 := by
          intro x hx
          obtain ⟨y, hy, rfl⟩ := List.mem_map.1 hx
          unfold optOne
          split
          · unfold In64; simp only [IntKind.wrap_u64]; omega
          · exact HB.out y hy
        obtain ⟨hv, ha⟩ := optVals_eq 0 _ ⟨by decide, by decide⟩ hb2
        rw [List.length_map] at hC2
        have hn2 : (xs.map optOne).length * 16 ≤ 140737488351232 := by rw [List.length_map]; exact HN.out
        generalize xs.map optOne = zs at *
        have HR2 := Aside0.mk hR
        have HC2 := Aside0.mk hC2
        have HV := Aside0.mk hv
        have HA := Aside0.mk ha
        have HN2 := Aside0.mk hn2
        clear hR hC2 hv ha hn2 hb2 he HR HB HC HN
        go_wp2_with fail
        refine (opt_any _ A1 _ c1 zs HN2.out HC2.out).mono ?_
        rintro e w2 ⟨u1, u2, rfl, hR⟩
        have H3 := Aside0.mk (HR2.out.app hR)
        have HC3 := Aside0.mk (Kd.C_below HC2.out hR.below)
        clear hR HC2
        go_wp2_with fail
        refine (played_any _ A1 _ c1 zs HN2.out HC3.out).mono ?_
        rintro e w3 ⟨u3, u4, rfl, hR⟩
        rw [HV.out, HA.out] at hR
        have hS := H3.out.app hR
        obtain ⟨B1, d1, rfl, _, q1⟩ := hS.reads 2 rfl
        obtain ⟨B2, d2, rfl, _, q2⟩ := hS.reads 3 rfl
        obtain ⟨B3, d3, rfl, _, q3⟩ := hS.reads 0 rfl
        obtain ⟨B4, d4, rfl, _, q4⟩ := hS.reads 1 rfl
        have H4 := Aside0.mk hS
        have Q1 := Aside0.mk q1
        have Q2 := Aside0.mk q2
        have Q3 := Aside0.mk q3
        have Q4 := Aside0.mk q4
        clear hS hR q1 q2 q3 q4 H3 HC3
        go_wp2_with fail
        refine (equal_u64 _ B1 B3 _ _ _ _ _ _ Q1.out Q3.out).mono ?_
        rintro e w4 ⟨rfl, n, rfl⟩
        rw [decide_eq_true rfl]
        go_wp2_with fail
        refine (equal_bool _ B2 B4 _ _ _ _ _ _ (Kd.C_below Q2.out (pw_below_drewN (Below.refl _ _) n)) (Kd.C_below Q4.out (pw_below_drewN (Below.refl _ _) n))).mono ?_
        rintro e w4 ⟨rfl, m, rfl⟩
        rw [decide_eq_true rfl]
        go_wp2_with fail
        refine (optAwake_any _).mono ?_
        rintro e w5 ⟨rfl, hR⟩
        have H5 := Aside0.mk ((H4.out.drewN (n + m)).app hR)
        clear hR H4
        go_wp2
        go_ret
        exact ⟨rfl, H5.out.below⟩
theorem opens_opt : Opens Try.prog 26 (Kd.pair (Kd.int .i64) (Kd.int .u64)) (Both (WfI .i64) (WfI .u64)) :=
  Opens.struct Try.underlying26 (by kernel_rfl) (OpensAt.cons (i := 0) rfl rfl (by kernel_rfl) (Opens.int Try.underlying3) (OpensAt.last (i := 1) rfl rfl (by kernel_rfl) (Opens.int Try.underlying22)))
theorem steps_row (A : Option Addr) (n c : Nat) (xs : List (Int × Int)) (w : World) (hC : kOpt.C w A n xs) (ho : AllOk (Both (WfI .i64) (WfI .u64)) xs) (hn : xs.length * 16 ≤ 140737488351232) :
    Calls Try.prog 4 #[.slice A n c] w fun e w' => e = .returned (.bool true) ∧ Below w.heap.size w w' :=
  steps_any w A n c xs hn hC (fun x hx => wf_u64 (ho x hx).2)

end Go.Proofs.Ytocjolboglcamaa
