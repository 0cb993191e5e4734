/-
  jwt.TokenOptionSet through impl.Optioned: the walk.
-/
import Derived.Test.YtocjolboglcamaaRows
import Derived.WalkKit
import Derived.WalkSpells
import Derived.WalkLawsBesides
import Derived.Deep.DeepCutAuto
import Derived.Deep.CutBlock
import Derived.Deep.QuietTactic
import Derived.BigQuiet
import Derived.Test.YtocjolboglcamaaEq
namespace Go.Proofs.Ytocjolboglcamaa
open Go.RowKit Go.Proofs.YtocjolboglcamaaW.PrintWords
set_option linter.unusedVariables false
set_option linter.unusedSimpArgs false

theorem info22 : (Try.prog.info? 22).map (fun i => (i.zero, i.size, i.bytes)) = some (some (.int .u64 0), 1, 8) := by kernel_rfl
theorem info4 : (Try.prog.info? 4).map (fun i => (i.zero, i.size, i.bytes)) = some (some (.bool false), 1, 1) := by kernel_rfl
def optStep (s k b : Int) : Int := if k = 0 then bits .or .u64 s b else if k = 1 then bits .and .u64 s (bits .xor .u64 IntKind.u64.max b) else if k = 2 then 0 else if k = 3 then b else s
def optAsk (s k b : Int) : Bool := (k == 4) && (bits .and .u64 s b == b)
def optVals : Int → List (Int × Int) → List Int
  | _, [] => []
  | s, x :: r => optStep s x.1 x.2 :: optVals (optStep s x.1 x.2) r
def optSt (s : Int) (xs : List (Int × Int)) : Int := xs.foldl (fun s x => optStep s x.1 x.2) s
def optAsks : Int → List (Int × Int) → List Bool
  | _, [] => []
  | s, x :: r => optAsk s x.1 x.2 :: optAsks (optStep s x.1 x.2) r
theorem optVals_snoc (x : Int × Int) : ∀ (s : Int) (xs : List (Int × Int)), optVals s (xs ++ [x]) = optVals s xs ++ [optSt s (xs ++ [x])]
  | s, [] => rfl
  | s, y :: r => by simp [optVals, optSt, optVals_snoc x _ r]
theorem optAsks_snoc (x : Int × Int) : ∀ (s : Int) (xs : List (Int × Int)), optAsks s (xs ++ [x]) = optAsks s xs ++ [optAsk (optSt s xs) x.1 x.2]
  | s, [] => rfl
  | s, y :: r => by simp [optAsks, optSt, optAsks_snoc x _ r]

theorem optVals_length : ∀ (s : Int) (xs : List (Int × Int)), (optVals s xs).length = xs.length
  | _, [] => rfl
  | s, y :: r => by simp [optVals, optVals_length _ r]
theorem optAsks_length : ∀ (s : Int) (xs : List (Int × Int)), (optAsks s xs).length = xs.length
  | _, [] => rfl
  | s, y :: r => by simp [optAsks, optAsks_length _ r]
theorem value_any (s : Int) (w : World) : Calls Try.prog 26 #[.int .u64 s] w fun e w' => e = .returned (.int .u64 s) ∧ w = w' := by
  go_enter Try.func26, Try.ntmps26
  go_wp2
  go_ret
  exact ⟨rfl, rfl⟩
abbrev kOpt : Kd (Int × Int) := Kd.pair (Kd.int .i64) (Kd.int .u64)

set_option maxHeartbeats 1000000 in
theorem opt_any (w : World) (A : Option Addr) (n c : Nat) (xs : List (Int × Int)) (hn : xs.length * 16 ≤ 140737488351232) 
   (hC : kOpt.C w A n xs) :
    Calls Try.prog 10 #[.slice A n c] w fun e w' => ∃ v1 v2, e = .returned (.tuple #[v1, v2]) ∧ Hold w w.heap.size w' [.row (Kd.int .u64) 22 v1 (optVals 0 xs), .row Kd.bool 4 v2 (optAsks 0 xs)] := by
  obtain rfl := hC.1
  have hu26 := Try.underlying26
  go_enter Try.func10, Try.ntmps10
  go_wp2
  go_loopw [5, 6, 12] (fun v5 v6 i wr => ∃ k : Nat, k ≤ xs.length ∧ i = .int .i64 k ∧
      Hold w w.heap.size wr [.blk w.heap.size (.cells #[.int .u64 (optSt 0 (xs.take k))] 47), .row (Kd.int .u64) 22 v5 (optVals 0 (xs.take k)), .row Kd.bool 4 v6 (optAsks 0 (xs.take k))])
     (fun _ _ i _ => xs.length - (intOf i).toNat)
  case atStart => 
    exact ⟨0, Nat.zero_le _, rfl, ((((Hold.start w).nil Kd.bool 4).nil (Kd.int .u64) 22).alloc (.cells #[.int .u64 0] 47))⟩
  case round =>
    obtain ⟨k, hkn, rfl, hR⟩ := hrel
    have HR := Aside0.mk hR
    clear hR
    by_cases hlt : k < xs.length
    · obtain ⟨ad, rfl, e1, e2⟩ := C2_get (Kd.C_below hC HR.out.below) k hlt
      have HC := Aside0.mk hC
      clear hC
      obtain ⟨hc0, hf0, hgs⟩ := HR.out.cell1 0 rfl
      go_upto_block 2 with (fail)
      go_cut [9] (fun v9 w2 => v9 = .bool (optAsk (optSt 0 (xs.take k)) xs[k].1 xs[k].2) ∧ 
         Hold w w.heap.size w2 [.blk w.heap.size (.cells #[.int .u64 (optStep (optSt 0 (xs.take k)) xs[k].1 xs[k].2)] 47), .row (Kd.int .u64) 22 u5 (optVals 0 (xs.take k)), .row Kd.bool 4 u6 (optAsks 0 (xs.take k))])
      case first =>
        go_wp2
        · go_end0
          go_wp2
          go_meet
          have h0 : (xs[k].1 == 0) = true := by assumption
          have h0 := beq_iff_eq.1 h0
          refine ⟨by simp [optAsk, h0], ?_⟩
          rw [show optStep (optSt 0 (xs.take k)) xs[k].1 xs[k].2 = bits .or .u64 (optSt 0 (xs.take k)) xs[k].2 from by simp [optStep, h0]]
          exact (HR.out.store 0 rfl 0 _).alloc_ _
        · go_end0
          go_wp2
          go_meet
          have h0 : (xs[k].1 == 1) = true := by assumption
          have h0 := beq_iff_eq.1 h0
          refine ⟨by simp [optAsk, h0], ?_⟩
          rw [show optStep (optSt 0 (xs.take k)) xs[k].1 xs[k].2 = bits .and .u64 (optSt 0 (xs.take k)) (bits .xor .u64 IntKind.u64.max xs[k].2) from by simp [optStep, h0]]
          exact (HR.out.store 0 rfl 0 _).alloc_ _
        · go_end0
          go_wp2
          go_meet
          have h0 : (xs[k].1 == 2) = true := by assumption
          have h0 := beq_iff_eq.1 h0
          refine ⟨by simp [optAsk, h0], ?_⟩
          rw [show optStep (optSt 0 (xs.take k)) xs[k].1 xs[k].2 = 0 from by simp [optStep, h0]]
          exact (HR.out.store 0 rfl 0 _).alloc_ _
        · go_end0
          go_wp2
          go_meet
          have h0 : (xs[k].1 == 3) = true := by assumption
          have h0 := beq_iff_eq.1 h0
          refine ⟨by simp [optAsk, h0], ?_⟩
          rw [show optStep (optSt 0 (xs.take k)) xs[k].1 xs[k].2 = xs[k].2 from by simp [optStep, h0]]
          exact (HR.out.store 0 rfl 0 _).alloc_ _
        · have h0 : (xs[k].1 == 4) = true := by assumption
          have h0 := beq_iff_eq.1 h0
          go_meet
          refine ⟨by simp [optAsk, h0], ?_⟩
          rw [show optStep (optSt 0 (xs.take k)) xs[k].1 xs[k].2 = optSt 0 (xs.take k) from by simp [optStep, h0]]
          exact HR.out.alloc_ _
        · have h0 : (xs[k].1 == 0) = false := by assumption
          have h1 : (xs[k].1 == 1) = false := by assumption
          have h2 : (xs[k].1 == 2) = false := by assumption
          have h3 : (xs[k].1 == 3) = false := by assumption
          have h4 : (xs[k].1 == 4) = false := by assumption
          have h0 := beq_eq_false_iff_ne.1 h0
          have h1 := beq_eq_false_iff_ne.1 h1
          have h2 := beq_eq_false_iff_ne.1 h2
          have h3 := beq_eq_false_iff_ne.1 h3
          go_meet
          refine ⟨by simp [optAsk, h4], ?_⟩
          rw [show optStep (optSt 0 (xs.take k)) xs[k].1 xs[k].2 = optSt 0 (xs.take k) from by simp [optStep, h0, h1, h2, h3]]
          exact HR.out.alloc_ _
      case rest =>
        obtain ⟨rfl, hR2⟩ := hcut
        have HR2 := Aside0.mk hR2
        clear hR2 HR hc0 hf0 e1 e2
        obtain ⟨hc0, hf0, hgs2⟩ := HR2.out.cell1 0 rfl
        have Hl5 : Aside0 (((optVals 0 (xs.take k)).length + 1) * 8 ≤ 140737488355328) := ⟨by rw [optVals_length, List.length_take]; omega⟩
        have Hl6 : Aside0 (((optAsks 0 (xs.take k)).length + 1) * 1 ≤ 140737488355328) := ⟨by rw [optAsks_length, List.length_take]; omega⟩
        go_wp2_with (first 
          | (go_at_call 26; refine (value_any _ _).mono ?_; rintro e w' ⟨rfl, rfl⟩)
          | ((with_reducible refine at_bi (b := .append) (xs := #[.tmp 42, .tmp 45]) rfl ?_); at_builtin; refine Hold.append1 (Kd.int .u64) 1 HR2.out rfl rfl (.tmp 42) (.tmp 45) 31 (.int .u64 0) 8 rfl Try.underlying31 info22 rfl (by decide) (by omega) (optStep (optSt 0 (xs.take k)) xs[k].1 xs[k].2) [.int .u64 (optStep (optSt 0 (xs.take k)) xs[k].1 xs[k].2)] rfl rfl rfl Hl5.out ?_; intro _ _ HR3'; have HR3 := Aside0.mk HR3'; clear HR3' HR2 hc0 hf0 hgs2)
          | ((with_reducible refine at_bi (b := .append) (xs := #[.tmp 47, .tmp 49]) rfl ?_); at_builtin; refine Hold.append1 (Kd.bool) 2 HR3.out rfl rfl (.tmp 47) (.tmp 49) 32 (.bool false) 1 rfl Try.underlying32 info4 rfl (by decide) (by omega) (optAsk (optSt 0 (xs.take k)) xs[k].1 xs[k].2) [.bool (optAsk (optSt 0 (xs.take k)) xs[k].1 xs[k].2)] rfl rfl rfl Hl6.out ?_; intro _ _ HR4'; have HR4 := Aside0.mk HR4'; clear HR4' HR3))
        go_roundw
        case measure => simp [intOf]; omega
        case rel =>
          refine ⟨k + 1, hlt, by go_num, ?_⟩
          have e : xs.take (k + 1) = xs.take k ++ [xs[k]] := by rw [List.take_succ_eq_append_getElem hlt]
          have e' : optSt 0 (xs.take (k + 1)) = optStep (optSt 0 (xs.take k)) xs[k].1 xs[k].2 := by rw [e]; unfold optSt; rw [List.foldl_append]; rfl
          have hv : optVals 0 (xs.take (k + 1)) = optVals 0 (xs.take k) ++ [optStep (optSt 0 (xs.take k)) xs[k].1 xs[k].2] := by rw [← e', e, optVals_snoc]
          have ha : optAsks 0 (xs.take (k + 1)) = optAsks 0 (xs.take k) ++ [optAsk (optSt 0 (xs.take k)) xs[k].1 xs[k].2] := by rw [e, optAsks_snoc]
          rw [hv, ha, e']
          exact HR4.out
    · have hk : k = xs.length := by omega
      subst hk
      go_wp2
      go_ret2
      have h := HR.out.tail
      rw [List.take_length] at h
      exact ⟨_, _, rfl, h⟩

theorem optVals_last : ∀ (s : Int) (xs : List (Int × Int)), xs ≠ [] → (optVals s xs)[xs.length - 1]? = some (optSt s xs)
  | _, [], h => absurd rfl h
  | s, [x], _ => rfl
  | s, x :: y :: r, _ => by
    have h := optVals_last (optStep s x.1 x.2) (y :: r) (by simp)
    simpa [optVals, optSt] using h
set_option maxHeartbeats 1000000 in
theorem last_any (w : World) (A : Option Addr) (n c : Nat) (xs : List (Int × Int)) (hn : xs.length * 16 ≤ 140737488351232) (hne : 0 < xs.length)
   (hC : kOpt.C w A n xs) :
    Calls Try.prog 7 #[.slice A n c] w fun e w' => e = .returned (.tuple #[.int .u64 (optSt 0 xs), .bool true]) ∧ Hold w w.heap.size w' [] := by
  obtain rfl := hC.1
  go_enter Try.func7, Try.ntmps7
  go_wp2_with fail
  refine (opt_any w A _ c xs hn hC).mono ?_
  rintro e w1 ⟨v1, v2, rfl, hR⟩
  have hl := optVals_last 0 xs (by rintro rfl; simp at hne)
  obtain ⟨A1, c1, rfl, hle, hC1⟩ := hR.reads 0 rfl
  obtain ⟨A2, c2, rfl, _, _⟩ := hR.reads 1 rfl
  have hlen : (optVals 0 xs).length = xs.length := optVals_length 0 xs
  have hk : xs.length - 1 < (optVals 0 xs).length := by omega
  obtain ⟨ad, rfl, e1⟩ := C1_get hC1 (xs.length - 1) hk
  rw [List.getElem?_eq_getElem hk] at hl
  rw [Option.some.inj hl] at e1
  have HR := Aside0.mk hR
  have h1 : ((xs.length : Int) != (xs.length : Int)) = false := by simp
  have h2 : ((xs.length : Int) == 0) = false := beq_eq_false_iff_ne.2 (by omega)
  obtain ⟨m, hm⟩ : ∃ m, xs.length = m + 1 := ⟨xs.length - 1, (Nat.succ_pred_eq_of_pos hne).symm⟩
  clear hR hC hC1 hl
  rw [hlen] at hle hk ⊢
  clear hlen
  generalize xs.length = q at *
  subst hm
  have h3 : IntKind.i64.wrap ((↑(m + 1) : Int) - 1) = (m : Int) := by rw [IntWalk.i64_in _ (by omega)]; omega
  simp only [Nat.add_sub_cancel] at e1
  go_wp2
  go_ret2
  exact ⟨rfl, HR.out.tail.tail⟩

theorem kOpt_lit (w : World) (e g : Nat) (hg : w.heap.size = g) (xs : List (Int × Int)) (hm : xs.length ≤ 100) : kOpt.C (w.alloc (.cells (xs.flatMap fun x => [.int .i64 x.1, .int .u64 x.2]).toArray e)) (some ⟨g, 0, none⟩) xs.length xs :=
  C_lit w e g hg xs _ (reps_pair _ _ _ xs) (by unfold maxLen; omega)

set_option maxHeartbeats 1000000 in
theorem optAwake_any (w : World) :
    Calls Try.prog 8 #[] w fun e w' => e = .returned (.bool true) ∧ Hold w w.heap.size w' [] := by
  go_enter Try.func8, Try.ntmps8
  go_wp2_with fail
  refine (opt_any _ _ _ _ [(0, 1), (0, 4), (4, 4)] (by decide) (kOpt_lit w 26 _ rfl [(0, 1), (0, 4), (4, 4)] (by decide))).mono ?_
  rintro e w1 ⟨v1, v2, rfl, hR⟩
  have hS := ((Hold.start w).alloc_ _).app hR
  rw [show optVals 0 [(0, 1), (0, 4), (4, 4)] = [1, 5, 5] from by kernel_rfl, show optAsks 0 [(0, 1), (0, 4), (4, 4)] = [false, false, true] from by kernel_rfl] at hS
  obtain ⟨A1, c1, rfl, hle, hC1⟩ := hS.reads 0 rfl
  obtain ⟨A2, c2, rfl, _, hC2⟩ := hS.reads 1 rfl
  have HS := Aside0.mk hS
  have HC1 := Aside0.mk hC1
  have HC2 := Aside0.mk hC2
  clear hS hR hC1 hC2
  go_wp2_with fail
  refine (equal_u64 _ A1 _ _ _ _ _ [1, 5, 5] [1, 5, 5] (Kd.C_below HC1.out (Hold.start _ |>.alloc_ _).below) (C1_lit _ _ _ rfl [1, 5, 5] (by decide))).mono ?_
  rintro e w2 ⟨rfl, n, rfl⟩
  go_wp2_with fail
  refine (equal_bool _ A2 _ _ _ _ _ [false, false, true] [false, false, true] (Kd.C_below HC2.out (((Hold.start _).alloc_ _).drewN n |>.alloc_ _).below) (C1_lit _ _ _ (by simp) [false, false, true] (by decide))).mono ?_
  rintro e w2 ⟨rfl, m, rfl⟩
  go_wp2
  go_ret
  exact ⟨rfl, (((HS.out.tail.tail.alloc_ _).drewN n).alloc_ _).drewN m⟩



end Go.Proofs.Ytocjolboglcamaa
