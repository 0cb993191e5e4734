/-
  FnClaimMany: its walk.
-/
import Derived.Test.YthmcelofclikbaaClaim2
import Derived.Test.YthmcelofclikbaaPlainArg
namespace Go.Proofs.Ythmcelofclikbaa
open Go.RowKit Go.Proofs.YthmcelofclikbaaW.PrintWords Go.ChangeShapes Go.WideShapes
set_option linter.unusedVariables false
set_option linter.unusedSimpArgs false
def fits3 (xs : List Pl) : Bool := decide (xs.length ≤ 2147483647) && xs.all fits1
structure AllTo {α : Type} (p : α → Bool) (xs : List α) (k : Nat) : Prop where
  out : ∀ j, (hj : j < xs.length) → j < k → p xs[j] = true
theorem AllTo.zero {α : Type} (p : α → Bool) (xs : List α) : AllTo p xs 0 := ⟨fun j _ h => absurd h (Nat.not_lt_zero _)⟩
theorem AllTo.step {α : Type} {p : α → Bool} {xs : List α} {k : Nat} (h : AllTo p xs k) (hk : k < xs.length) (h2 : p xs[k] = true) : AllTo p xs (k + 1) := ⟨fun j hj hjk => by
  rcases Nat.lt_or_ge j k with h3 | h3
  · exact h.out j hj h3
  · obtain rfl : j = k := by omega
    exact h2⟩
theorem AllTo.all {α : Type} {p : α → Bool} {xs : List α} {k : Nat} (h : AllTo p xs k) (hk : xs.length ≤ k) : xs.all p = true := by
  rw [List.all_eq_true]
  intro x hx
  obtain ⟨j, hj, rfl⟩ := List.getElem_of_mem hx
  exact h.out j hj (by omega)
theorem all_not {α : Type} {p : α → Bool} {xs : List α} {k : Nat} (hk : k < xs.length) (h : p xs[k] = false) : xs.all p = false := by
  rw [← Bool.not_eq_true, List.all_eq_true]
  intro ha
  rw [ha _ (List.getElem_mem hk)] at h
  cases h
set_option maxRecDepth 100000 in
set_option maxHeartbeats 2000000 in
theorem fits3_any (w : World) (A : Option Addr) (n c : Nat) (xs : List Pl) (hC : kPl.C w A n xs) :
    Calls Try.prog 15 #[.slice A n c] w fun e w' => e = .returned (.bool (fits3 xs)) ∧ Hold w w.heap.size w' [] := by
  obtain rfl := hC.1
  have hx : xs.length ≤ 9223372036854775807 := hC.2.1
  have hu := Try.underlying24
  by_cases hl : 2147483647 < xs.length
  · have HF : Aside0 (fits3 xs = false) := ⟨by unfold fits3; rw [decide_eq_false (by omega)]; rfl⟩
    clear hC
    go_enter Try.func15, Try.ntmps15
    go_wp2
    go_ret
    exact ⟨by rw [HF.out]; rfl, Hold.start w⟩
  · have hl' : xs.length ≤ 2147483647 := by omega
    have HC0 := Aside0.mk hC
    clear hC
    go_enter Try.func15, Try.ntmps15
    go_wp2
    go_loopw [10] (fun i wr => ∃ k : Nat, k ≤ xs.length ∧ i = .int .i64 k ∧ AllTo fits1 xs k ∧ Hold w w.heap.size wr []) (fun i _ => xs.length - (intOf i).toNat)
    case atStart => exact ⟨0, Nat.zero_le _, rfl, .zero _ _, Hold.start w⟩
    case round =>
      obtain ⟨k, hk, rfl, hT, hR⟩ := hrel
      have HR := Aside0.mk hR
      have HT := Aside0.mk hT
      clear hR hT
      by_cases hlt : k < xs.length
      · obtain ⟨ad, v, rfl, hL, e0, e1, e2, e3, e4⟩ := CP_get (HR.out.C HC0.out) k hlt
        have hlt2 : k + 1 ≤ xs.length := hlt
        have HS := Aside0.mk (fun h => HT.out.step hlt h)
        have HN := Aside0.mk (fun h => all_not (p := fits1) hlt h)
        clear HT
        obtain ⟨x, hx⟩ : ∃ x, x = xs[k] := ⟨_, rfl⟩
        rw [← hx] at hL e0 e1 e2 e3 HS HN
        clear hx
        have HPA := Aside0.mk (HR.out.alloc_ (.cells #[.int .i64 x.1, .string x.2.1, .bool x.2.2.1, .int .i32 x.2.2.2.1, v] 24))
        have HLA := Aside0.mk (hL.below ((Hold.start _).alloc_ (.cells #[.int .i64 x.1, .string x.2.1, .bool x.2.2.1, .int .i32 x.2.2.2.1, v] 24)).below)
        obtain ⟨Av, cv, rfl, _⟩ := hL.out
        clear hL
        go_wp2_with fail
        refine (fits1_any _ x _ HLA.out).mono ?_
        rintro e w1 ⟨rfl, hM⟩
        have H1 := Aside0.mk (HPA.out.of_below hM.below)
        clear hM
        cases hb : fits1 x with
        | false =>
          have HF : Aside0 (fits3 xs = false) := ⟨by unfold fits3; rw [HN.out hb, Bool.and_false]⟩
          clear hb HN HS
          go_wp2
          go_ret
          exact ⟨by rw [HF.out]; rfl, H1.out⟩
        | true =>
          have HT := Aside0.mk (HS.out hb)
          clear hb HN HS
          go_wp2
          go_roundw
          case rel => exact ⟨k + 1, hlt2, by go_num, HT.out, H1.out⟩
          case measure => simp [intOf]; omega
      · have HF : Aside0 (fits3 xs = true) := ⟨by unfold fits3; rw [HT.out.all (by omega), decide_eq_true hl']; rfl⟩
        clear HT
        go_wp2
        go_ret
        exact ⟨by rw [HF.out]; rfl, HR.out⟩
def notShort (x : Pl) : Bool := !claimShortB x
set_option maxRecDepth 100000 in
set_option maxHeartbeats 1000000 in
theorem many1_any (w : World) (x : Pl) (v : Value) (hL : LstIs w v x.2.2.2.2) :
    Calls Try.prog 17 #[plV x v] w fun e w' => e = .returned (.bool (notShort x)) ∧ Hold w w.heap.size w' [] := by
  have hu := Try.underlying24
  have HPA := Aside0.mk ((Hold.start w).alloc_ (.cells #[.int .i64 x.1, .string x.2.1, .bool x.2.2.1, .int .i32 x.2.2.2.1, v] 24))
  have HLA := Aside0.mk (hL.below HPA.out.below)
  obtain ⟨Av, cv, rfl, _⟩ := hL.out
  have HN : Aside0 (notShort x = !claimShortB x) := ⟨rfl⟩
  clear hL
  unfold plV
  go_enter Try.func17, Try.ntmps17
  go_wp2_with fail
  refine (claimShort_any _ x _ HLA.out).mono ?_
  rintro e w1 ⟨rfl, hM⟩
  have H1 := Aside0.mk (HPA.out.of_below hM.below)
  clear hM
  go_wp2
  go_ret
  exact ⟨by rw [HN.out]; rfl, H1.out⟩
def nsIdx (xs : List Pl) : Int := match xs.findIdx? notShort with | some k => (k : Int) | none => -1
theorem nsIdx_none {xs : List Pl} (h : AllTo claimShortB xs xs.length) : nsIdx xs = -1 := by
  unfold nsIdx
  rw [List.findIdx?_eq_none_iff.2 (fun x hx => by
    obtain ⟨j, hj, rfl⟩ := List.getElem_of_mem hx
    unfold notShort
    rw [h.out j hj hj]; rfl)]
theorem nsIdx_some {xs : List Pl} {k : Nat} (hk : k < xs.length) (h : AllTo claimShortB xs k) (h2 : claimShortB xs[k] = false) : nsIdx xs = k := by
  unfold nsIdx
  rw [(List.findIdx?_eq_some_iff_getElem (xs := xs) (p := notShort) (i := k)).2 ⟨hk, by unfold notShort; rw [h2]; rfl, fun j hj => by unfold notShort; rw [h.out j (by omega) hj]; decide⟩]
theorem nsIdx_all (xs : List Pl) : decide (0 ≤ nsIdx xs) = !xs.all claimShortB := by
  unfold nsIdx
  cases hf : xs.findIdx? notShort with
  | none =>
    rw [List.findIdx?_eq_none_iff] at hf
    have : xs.all claimShortB = true := by
      rw [List.all_eq_true]
      intro x hx
      have := hf x hx
      unfold notShort at this
      simpa using this
    rw [this]; rfl
  | some k =>
    obtain ⟨hk, h1, h2⟩ := List.findIdx?_eq_some_iff_getElem.1 hf
    rw [all_not hk (by unfold notShort at h1; simpa using h1)]
    simp
set_option maxRecDepth 100000 in
set_option maxHeartbeats 2000000 in
theorem indexFunc_any (w : World) (A : Option Addr) (n c : Nat) (xs : List Pl) (hC : kPl.C w A n xs) :
    Calls Try.prog 33 #[.slice A n c, .func (.func 17) #[] #[]] w fun e w' => e = .returned (.int .i64 (nsIdx xs)) ∧ Hold w w.heap.size w' [] := by
  obtain rfl := hC.1
  have hx : xs.length ≤ 9223372036854775807 := hC.2.1
  have hu := Try.underlying24
  have HC0 := Aside0.mk hC
  clear hC
  go_enter Try.func33, Try.ntmps33
  go_wp2
  go_loopw [8] (fun i wr => ∃ k : Nat, k ≤ xs.length ∧ i = .int .i64 k ∧ AllTo claimShortB xs k ∧ Hold w w.heap.size wr []) (fun i _ => xs.length - (intOf i).toNat)
  case atStart => exact ⟨0, Nat.zero_le _, rfl, .zero _ _, Hold.start w⟩
  case round =>
    obtain ⟨k, hk, rfl, hT, hR⟩ := hrel
    have HR := Aside0.mk hR
    have HT := Aside0.mk hT
    clear hR hT
    by_cases hlt : k < xs.length
    · obtain ⟨ad, v, rfl, hL, e0, e1, e2, e3, e4⟩ := CP_get (HR.out.C HC0.out) k hlt
      have hlt2 : k + 1 ≤ xs.length := hlt
      have HS := Aside0.mk (fun h => HT.out.step hlt h)
      have HN := Aside0.mk (fun h => nsIdx_some hlt HT.out h)
      clear HT
      obtain ⟨x, hx⟩ : ∃ x, x = xs[k] := ⟨_, rfl⟩
      rw [← hx] at hL e0 e1 e2 e3 HS HN
      clear hx
      have HL := Aside0.mk hL
      obtain ⟨Av, cv, rfl, _⟩ := hL.out
      clear hL
      go_wp2_with fail
      refine (many1_any _ x _ HL.out).mono ?_
      rintro e w1 ⟨rfl, hM⟩
      have H1 := Aside0.mk (HR.out.of_below hM.below)
      clear hM
      cases hb : claimShortB x with
      | false =>
        have HF := Aside0.mk (HN.out hb)
        have hns : notShort x = true := by unfold notShort; rw [hb]; rfl
        clear hb HN HS
        go_wp2
        go_ret
        exact ⟨by rw [HF.out]; rfl, H1.out⟩
      | true =>
        have HT := Aside0.mk (HS.out hb)
        have hns : notShort x = false := by unfold notShort; rw [hb]; rfl
        clear hb HN HS
        go_wp2
        go_roundw
        case rel => exact ⟨k + 1, hlt2, by go_num, HT.out, H1.out⟩
        case measure => simp [intOf]; omega
    · obtain rfl : k = xs.length := by omega
      have HF := Aside0.mk (nsIdx_none HT.out)
      clear HT
      go_wp2
      go_ret
      exact ⟨by rw [HF.out]; rfl, HR.out⟩
set_option maxHeartbeats 1000000 in
theorem containsFunc_any (w : World) (A : Option Addr) (n c : Nat) (xs : List Pl) (hC : kPl.C w A n xs) :
    Calls Try.prog 16 #[.slice A n c, .func (.func 17) #[] #[]] w fun e w' => e = .returned (.bool (!xs.all claimShortB)) ∧ Hold w w.heap.size w' [] := by
  have HM := Aside0.mk (nsIdx_all xs)
  go_enter Try.func16, Try.ntmps16
  go_wp2_with fail
  refine (indexFunc_any _ _ _ c xs hC).mono ?_
  rintro e w1 ⟨rfl, hH⟩
  have HH := Aside0.mk hH
  clear hH hC
  generalize nsIdx xs = q at HM ⊢
  go_wp2
  go_ret
  exact ⟨by rw [← HM.out]; rfl, HH.out⟩
set_option maxRecDepth 100000 in
set_option maxHeartbeats 1000000 in
theorem claimList_any (w : World) (x : Pl) (v : Value) (hL : LstIs w v x.2.2.2.2) :
    Calls Try.prog 18 #[plV x v] w fun e w' => ∃ v1, e = .returned (.tuple #[v1, .bool (claimOk x)]) ∧ Hold w w.heap.size w' [] ∧ (claimOk x = true → LstIs w' v1 (claimStep [] x)) := by
  have hu := Try.underlying24
  have HP := Aside0.mk ((Hold.start w).alloc_ (.cells #[.int .i64 x.1, .string x.2.1, .bool x.2.2.1, .int .i32 x.2.2.2.1, v] 24))
  have HL := Aside0.mk hL
  obtain ⟨Av, cv, rfl, _⟩ := hL.out
  clear hL
  unfold plV
  by_cases h0 : x.1 = 0
  · have HO : Aside0 (claimOk x = true) := ⟨by unfold claimOk; rw [decide_eq_true h0]; rfl⟩
    have HT : Aside0 (claimStep [] x = [x.2.1]) := ⟨by unfold claimStep; rw [if_pos h0]⟩
    have e0 : (x.1 == 0) = true := by simpa using h0
    have HQ := Aside0.mk (litS (w.alloc (.cells #[.int .i64 x.1, .string x.2.1, .bool x.2.2.1, .int .i32 x.2.2.2.1, .slice Av x.2.2.2.2.length cv] 24)) 9 (w.heap.size + 1) (by simp) [x.2.1] (show 1 ≤ maxLen by decide))
    clear h0
    go_enter Try.func18, Try.ntmps18
    go_wp2
    go_ret2
    rw [HO.out]
    refine ⟨_, rfl, HP.out.alloc_ _, fun _ => ?_⟩
    rw [HT.out]
    exact ⟨_, 1, rfl, Nat.le_refl _, HQ.out⟩
  · by_cases h3 : x.1 = 3
    · have HO : Aside0 (claimOk x = true) := ⟨by unfold claimOk; rw [decide_eq_true h3]; simp⟩
      have HT : Aside0 (claimStep [] x = x.2.2.2.2) := ⟨by unfold claimStep; rw [if_neg h0, if_pos h3]⟩
      have e0 : (x.1 == 0) = false := by simpa using h0
      have e3 : (x.1 == 3) = true := by simpa using h3
      clear h0 h3
      go_enter Try.func18, Try.ntmps18
      go_wp2
      go_ret2
      rw [HO.out]
      refine ⟨_, rfl, HP.out, fun _ => ?_⟩
      rw [HT.out]
      exact HL.out.below HP.out.below
    · have HO : Aside0 (claimOk x = false) := ⟨by unfold claimOk; rw [decide_eq_false h0, decide_eq_false h3]; rfl⟩
      have e0 : (x.1 == 0) = false := by simpa using h0
      have e3 : (x.1 == 3) = false := by simpa using h3
      clear h0 h3
      go_enter Try.func18, Try.ntmps18
      go_wp2
      go_ret2
      rw [HO.out]
      exact ⟨_, rfl, HP.out, fun h => by cases h⟩
theorem claimStep_ok {cur : List ByteArray} {x : Pl} (h : claimOk x = true) : claimStep cur x = claimStep [] x := by
  unfold claimOk at h
  unfold claimStep
  by_cases h0 : x.1 = 0
  · rw [if_pos h0, if_pos h0]
  · by_cases h3 : x.1 = 3
    · rw [if_neg h0, if_pos h3, if_neg h0, if_pos h3]
    · rw [decide_eq_false h0, decide_eq_false h3] at h; cases h
theorem claimStep_no {cur : List ByteArray} {x : Pl} (h : claimOk x = false) : claimStep cur x = cur := by
  unfold claimOk at h
  unfold claimStep
  rw [Bool.or_eq_false_iff, decide_eq_false_iff_not, decide_eq_false_iff_not] at h
  rw [if_neg h.1, if_neg h.2]
theorem claimShortB_len {x : Pl} (h : claimShortB x = true) : x.2.2.2.2.length ≤ 20 := by
  unfold claimShortB mapShortB fldShort at h
  simp only [Bool.and_eq_true, List.all_eq_true, List.mem_singleton, forall_eq, decide_eq_true_eq] at h
  omega
theorem Hold.rowC {w0 : World} {B : Nat} {w : World} {L : List Asrt} {α : Type} {d : Kd α} {e : Nat} {A : Option Addr} {n c : Nat} {xs : List α} (hS : Hold w0 B w L) (i : Nat) (hi : L[i]? = some (.row d e (.slice A n c) xs)) : d.C w A n xs := by
  obtain ⟨A', c', he, _, hC⟩ := hS.reads i hi
  injection he with h1 h2 h3
  subst h1
  subst h2
  exact hC
set_option maxRecDepth 100000 in
set_option maxHeartbeats 4000000 in
theorem many_any (w : World) (A : Option Addr) (n c : Nat) (xs : List Pl) (hC : kPl.C w A n xs) :
    Calls Try.prog 4 #[.slice A n c] w fun e w' => e = .returned (.bool true) ∧ Below w.heap.size w w' := by
  obtain rfl := hC.1
  have hx : xs.length ≤ 9223372036854775807 := hC.2.1
  have hu := Try.underlying24
  have HC0 := Aside0.mk hC
  clear hC
  go_enter Try.func4, Try.ntmps4
  go_wp2_with fail
  refine (fits3_any _ A _ c _ HC0.out).mono ?_
  rintro e w1 ⟨rfl, hM⟩
  have H1 := Aside0.mk hM
  clear hM
  cases hb1 : fits3 xs with
  | false =>
    clear hb1
    go_wp2
    go_ret
    exact ⟨rfl, H1.out.below⟩
  | true =>
  clear hb1
  by_cases hl : 50 < xs.length
  · go_wp2_with fail
    refine (claimAwake_any _).mono ?_
    rintro e wz ⟨rfl, hM⟩
    have HZ := Aside0.mk (H1.out.of_below hM.below)
    clear hM
    go_wp2
    go_ret
    exact ⟨rfl, HZ.out.below⟩
  · have hl' : xs.length ≤ 50 := by omega
    go_wp2_with fail
    refine (containsFunc_any _ A _ c xs (H1.out.C HC0.out)).mono ?_
    rintro e w2 ⟨rfl, hM⟩
    have H2 := Aside0.mk (H1.out.of_below hM.below)
    clear hM H1
    cases hb2 : xs.all claimShortB with
    | false =>
      clear hb2
      go_wp2_with fail
      refine (claimAwake_any _).mono ?_
      rintro e wz ⟨rfl, hM⟩
      have HZ := Aside0.mk (H2.out.of_below hM.below)
      clear hM
      go_wp2
      go_ret
      exact ⟨rfl, HZ.out.below⟩
    | true =>
    have HLs : Aside0 (Lists xs) := ⟨⟨fun x hx => by
      have := claimShortB_len (List.all_eq_true.1 hb2 x hx)
      omega⟩⟩
    clear hb2
    go_wp2_with fail
    refine (acceptedMany_any _ A _ c xs (by omega) HLs.out (H2.out.C HC0.out)).mono ?_
    rintro e w3 ⟨v1, v2, rfl, hM⟩
    have H3 := Aside0.mk (H2.out.app hM)
    clear hM H2
    obtain ⟨A1, c1, rfl, _, hC1⟩ := H3.out.reads 0 rfl
    obtain ⟨A2, c2, rfl, _, hC2⟩ := H3.out.reads 1 rfl
    have HC1 := Aside0.mk hC1
    have HC2 := Aside0.mk hC2
    have hlo : (claimOks xs).length = xs.length := by unfold claimOks; simp
    have hne : (((claimOks xs).length : Int) != (xs.length : Int)) = false := by rw [hlo]; simp
    have HLO := Aside0.mk hlo
    rw [hlo] at HC2 H3 hne ⊢
    clear hC1 hC2 hlo
    go_wp2
    go_loopw [5, 33] (fun v5 i wr => ∃ k : Nat, k ≤ xs.length ∧ i = .int .i64 k ∧ LstIs wr v5 (claimFold (xs.take k)) ∧ Hold w w.heap.size wr [.row Kd.string 9 (.slice A1 (claimFold xs).length c1) (claimFold xs), .row Kd.bool 4 (.slice A2 xs.length c2) (claimOks xs)]) (fun _ i _ => xs.length - (intOf i).toNat)
    case atStart => exact ⟨0, Nat.zero_le _, rfl, ⟨none, 0, rfl, Nat.le_refl _, rfl, Nat.zero_le _, fun h => absurd h (Nat.lt_irrefl _)⟩, H3.out⟩
    case round =>
      obtain ⟨k, hk, rfl, hQ, hR⟩ := hrel
      have HR := Aside0.mk hR
      have HQ := Aside0.mk hQ
      clear hR hQ
      by_cases hlt : k < xs.length
      · obtain ⟨ad, v, rfl, hL, e0, e1, e2, e3, e4⟩ := CP_get (HR.out.C HC0.out) k hlt
        have hlt2 : k + 1 ≤ xs.length := hlt
        have HFo := Aside0.mk (claimFold_snoc xs k hlt)
        have hoke : (claimOks xs)[k]'(by rw [HLO.out]; exact hlt) = claimOk xs[k] := by unfold claimOks; rw [List.getElem_map]
        have HOE := Aside0.mk hoke
        obtain ⟨x, hx⟩ : ∃ x, x = xs[k] := ⟨_, rfl⟩
        rw [← hx] at hL e0 e1 e2 e3 HFo HOE
        clear hx hoke
        have HPA := Aside0.mk (HR.out.alloc_ (.cells #[.int .i64 x.1, .string x.2.1, .bool x.2.2.1, .int .i32 x.2.2.2.1, v] 24))
        have hbA := ((Hold.start wr).alloc_ (.cells #[.int .i64 x.1, .string x.2.1, .bool x.2.2.1, .int .i32 x.2.2.2.1, v] 24)).below
        have HLA := Aside0.mk (hL.below hbA)
        obtain ⟨Av, cv, rfl, _⟩ := hL.out
        clear hL
        clear hbA
        go_wp2_with fail
        refine (claimList_any _ x _ HLA.out).mono ?_
        rintro e w4 ⟨v4, rfl, hM, hT⟩
        have H4 := Aside0.mk (HPA.out.of_below hM.below)
        have HQ4 := Aside0.mk ((HQ.out.below ((Hold.start wr).alloc_ (.cells #[.int .i64 x.1, .string x.2.1, .bool x.2.2.1, .int .i32 x.2.2.2.1, .slice Av x.2.2.2.2.length cv] 24)).below).below hM.below)
        have HT := Aside0.mk hT
        obtain ⟨a2, rfl, ek⟩ := C1_get (H4.out.rowC 1 rfl) k (by rw [HLO.out]; exact hlt)
        rw [HOE.out] at ek
        clear hM hT e0 e1 e2 e3 e4
        cases hb : claimOk x with
        | false =>
          have HS := Aside0.mk (claimStep_no (cur := claimFold (xs.take k)) hb)
          rw [hb] at ek
          clear hb HT
          go_wp2
          go_roundw
          case rel =>
            refine ⟨k + 1, hlt2, by go_num, ?_, H4.out⟩
            rw [HFo.out, HS.out]
            exact HQ4.out
          case measure => simp [intOf]; omega
        | true =>
          have HS := Aside0.mk (claimStep_ok (cur := claimFold (xs.take k)) hb)
          have HT2 := Aside0.mk (HT.out hb)
          rw [hb] at ek
          clear hb HT
          go_wp2
          go_roundw
          case rel =>
            refine ⟨k + 1, hlt2, by go_num, ?_, H4.out⟩
            rw [HFo.out, HS.out]
            exact HT2.out
          case measure => simp [intOf]; omega
      · obtain rfl : k = xs.length := by omega
        rw [List.take_length] at HQ
        obtain ⟨Aq, cq, rfl, _, hCq⟩ := HQ.out.out
        have HCq := Aside0.mk hCq
        clear hCq
        go_wp2_with fail
        refine (equal_str _ _ _ _ _ _ _ _ _ (HR.out.rowC 0 rfl) HCq.out).mono ?_
        rintro e w5 ⟨rfl, n5, rfl⟩
        have H5 := Aside0.mk (HR.out.drewN n5)
        go_wp2_with fail
        refine (claimAwake_any _).mono ?_
        rintro e wz ⟨rfl, hM⟩
        have HZ := Aside0.mk (H5.out.of_below hM.below)
        clear hM
        go_wp2
        go_ret
        exact ⟨rfl, HZ.out.below⟩
theorem many_row (A : Option Addr) (n c : Nat) (xs : List Pl) (w : World) (hC : kPl.C w A n xs) (ho : AllOk OkPl xs) (hn : xs.length * 56 ≤ 140737488351232 ∧ n ≤ c) :
    Calls Try.prog 4 #[.slice A n c] w fun e w' => e = .returned (.bool true) ∧ Below w.heap.size w w' :=
  many_any w A n c xs hC
end Go.Proofs.Ythmcelofclikbaa
