/-
  FnClaimKept: its walk.
-/
import Derived.Test.YthmcelofclikbaaClaim2
import Derived.Test.YthmcelofclikbaaEqB
import Derived.Test.YthmcelofclikbaaPlainArg
namespace Go.Proofs.Ythmcelofclikbaa
open Go.RowKit Go.Proofs.YthmcelofclikbaaW.PrintWords Go.ChangeShapes Go.WideShapes
set_option linter.unusedVariables false
set_option linter.unusedSimpArgs false
theorem litB (w : World) (e g : Nat) (hg : w.heap.size = g) (xs : List Bool) (hm : xs.length ≤ maxLen) : Kd.bool.C (w.alloc (.cells (xs.map fun s => Value.bool s).toArray e)) (some ⟨g, 0, none⟩) xs.length xs :=
  C1_lit (enc := fun s => Value.bool s) (h1 := fun _ => rfl) w e g hg xs hm
theorem claimShortB_len {x : Pl} (h : claimShortB x = true) : x.2.2.2.2.length ≤ 20 := by
  unfold claimShortB mapShortB fldShort at h
  simp only [Bool.and_eq_true, List.all_eq_true, List.mem_singleton, forall_eq, decide_eq_true_eq] at h
  omega
def plCells (x : Pl) (v : Value) : List Value := [.int .i64 x.1, .string x.2.1, .bool x.2.2.1, .int .i32 x.2.2.2.1, v]
theorem plain1 (w : World) (g : Nat) (hg : w.heap.size = g) (x : Pl) (v : Value) (h : LstIs w v x.2.2.2.2) :
    kPl.C (w.alloc (.cells (plCells x v).toArray 24)) (some ⟨g, 0, none⟩) 1 [x] :=
  CK_lit (d := kPl) w _ g hg [x] (plCells x v) (reps1 (kPl_mk (h.below ((Hold.start w).alloc_ _).below)) rfl) (by simp)
theorem plain2 (w : World) (g : Nat) (hg : w.heap.size = g) (x y : Pl) (v u : Value) (h : LstIs w v x.2.2.2.2) (k : LstIs w u y.2.2.2.2) :
    kPl.C (w.alloc (.cells (plCells x v ++ plCells y u).toArray 24)) (some ⟨g, 0, none⟩) 2 [x, y] :=
  CK_lit (d := kPl) w _ g hg [x, y] (plCells x v ++ plCells y u) ((reps1 (kPl_mk (h.below ((Hold.start w).alloc_ _).below)) rfl).snoc (kPl_mk (k.below ((Hold.start w).alloc_ _).below)) rfl) (by simp)
theorem plain3 (w : World) (g : Nat) (hg : w.heap.size = g) (x y z : Pl) (v u t : Value) (h : LstIs w v x.2.2.2.2) (k : LstIs w u y.2.2.2.2) (l : LstIs w t z.2.2.2.2) :
    kPl.C (w.alloc (.cells (plCells x v ++ plCells y u ++ plCells z t).toArray 24)) (some ⟨g, 0, none⟩) 3 [x, y, z] :=
  CK_lit (d := kPl) w _ g hg [x, y, z] (plCells x v ++ plCells y u ++ plCells z t) (((reps1 (kPl_mk (h.below ((Hold.start w).alloc_ _).below)) rfl).snoc (kPl_mk (k.below ((Hold.start w).alloc_ _).below)) rfl).snoc (kPl_mk (l.below ((Hold.start w).alloc_ _).below)) rfl) (by simp)
set_option maxRecDepth 100000 in
set_option maxHeartbeats 4000000 in
theorem kept_any (w : World) (A : Option Addr) (n c : Nat) (xs : List ByteArray) (x : Pl) (v : Value) (hle : n ≤ c) (hC : Kd.string.C w A n xs) (hL : LstIs w v x.2.2.2.2) :
    Calls Try.prog 3 #[.slice A n c, plV x v] w fun e w' => e = .returned (.bool true) ∧ Below w.heap.size w w' := by
  obtain rfl := hC.1
  obtain ⟨Av, cv, rfl, hlv, hCv⟩ := hL.out
  have hu := Try.underlying24
  have hx : xs.length ≤ 9223372036854775807 := hC.2.1
  have HPA := Aside0.mk ((Hold.start w).alloc (.cells #[.int .i64 x.1, .string x.2.1, .bool x.2.2.1, .int .i32 x.2.2.2.1, .slice Av x.2.2.2.2.length cv] 24))
  have HC := Aside0.mk (Kd.C_below hC HPA.out.below)
  have HL := Aside0.mk (hL.below HPA.out.below)
  have Hle := Aside0.mk hle
  have HC0 := Aside0.mk hC
  have HL0 := Aside0.mk hL
  clear hC hL hCv hlv hle
  unfold plV
  go_enter Try.func3, Try.ntmps3
  go_wp2_with fail
  refine (fits2_any _ A _ c _ HC.out).mono ?_
  rintro e w1 ⟨rfl, rfl⟩
  cases hb1 : fits2 xs with
  | false =>
    have HB := Aside0.mk hb1
    clear hb1
    go_wp2
    go_ret
    exact ⟨rfl, HPA.out.below⟩
  | true =>
  clear hb1
  go_wp2_with fail
  refine (fits1_any _ x _ HL.out).mono ?_
  rintro e w1 ⟨rfl, hM⟩
  have H1 := Aside0.mk (HPA.out.of_below hM.below)
  have HC1 := Aside0.mk (Kd.C_below HC.out hM.below)
  have HL1 := Aside0.mk (HL.out.below hM.below)
  clear hM
  cases hb2 : fits1 x with
  | false =>
    clear hb2
    go_wp2
    go_ret
    exact ⟨rfl, H1.out.below⟩
  | true =>
  clear hb2 HPA HC HL
  obtain ⟨kc0, _⟩ := H1.out.cell 0 rfl 0 (by simp)
  obtain ⟨kc1, _⟩ := H1.out.cell 0 rfl 1 (by simp)
  obtain ⟨kc2, _⟩ := H1.out.cell 0 rfl 2 (by simp)
  obtain ⟨kc3, _⟩ := H1.out.cell 0 rfl 3 (by simp)
  obtain ⟨kc4, _⟩ := H1.out.cell 0 rfl 4 (by simp)
  go_wp2_with fail
  refine (claimShort_any _ x _ HL1.out).mono ?_
  rintro e w2 ⟨rfl, hM⟩
  have H2 := Aside0.mk (H1.out.of_below hM.below)
  have HC2 := Aside0.mk (Kd.C_below HC1.out hM.below)
  have HL2 := Aside0.mk (HL1.out.below hM.below)
  clear hM kc0 kc1 kc2 kc3 kc4 H1 HC1 HL1
  cases hb3 : claimShortB x with
  | false =>
    clear hb3
    go_wp2_with fail
    refine (claimAwake_any _).mono ?_
    rintro e wz ⟨rfl, hM⟩
    have HZ := Aside0.mk (H2.out.of_below hM.below)
    clear hM
    go_wp2
    go_ret
    exact ⟨rfl, HZ.out.below⟩
  | true =>
  have HB3 := Aside0.mk hb3
  clear hb3
  go_wp2_with fail
  refine (claimShort_any _ (3, ByteArray.empty, false, 0, xs) _ ⟨A, c, rfl, Hle.out, HC2.out⟩).mono ?_
  rintro e w3 ⟨rfl, hM⟩
  have H3 := Aside0.mk (H2.out.of_below hM.below)
  have HC3 := Aside0.mk (Kd.C_below HC2.out hM.below)
  have HL3 := Aside0.mk (HL2.out.below hM.below)
  clear hM H2 HC2 HL2
  obtain ⟨kc0, _⟩ := H3.out.cell 0 rfl 0 (by simp)
  obtain ⟨kc1, _⟩ := H3.out.cell 0 rfl 1 (by simp)
  obtain ⟨kc2, _⟩ := H3.out.cell 0 rfl 2 (by simp)
  obtain ⟨kc3, _⟩ := H3.out.cell 0 rfl 3 (by simp)
  obtain ⟨kc4, _⟩ := H3.out.cell 0 rfl 4 (by simp)
  cases hb4 : claimShortB (3, ByteArray.empty, false, 0, xs) with
  | false =>
    clear hb4
    go_wp2_with fail
    refine (claimAwake_any _).mono ?_
    rintro e wz ⟨rfl, hM⟩
    have HZ := Aside0.mk (H3.out.of_below hM.below)
    clear hM
    go_wp2
    go_ret
    exact ⟨rfl, HZ.out.below⟩
  | true =>
  have HB4 := Aside0.mk hb4
  clear hb4
  by_cases h0 : x.1 = 0
  · have e0 : (x.1 == 0) = true := by simpa using h0
    clear h0
    go_wp2_with fail
    refine (claimAwake_any _).mono ?_
    rintro e wz ⟨rfl, hM⟩
    have HZ := Aside0.mk (H3.out.of_below hM.below)
    clear hM
    go_wp2
    go_ret
    exact ⟨rfl, HZ.out.below⟩
  · have e0 : (x.1 == 0) = false := by simpa using h0
    by_cases h3 : x.1 = 3
    · have e3 : (x.1 == 3) = true := by simpa using h3
      clear h0 h3
      go_wp2_with fail
      refine (claimAwake_any _).mono ?_
      rintro e wz ⟨rfl, hM⟩
      have HZ := Aside0.mk (H3.out.of_below hM.below)
      clear hM
      go_wp2
      go_ret
      exact ⟨rfl, HZ.out.below⟩
    · have e3 : (x.1 == 3) = false := by simpa using h3
      have hlx := claimShortB_len HB3.out
      have hll : xs.length ≤ 20 := claimShortB_len HB4.out
      have HO1 : Aside0 (claimOks [(3, ByteArray.empty, false, 0, xs), x] = [true, false]) := ⟨by simp [claimOks, claimOk, h0, h3]⟩
      have HF1 : Aside0 (claimFold [(3, ByteArray.empty, false, 0, xs), x] = xs) := ⟨by simp [claimFold, claimStep, h0, h3]⟩
      have HLs1 : Aside0 (Lists [(3, ByteArray.empty, false, 0, xs), x]) := ⟨⟨fun y hy => by
        simp only [List.mem_cons, List.not_mem_nil, or_false] at hy
        rcases hy with rfl | rfl
        · show xs.length ≤ 100000; omega
        · omega⟩⟩
      have HO2 : Aside0 (∀ s : ByteArray, claimOks [(0, s, false, 0, []), x, x] = [true, false, false]) := ⟨fun s => by simp [claimOks, claimOk, h0, h3]⟩
      have HF2 : Aside0 (∀ s : ByteArray, claimFold [(0, s, false, 0, []), x, x] = [s]) := ⟨fun s => by simp [claimFold, claimStep, h0, h3]⟩
      have HLs2 : Aside0 (∀ s : ByteArray, Lists [(0, s, false, 0, []), x, x]) := ⟨fun s => ⟨fun y hy => by
        simp only [List.mem_cons, List.not_mem_nil, or_false] at hy
        rcases hy with rfl | rfl | rfl
        · exact Nat.zero_le _
        · omega
        · omega⟩⟩
      clear h0 h3 hlx
      obtain ⟨v0, hv0⟩ : ∃ v0, v0 = (.slice Av x.2.2.2.2.length cv : Value) := ⟨_, rfl⟩
      go_wp2_with fail
      refine (acceptedMany_any _ _ _ _ _ (by decide) HLs1.out (plain2 _ _ rfl (3, ByteArray.empty, false, 0, xs) x _ _ ⟨A, c, rfl, Hle.out, HC3.out⟩ HL3.out)).mono ?_
      rintro e w4 ⟨v1, v2, rfl, hM⟩
      rw [HO1.out, HF1.out] at hM
      have H4 := Aside0.mk ((H3.out.alloc_ _).app hM)
      have HC4 := Aside0.mk (H4.out.C HC0.out)
      obtain ⟨A1, c1, rfl, _, hC1⟩ := H4.out.reads 0 rfl
      have HC1 := Aside0.mk hC1
      clear hM hC1 kc0 kc1 kc2 kc3 kc4 H3 HC3 HL3 hv0
      go_wp2_with fail
      refine (equal_str _ _ _ _ _ _ _ _ _ HC1.out HC4.out).mono ?_
      rintro e w5 ⟨rfl, n5, rfl⟩
      obtain ⟨A2, c2, rfl, _, hC2⟩ := H4.out.reads 1 rfl
      have HC2 := Aside0.mk (Kd.C_below hC2 (((Hold.start w4).drewN n5).alloc_ (.cells #[.bool true, .bool false] 4)).below)
      have H5 := Aside0.mk (((H4.out.drewN n5).alloc_ (.cells #[.bool true, .bool false] 4)).pick [2] (by decide) (L' := [.blk w.heap.size (.cells #[.int .i64 x.1, .string x.2.1, .bool x.2.2.1, .int .i32 x.2.2.2.1, .slice Av x.2.2.2.2.length cv] 24)]) rfl)
      clear hC2 HC1 HC4
      go_wp2_with fail
      refine (equal_bool _ _ _ _ _ _ _ _ _ HC2.out (litB (w4.drewN n5) 4 _ rfl [true, false] (by decide))).mono ?_
      rintro e w6 ⟨rfl, n6, rfl⟩
      have H6 := Aside0.mk (H5.out.drewN n6)
      generalize hw : World.drewN _ n6 = w7 at H6 ⊢
      clear hw H5 H4 HC2
      go_wp2
      go_loopw [57] (fun i wr => ∃ k : Nat, k ≤ xs.length ∧ i = .int .i64 k ∧
          Hold w w.heap.size wr [.blk w.heap.size (.cells #[.int .i64 x.1, .string x.2.1, .bool x.2.2.1, .int .i32 x.2.2.2.1, .slice Av x.2.2.2.2.length cv] 24)]) (fun i _ => xs.length - (intOf i).toNat)
      case atStart => exact ⟨0, Nat.zero_le _, rfl, H6.out⟩
      case round =>
        obtain ⟨k, hk, rfl, hR⟩ := hrel
        have HR := Aside0.mk hR
        clear hR H6
        by_cases hlt : k < xs.length
        · obtain ⟨a1, rfl, ek⟩ := C1_get (HR.out.C HC0.out) k hlt
          have hlt2 : k + 1 ≤ xs.length := hlt
          obtain ⟨s, hs⟩ : ∃ s, s = xs[k] := ⟨_, rfl⟩
          rw [← hs] at ek
          clear hs
          obtain ⟨kc0, _⟩ := HR.out.cell 0 rfl 0 (by simp)
          obtain ⟨kc1, _⟩ := HR.out.cell 0 rfl 1 (by simp)
          obtain ⟨kc2, _⟩ := HR.out.cell 0 rfl 2 (by simp)
          obtain ⟨kc3, _⟩ := HR.out.cell 0 rfl 3 (by simp)
          obtain ⟨kc4, _⟩ := HR.out.cell 0 rfl 4 (by simp)
          have HLR := Aside0.mk (HL0.out.below HR.out.below)
          go_wp2_with fail
          refine (acceptedMany_any _ _ _ _ _ (by decide) (HLs2.out s) (plain3 _ _ rfl (0, s, false, 0, []) x x (.slice none 0 0) _ _ ⟨none, 0, rfl, Nat.le_refl _, rfl, Nat.zero_le _, fun h => absurd h (Nat.lt_irrefl _)⟩ HLR.out HLR.out)).mono ?_
          rintro e w4 ⟨v1, v2, rfl, hM⟩
          rw [HO2.out, HF2.out] at hM
          have H4 := Aside0.mk ((HR.out.alloc_ _).app hM)
          obtain ⟨A1, c1, rfl, _, hC1⟩ := H4.out.reads 0 rfl
          have HC1 := Aside0.mk (Kd.C_below hC1 ((Hold.start w4).alloc_ (.cells #[.string s] 9)).below)
          clear hM hC1 kc0 kc1 kc2 kc3 kc4
          go_wp2_with fail
          refine (equal_str _ _ _ _ _ _ _ _ _ HC1.out (litS w4 9 _ rfl [s] (show 1 ≤ maxLen by decide))).mono ?_
          rintro e w5 ⟨rfl, n5, rfl⟩
          have H5 := Aside0.mk ((H4.out.alloc_ (.cells #[.string s] 9)).drewN n5)
          generalize hw5 : World.drewN _ n5 = w6 at H5 ⊢
          clear hw5 H4 HC1
          obtain ⟨A2, c2, rfl, _, hC2⟩ := H5.out.reads 1 rfl
          have HC2 := Aside0.mk (Kd.C_below hC2 ((Hold.start w6).alloc_ (.cells #[.bool true, .bool false, .bool false] 4)).below)
          have H6 := Aside0.mk ((H5.out.alloc_ (.cells #[.bool true, .bool false, .bool false] 4)).pick [2] (by decide) (L' := [.blk w.heap.size (.cells #[.int .i64 x.1, .string x.2.1, .bool x.2.2.1, .int .i32 x.2.2.2.1, .slice Av x.2.2.2.2.length cv] 24)]) rfl)
          clear hC2
          go_wp2_with fail
          refine (equal_bool _ _ _ _ _ _ _ _ _ HC2.out (litB w6 4 _ rfl [true, false, false] (by decide))).mono ?_
          rintro e w7 ⟨rfl, n6, rfl⟩
          have H7 := Aside0.mk (H6.out.drewN n6)
          generalize hw7 : World.drewN _ n6 = w8 at H7 ⊢
          clear hw7 H6 H5 HC2
          go_wp2
          go_roundw
          case rel => exact ⟨k + 1, hlt2, by go_num, H7.out⟩
          case measure => simp [intOf]; omega
        · go_wp2_with fail
          refine (claimAwake_any _).mono ?_
          rintro e wz ⟨rfl, hM⟩
          have HZ := Aside0.mk (HR.out.of_below hM.below)
          clear hM
          go_wp2
          go_ret
          exact ⟨rfl, HZ.out.below⟩
theorem kept_row (A : Option Addr) (n c : Nat) (xs : List ByteArray) (x : Pl) (v : Value) (w : World) (hC : Kd.string.C w A n xs) (ho : AllOk StrOk xs) (hn : xs.length * 16 ≤ 140737488351232 ∧ n ≤ c) (hL : LstIs w v x.2.2.2.2) :
    Calls Try.prog 3 #[.slice A n c, plV x v] w fun e w' => e = .returned (.bool true) ∧ Below w.heap.size w w' :=
  kept_any w A n c xs x v hn.2 hC hL
theorem opens_string : Opens Try.prog 9 Kd.string StrOk := Opens.string Try.underlying9
end Go.Proofs.Ythmcelofclikbaa
