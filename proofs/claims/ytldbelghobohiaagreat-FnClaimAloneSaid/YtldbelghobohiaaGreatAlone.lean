/-
  FnClaimAlone: its walk.
-/
import Derived.Test.YtldbelghobohiaaGreatAlLaw
import Derived.Test.YtldbelghobohiaaGreatConc
import Derived.Test.YtldbelghobohiaaGreatTexts
import Derived.Test.YtldbelghobohiaaGreatFits
import Derived.Test.YtldbelghobohiaaGreatReg
import Derived.Test.YtldbelghobohiaaGreatClaim2F
import Derived.ChangeKeysEq
namespace Go.Proofs.YtldbelghobohiaaGreat
open Go.RowKit Go.Proofs.YtldbelghobohiaaGreatW.PrintWords Go.ChangeShapes Go.WideShapes
set_option linter.unusedVariables false
set_option linter.unusedSimpArgs false
set_option maxRecDepth 100000
theorem eq3S (a b c : ByteArray) (w : World) : (Op.equalIn 10000 35 (.agg #[.string a, .string b, .string c]) (.agg #[.string a, .string b, .string c])).run Tryz.prog w = .ok true w := by
  obtain ⟨i, hi⟩ := info_of_underlying (P := Tryz.prog) Tryz.underlying9
  have hp : Tryz.prog.plainKey 9 = true := by kernel_rfl
  have hc : Tryz.prog.cellsOf 9 = 1 := by kernel_rfl
  rw [run_equalIn_array w 9999 _ _ Tryz.underlying35 hi, hc]
  have h0 : (part 9 #[.string a, .string b, .string c] (0 * 1)).run Tryz.prog w = .ok (.string a) w := run_part_plain (P := Tryz.prog) w hp (xs := #[.string a, .string b, .string c]) (off := 0 * 1) rfl
  have h1 : (part 9 #[.string a, .string b, .string c] (1 * 1)).run Tryz.prog w = .ok (.string b) w := run_part_plain (P := Tryz.prog) w hp (xs := #[.string a, .string b, .string c]) (off := 1 * 1) rfl
  have h2 : (part 9 #[.string a, .string b, .string c] (2 * 1)).run Tryz.prog w = .ok (.string c) w := run_part_plain (P := Tryz.prog) w hp (xs := #[.string a, .string b, .string c]) (off := 2 * 1) rfl
  have he : ∀ s : ByteArray, (Op.equalIn 9999 9 (.string s) (.string s)).run Tryz.prog w = .ok true w := fun s => by
    obtain ⟨d, hd⟩ : ∃ d, 9999 = d + 1 := ⟨9998, rfl⟩
    rw [hd]
    simp only [Op.equalIn, Sem.run_bind, run_underlying Tryz.underlying9, Result.andThen_ok, Sem.run_pure]
    exact congrArg (Result.ok · w) (show (s.data == s.data) = true by simp)
  simp only [List.range_succ, List.range_zero, List.nil_append, List.cons_append, Op.eqItems, Sem.run_bind, h0, h1, h2, he, Result.andThen_ok, Bool.not_true, Bool.false_eq_true, if_false, Sem.run_pure]
theorem eq3B (x : Bool) (w : World) : (Op.equalIn 10000 36 (.agg #[.bool x, .bool x, .bool x]) (.agg #[.bool x, .bool x, .bool x])).run Tryz.prog w = .ok true w := by
  obtain ⟨i, hi⟩ := info_of_underlying (P := Tryz.prog) Tryz.underlying4
  have hp : Tryz.prog.plainKey 4 = true := by kernel_rfl
  have hc : Tryz.prog.cellsOf 4 = 1 := by kernel_rfl
  rw [run_equalIn_array w 9999 _ _ Tryz.underlying36 hi, hc]
  have h0 : (part 4 #[.bool x, .bool x, .bool x] (0 * 1)).run Tryz.prog w = .ok (.bool x) w := run_part_plain (P := Tryz.prog) w hp (xs := #[.bool x, .bool x, .bool x]) (off := 0 * 1) rfl
  have h1 : (part 4 #[.bool x, .bool x, .bool x] (1 * 1)).run Tryz.prog w = .ok (.bool x) w := run_part_plain (P := Tryz.prog) w hp (xs := #[.bool x, .bool x, .bool x]) (off := 1 * 1) rfl
  have h2 : (part 4 #[.bool x, .bool x, .bool x] (2 * 1)).run Tryz.prog w = .ok (.bool x) w := run_part_plain (P := Tryz.prog) w hp (xs := #[.bool x, .bool x, .bool x]) (off := 2 * 1) rfl
  have he : (Op.equalIn 9999 4 (.bool x) (.bool x)).run Tryz.prog w = .ok true w := by
    obtain ⟨d, hd⟩ : ∃ d, 9999 = d + 1 := ⟨9998, rfl⟩
    rw [hd]
    simp only [Op.equalIn, Sem.run_bind, run_underlying Tryz.underlying4, Result.andThen_ok, Sem.run_pure, beq_self_eq_true]
  simp only [List.range_succ, List.range_zero, List.nil_append, List.cons_append, Op.eqItems, Sem.run_bind, h0, h1, h2, he, Result.andThen_ok, Bool.not_true, Bool.false_eq_true, if_false, Sem.run_pure]
def mkV (s t : ByteArray) : Value := .agg #[.string s, .int .i64 0, .string t, .bool false, .int .i32 0, .slice none 0 0]
def Pc.sl (gs : List Fg) : Pc where
  p := fun v w => ∃ A c, v = .slice A gs.length c ∧ kFg.C w A gs.length gs
  mono := fun h hb => by
    obtain ⟨A, c, h1, h2⟩ := h
    exact ⟨A, c, h1, Kd.C_below h2 hb⟩
def Pc.four (a b p q : List Fg) : Pc where
  p := fun v w => ∃ g A0 A1 A2 A3 c0 c1 c2 c3, v = .slice (some ⟨g, 0, none⟩) 4 4 ∧ w.heap[g]? = some (.cells #[.slice A0 a.length c0, .slice A1 b.length c1, .slice A2 p.length c2, .slice A3 q.length c3] 22) ∧ kFg.C w A0 a.length a ∧ kFg.C w A1 b.length b ∧ kFg.C w A2 p.length p ∧ kFg.C w A3 q.length q
  mono := fun h hb => by
    obtain ⟨g, A0, A1, A2, A3, c0, c1, c2, c3, h1, h2, h3, h4, h5, h6⟩ := h
    exact ⟨g, A0, A1, A2, A3, c0, c1, c2, c3, h1, (hb.block g (Array.getElem?_eq_some_iff.1 h2).1).trans h2, Kd.C_below h3 hb, Kd.C_below h4 hb, Kd.C_below h5 hb, Kd.C_below h6 hb⟩
def tupV (iss sub jti : ByteArray) : Value := .tuple #[.agg #[.string iss, .string sub, .string jti], .agg #[.bool true, .bool true, .bool true]]
def alonePc (A : Option Addr) (c : Nat) (o : List Fg) (k : Nat) (iss sub jti : ByteArray) (z : Nat) : List (Nat × Pc) :=
  [(51, .is (.slice A o.length c)), (52, .is (.int .i64 k)), (53, .sl (o.take k)), (54, .is (.string jti)), (55, .is (mkV lJ jti)), (56, .is (.string iss)), (57, .is (mkV lI iss)), (58, .sl [mk lJ jti, mk lI iss]),
   (59, .is (.slice A o.length c)), (60, .is (.int .i64 k)), (61, .sl (o.drop k)), (62, .is (.string sub)), (63, .is (mkV lS sub)), (64, .sl [mk lS sub]), (65, .four (o.take k) [mk lJ jti, mk lI iss] (o.drop k) [mk lS sub]),
   (66, .sl (o.take k ++ [mk lJ jti, mk lI iss] ++ o.drop k ++ [mk lS sub])), (67, .is (tupV iss sub jti)), (50, .is (tupV iss sub jti)), (68, .is (.agg #[.string iss, .string sub, .string jti])), (69, .is (.agg #[.bool true, .bool true, .bool true])),
   (11, .box z #[.string ByteArray.empty, .string ByteArray.empty, .string ByteArray.empty] 35), (12, .box z #[.bool false, .bool false, .bool false] 36)]
def aloneDp : Nat → List (Nat × Nat) := fun i => match i with | 2 => [(0, 51), (1, 52)] | 4 => [(3, 54)] | 6 => [(5, 56)] | 7 => [(4, 55), (6, 57)] | 10 => [(8, 59), (9, 60)] | 12 => [(11, 62)] | 13 => [(12, 63)] | 14 => [(2, 53), (7, 58), (10, 61), (13, 64)] | 15 => [(14, 65)] | 16 => [(15, 66)] | 17 => [(16, 67)] | 18 => [(17, 50)] | 19 => [(17, 50)] | _ => []
def AfterA (w : World) (A : Option Addr) (c : Nat) (o : List Fg) (iss sub jti : ByteArray) (x11 x12 : Value) (wx : World) : Prop :=
  ∃ g1 g2, x11 = .pointer (some ⟨g1, 0, none⟩) ∧ x12 = .pointer (some ⟨g2, 0, none⟩) ∧ Hold w w.heap.size wx [.blk g1 (.cells #[.string iss, .string sub, .string jti] 35), .blk g2 (.cells #[.bool true, .bool true, .bool true] 36), .row kFg 30 (.slice A o.length c) o]
set_option maxHeartbeats 8000000 in
theorem aloneMain (w : World) (iss sub jti : ByteArray) (A : Option Addr) (n c : Nat) (gs : List Fg) (hi : ¬ 2147483647 < iss.size) (hs : ¬ 2147483647 < sub.size) (hj : ¬ 2147483647 < jti.size) (hC : kFg.C w A n gs) (hL : AllLst w gs) :
    Calls Tryz.prog 3 #[.string iss, .string sub, .string jti, .slice A n c] w fun e w' => e = .returned (.bool true) ∧ Below w.heap.size w w' := by
  obtain rfl := hC.1
  have hx : gs.length ≤ 9223372036854775807 := hC.2.1
  have H0 := Aside0.mk (Hold.start w)
  have HC := Aside0.mk hC
  have HL := Aside0.mk hL
  have di : decide ((2147483647 : Int) < (iss.size : Int)) = false := by rw [decide_eq_false_iff_not]; omega
  have ds : decide ((2147483647 : Int) < (sub.size : Int)) = false := by rw [decide_eq_false_iff_not]; omega
  have dj : decide ((2147483647 : Int) < (jti.size : Int)) = false := by rw [decide_eq_false_iff_not]; omega
  clear hC hL hi hs hj
  go_enter Tryz.func3, Tryz.ntmps3
  go_wp2_with fail
  refine (fits4_any _ A _ c gs HC.out HL.out).mono ?_
  rintro e w1 ⟨b, rfl, hb, hH⟩
  have H1 := Aside0.mk (H0.out.of_below hH.below)
  clear hH H0
  cases b with
  | false =>
    go_wp2
    go_ret
    exact ⟨rfl, H1.out.below⟩
  | true =>
    have hn : gs.length ≤ 2147483647 := hb rfl
    clear hb
    go_wp2_with fail
    refine (fclone_any _ A _ c gs hn (H1.out.C HC.out)).mono ?_
    rintro e w2 ⟨v1, rfl, hH⟩
    have H2 := Aside0.mk (H1.out.app hH)
    clear hH H1
    go_wp2_with fail
    refine (mapText_any _ _ _).mono ?_
    rintro e w3 ⟨rfl, hH⟩
    have H3 := Aside0.mk (H2.out.app hH)
    clear hH H2
    go_wp2_with fail
    refine (mapText_any _ _ _).mono ?_
    rintro e w4 ⟨rfl, hH⟩
    have H4 := Aside0.mk (H3.out.app hH)
    clear hH H3
    go_wp2_with fail
    refine (mapText_any _ _ _).mono ?_
    rintro e w5 ⟨rfl, hH⟩
    have H5 := Aside0.mk (H4.out.app hH)
    clear hH H4
    have HLit := Aside0.mk (litF w5 _ rfl [mk lX iss, mk lX sub, mk lX jti] (by simp))
    have HA := Aside0.mk (H5.out.alloc_ (.cells ([mk lX iss, mk lX sub, mk lX jti].flatMap fgV).toArray 30))
    have Hl : Aside0 ((gs.length + 3) * 72 ≤ 140737488355328) := ⟨by omega⟩
    go_wp2_with ((with_reducible refine at_bi (b := .append) (xs := #[.tmp 32, .tmp 39]) rfl ?_); at_builtin; refine Hold.appendRowG kFg 0 HA.out rfl rfl (.tmp 32) (.tmp 39) 22 fz 72 rfl Tryz.underlying22 infoF rfl (by decide) (by omega) (some ⟨w5.heap.size, 0, none⟩) 3 3 rfl rfl HLit.out (fun x cs h => h) Hl.out ?_; intro v6 w6 h6; have H6 := Aside0.mk h6; clear h6 HA HLit H5)
    obtain ⟨A6, c6, rfl, _, hC6⟩ := H6.out.reads 0 rfl
    have HF6 := Aside0.mk (fg_fd hC6 ((HL.out.below H6.out.below).app ⟨fun x hx => by
      simp only [List.mem_cons, List.not_mem_nil, or_false] at hx
      rcases hx with rfl | rfl | rfl <;> exact mk_ok _ _ _⟩))
    clear hC6
    refine (mapShort_any _ 2 A6 _ c6 _ HF6.out).mono ?_
    rintro e w7 ⟨rfl, hH⟩
    have H7 := Aside0.mk ((H6.out.of_below hH.below).pick [] (by decide) (L' := []) rfl)
    clear hH H6 HF6
    cases hb : mapShortB 2 ((gs ++ [mk lX iss, mk lX sub, mk lX jti]).map (·.1)) with
    | false =>
      clear hb
      go_wp2_with fail
      refine (claimAwake_any _).mono ?_
      rintro e w8 ⟨rfl, hH⟩
      have H8 := Aside0.mk (H7.out.of_below hH.below)
      clear hH
      go_wp2
      go_ret
      exact ⟨rfl, H8.out.below⟩
    | true =>
      have hS3 := short3_of gs iss sub jti hb
      have hlen := hS3.len
      have HM := Aside0.mk hS3.mild
      clear hb hS3
      go_wp2_with fail
      refine (fclone_any _ A _ c gs hn (H7.out.C HC.out)).mono ?_
      rintro e w8 ⟨v8, rfl, hH⟩
      have H8 := Aside0.mk ((H7.out.app hH).pick [0] (by decide) (L' := [.row kFg 30 v8 gs]) rfl)
      clear hH H7
      go_wp2_with fail
      refine (deleteOwn_any _ v8 gs H8.out).mono ?_
      rintro e w9 ⟨v9, rfl, hH⟩
      have H9 := Aside0.mk hH
      clear hH H8
      have hol : (gs.filter notOwn).length ≤ 97 := Nat.le_trans (List.length_filter_le _ _) hlen
      obtain ⟨o, ho⟩ : ∃ o, o = gs.filter notOwn := ⟨_, rfl⟩
      have HO := Aside0.mk ho
      rw [← ho] at H9 hol
      clear ho
      obtain ⟨A9, c9, rfl, hc9, hC9⟩ := H9.out.reads 0 rfl
      have hcm := hC9.2.1
      clear hC9
      go_upto_region 7 with (fail)
      have hk2 : o.length / 2 ≤ o.length := Nat.div_le_self _ _
      rw [show ((o.length : Int) / 2) = ((o.length / 2 : Nat) : Int) by omega]
      generalize o.length / 2 = k at hk2 ⊢
      go_cut [11, 12] from 50 to 69 (fun x11 x12 wx => AfterA w A9 c9 o iss sub jti x11 x12 wx)
      case first =>
        have HD := Aside0.mk H9.out.drew
        clear H9
        refine wp_region_any (by kernel_rfl) ?_
        change wpAny _ _ _ _ _ _ _ (World.drew _)
        refine region_bar _ _ [50, 51, 52, 53, 54, 55, 56, 57, 58, 59, 60, 61, 62, 63, 64, 65, 66, 67, 68, 69, 11, 12] (pcOf (alonePc A9 c9 o k iss sub jti w9.drew.heap.size)) 22 aloneDp [23] 19 69 [(17, 50), (18, 68), (20, 11), (21, 12)] (by kernel_rfl) (by kernel_rfl) (by kernel_rfl) (by kernel_rfl) (.inr rfl) (pcOf_mono _) ?_ ?_
        refine StepAll.some (fun a wc hbel hc hp K hK => ?_) ?_
        · -- 0
          have e9 : a.tmps[9]?.getD undef = .slice A9 o.length c9 := ev_get (hc 9 (by decide))
          clear hp hc hbel HD
          go_simp
          exact hK _ _ (Below.refl _ _) (pcOf_mk _ rfl rfl)
        refine StepAll.some (fun a wc hbel hc hp K hK => ?_) ?_
        · -- 1
          have e10 : a.tmps[10]?.getD undef = .int .i64 k := ev_get (hc 10 (by decide))
          clear hp hc hbel HD
          go_simp
          exact hK _ _ (Below.refl _ _) (pcOf_mk _ rfl rfl)
        refine StepAll.some (fun a wc hbel hc hp K hK => ?_) ?_
        · -- 2
          have HW := Aside0.mk (HD.out.of_below hbel)
          have p51 := hp (0, 51) (by simp [aloneDp]) _ rfl
          have p52 := hp (1, 52) (by simp [aloneDp]) _ rfl
          clear hp hc hbel HD
          have q51 : a.tmps[51]?.getD undef = .slice A9 o.length c9 := ev_get p51
          have q52 : a.tmps[52]?.getD undef = .int .i64 k := ev_get p52
          clear p51 p52
          have hkc : k ≤ c9 := by omega
          go_simp
          obtain ⟨A', c', hv, _, hC'⟩ := HW.out.reads 0 rfl
          injection hv with h1 h2 h3
          subst h1
          exact hK _ _ (Below.refl _ _) (pcOf_mk _ rfl ⟨A9, c9, by rw [List.length_take, Nat.min_eq_left hk2], by rw [List.length_take, Nat.min_eq_left hk2]; exact CG_take hC' k hk2⟩)
        refine StepAll.some (fun a wc hbel hc hp K hK => ?_) ?_
        · -- 3
          have e2 : a.tmps[2]?.getD undef = .string jti := ev_get (hc 2 (by decide))
          clear hp hc hbel HD
          go_simp
          exact hK _ _ (Below.refl _ _) (pcOf_mk _ rfl rfl)
        refine StepAll.some (fun a wc hbel hc hp K hK => ?_) ?_
        · -- 4
          have p54 := hp (3, 54) (by simp [aloneDp]) _ rfl
          clear hp hc hbel HD
          have q54 : a.tmps[54]?.getD undef = _ := ev_get p54
          clear p54
          go_simp
          refine (mapText_any _ _ _).mono ?_
          rintro e w2 ⟨rfl, hH⟩
          exact hK _ _ hH.below (pcOf_mk _ rfl rfl)
        refine StepAll.some (fun a wc hbel hc hp K hK => ?_) ?_
        · -- 5
          have e0 : a.tmps[0]?.getD undef = .string iss := ev_get (hc 0 (by decide))
          clear hp hc hbel HD
          go_simp
          exact hK _ _ (Below.refl _ _) (pcOf_mk _ rfl rfl)
        refine StepAll.some (fun a wc hbel hc hp K hK => ?_) ?_
        · -- 6
          have p56 := hp (5, 56) (by simp [aloneDp]) _ rfl
          clear hp hc hbel HD
          have q56 : a.tmps[56]?.getD undef = _ := ev_get p56
          clear p56
          go_simp
          refine (mapText_any _ _ _).mono ?_
          rintro e w2 ⟨rfl, hH⟩
          exact hK _ _ hH.below (pcOf_mk _ rfl rfl)
        refine StepAll.some (fun a wc hbel hc hp K hK => ?_) ?_
        · -- 7
          have HW := Aside0.mk (HD.out.of_below hbel)
          have p55 := hp (4, 55) (by simp [aloneDp]) _ rfl
          have p57 := hp (6, 57) (by simp [aloneDp]) _ rfl
          clear hp hc hbel HD
          have q55 : a.tmps[55]?.getD undef = mkV lJ jti := ev_get p55
          have q57 : a.tmps[57]?.getD undef = mkV lI iss := ev_get p57
          clear p55 p57
          unfold mkV at q55 q57
          go_simp
          exact hK _ _ ((Below.refl _ _).alloc (Nat.le_refl _) _) (pcOf_mk _ rfl ⟨_, _, rfl, litF wc _ rfl [mk lJ jti, mk lI iss] (by simp)⟩)
        refine StepAll.some (fun a wc hbel hc hp K hK => ?_) ?_
        · -- 8
          have e9 : a.tmps[9]?.getD undef = .slice A9 o.length c9 := ev_get (hc 9 (by decide))
          clear hp hc hbel HD
          go_simp
          exact hK _ _ (Below.refl _ _) (pcOf_mk _ rfl rfl)
        refine StepAll.some (fun a wc hbel hc hp K hK => ?_) ?_
        · -- 9
          have e10 : a.tmps[10]?.getD undef = .int .i64 k := ev_get (hc 10 (by decide))
          clear hp hc hbel HD
          go_simp
          exact hK _ _ (Below.refl _ _) (pcOf_mk _ rfl rfl)
        refine StepAll.some (fun a wc hbel hc hp K hK => ?_) ?_
        · -- 10
          have HW := Aside0.mk (HD.out.of_below hbel)
          have p59 := hp (8, 59) (by simp [aloneDp]) _ rfl
          have p60 := hp (9, 60) (by simp [aloneDp]) _ rfl
          clear hp hc hbel HD
          have q59 : a.tmps[59]?.getD undef = .slice A9 o.length c9 := ev_get p59
          have q60 : a.tmps[60]?.getD undef = .int .i64 k := ev_get p60
          clear p59 p60
          have hkc : k ≤ c9 := by omega
          go_simp
          refine hK _ _ (Below.refl _ _) (pcOf_mk _ rfl ⟨_, c9 - k, by rw [List.length_drop], ?_⟩)
          by_cases hz : o.length = k
          · rw [List.drop_eq_nil_of_le (by omega)]
            exact ⟨rfl, Nat.zero_le _, fun h => absurd h (Nat.lt_irrefl _)⟩
          · obtain ⟨A', c', hv, _, hC'⟩ := HW.out.reads 0 rfl
            injection hv with h1 h2 h3
            subst h1
            obtain ⟨g, cc, hf⟩ := HW.out.form 0 rfl (by omega)
            have hf := hf.1
            injection hf with hf
            subst hf
            rw [if_neg (by omega)]
            have := CG_drop hC' k hk2
            rw [List.length_drop]
            show kFg.C wc (some ((⟨g, 0, none⟩ : Addr).add (k * 6))) _ _
            rw [WideShapes.add_plain, Nat.zero_add]
            exact this
        refine StepAll.some (fun a wc hbel hc hp K hK => ?_) ?_
        · -- 11
          have e1 : a.tmps[1]?.getD undef = .string sub := ev_get (hc 1 (by decide))
          clear hp hc hbel HD
          go_simp
          exact hK _ _ (Below.refl _ _) (pcOf_mk _ rfl rfl)
        refine StepAll.some (fun a wc hbel hc hp K hK => ?_) ?_
        · -- 12
          have p62 := hp (11, 62) (by simp [aloneDp]) _ rfl
          clear hp hc hbel HD
          have q62 : a.tmps[62]?.getD undef = _ := ev_get p62
          clear p62
          go_simp
          refine (mapText_any _ _ _).mono ?_
          rintro e w2 ⟨rfl, hH⟩
          exact hK _ _ hH.below (pcOf_mk _ rfl rfl)
        refine StepAll.some (fun a wc hbel hc hp K hK => ?_) ?_
        · -- 13
          have HW := Aside0.mk (HD.out.of_below hbel)
          have p63 := hp (12, 63) (by simp [aloneDp]) _ rfl
          clear hp hc hbel HD
          have q63 : a.tmps[63]?.getD undef = mkV lS sub := ev_get p63
          clear p63
          unfold mkV at q63
          go_simp
          exact hK _ _ ((Below.refl _ _).alloc (Nat.le_refl _) _) (pcOf_mk _ rfl ⟨_, _, rfl, litF wc _ rfl [mk lS sub] (by simp)⟩)
        refine StepAll.some (fun a wc hbel hc hp K hK => ?_) ?_
        · -- 14
          have HW := Aside0.mk (HD.out.of_below hbel)
          have p53 := hp (2, 53) (by simp [aloneDp]) _ rfl
          have p58 := hp (7, 58) (by simp [aloneDp]) _ rfl
          have p61 := hp (10, 61) (by simp [aloneDp]) _ rfl
          have p64 := hp (13, 64) (by simp [aloneDp]) _ rfl
          clear hp hc hbel HD
          obtain ⟨A53, c53, v53, C53⟩ := p53
          obtain ⟨A58, c58, v58, C58⟩ := p58
          obtain ⟨A61, c61, v61, C61⟩ := p61
          obtain ⟨A64, c64, v64, C64⟩ := p64
          have q53 := ev_get v53
          have q58 := ev_get v58
          have q61 := ev_get v61
          have q64 := ev_get v64
          clear v53 v58 v61 v64
          have D53 := Aside0.mk C53
          have D58 := Aside0.mk C58
          have D61 := Aside0.mk C61
          have D64 := Aside0.mk C64
          clear C53 C58 C61 C64
          go_simp
          have hbw := (Below.refl wc.heap.size wc).alloc (Nat.le_refl _) (.cells #[.slice A53 (o.take k).length c53, .slice A58 [mk lJ jti, mk lI iss].length c58, .slice A61 (o.drop k).length c61, .slice A64 [mk lS sub].length c64] 22)
          refine cast (congrArg (K _) ?_) (hK _ _ hbw (pcOf_mk _ rfl ⟨wc.heap.size, A53, A58, A61, A64, c53, c58, c61, c64, rfl, blk_new wc _, Kd.C_below D53.out hbw, Kd.C_below D58.out hbw, Kd.C_below D61.out hbw, Kd.C_below D64.out hbw⟩))
          rw [List.length_take, List.length_drop, Nat.min_eq_left hk2]
          rfl
        refine StepAll.some (fun a wc hbel hc hp K hK => ?_) ?_
        · -- 15
          have HW := Aside0.mk (HD.out.of_below hbel)
          have p65 := hp (14, 65) (by simp [aloneDp]) _ rfl
          clear hp hc hbel HD
          obtain ⟨g, A0, A1, A2, A3, c0, c1, c2, c3, v65, hb, C0, C1, C2, C3⟩ := p65
          have q65 : a.tmps[65]?.getD undef = _ := ev_get v65
          clear v65
          have D0 := Aside0.mk C0
          have D1 := Aside0.mk C1
          have D2 := Aside0.mk C2
          have D3 := Aside0.mk C3
          have DB := Aside0.mk hb
          clear C0 C1 C2 C3 hb
          go_simp
          refine (concat4_any (w0 := wc) (B := 0) wc g A0 A1 A2 A3 _ _ _ _ c0 c1 c2 c3 _ _ _ _ (by rw [List.length_take, List.length_drop]; simp; omega) (by simp) ?_ ?_ ?_ ?_ D0.out D1.out D2.out D3.out).mono ?_
          rotate_left 4
          · rintro e w2 ⟨v, rfl, hH⟩
            obtain ⟨A', c', rfl, _, hC'⟩ := hH.reads 0 rfl
            exact hK _ _ hH.below (pcOf_mk _ rfl ⟨A', c', rfl, hC'⟩)
          all_goals
            have := DB.out
            simp [World.cell?, this]
        refine StepAll.some (fun a wc hbel hc hp K hK => ?_) ?_
        · -- 16
          have HW := Aside0.mk (HD.out.of_below hbel)
          have p66 := hp (15, 66) (by simp [aloneDp]) _ rfl
          clear hp hc hbel HD
          obtain ⟨A66, c66, v66, C66⟩ := p66
          have q66 : a.tmps[66]?.getD undef = _ := ev_get v66
          clear v66
          have he : o.take k ++ [mk lJ jti, mk lI iss] ++ o.drop k ++ [mk lS sub] = threeIn (gs.filter notOwn) k iss sub jti := by rw [← HO.out]; rfl
          have hlen3 := len_three gs k iss sub jti
          rw [he] at C66 q66
          have D66 := Aside0.mk C66
          clear C66 he
          obtain ⟨th, hth⟩ : ∃ th, th = threeIn (gs.filter notOwn) k iss sub jti := ⟨_, rfl⟩
          have M3 := Aside0.mk (mild_three HM.out k iss sub jti)
          have L3 := Aside0.mk (lst_three (HL.out.below (HW.out.below)) k iss sub jti)
          have T3 := Aside0.mk (last_three gs k iss sub jti)
          rw [← hth] at q66 D66 M3 L3 T3 hlen3
          clear hth
          go_simp
          refine (texts_any wc A66 _ c66 _ (by omega) M3.out D66.out L3.out).mono ?_
          obtain ⟨h1, h2, h3⟩ := T3.out
          rw [h1, h2, h3]
          rintro e w2 ⟨rfl, hH⟩
          exact hK _ _ hH.below (pcOf_mk _ rfl rfl)
        refine StepAll.some (fun a wc hbel hc hp K hK => ?_) ?_
        · -- 17
          have p67 := hp (16, 67) (by simp [aloneDp]) _ rfl
          clear hp hc hbel HD
          have q67 : a.tmps[67]?.getD undef = _ := ev_get p67
          clear p67
          go_simp
          exact hK _ _ (Below.refl _ _) (pcOf_mk _ rfl rfl)
        refine StepAll.some (fun a wc hbel hc hp K hK => ?_) ?_
        · -- 18
          have p50 := hp (17, 50) (by simp [aloneDp]) _ rfl
          clear hp hc hbel HD
          have q50 : a.tmps[50]?.getD undef = _ := ev_get p50
          clear p50
          go_simp
          exact hK _ _ (Below.refl _ _) (pcOf_mk _ rfl rfl)
        refine StepAll.some (fun a wc hbel hc hp K hK => ?_) ?_
        · -- 19
          have p50 := hp (17, 50) (by simp [aloneDp]) _ rfl
          clear hp hc hbel HD
          have q50 : a.tmps[50]?.getD undef = _ := ev_get p50
          clear p50
          go_simp
          exact hK _ _ (Below.refl _ _) (pcOf_mk _ rfl rfl)
        refine StepAll.some (fun a wc hbel hc hp K hK => ?_) ?_
        · -- 20
          have HW := Aside0.mk (HD.out.of_below hbel)
          have hz := hbel.size
          clear hp hc hbel HD
          go_simp
          exact hK _ _ ((Below.refl _ _).alloc (Nat.le_refl _) _) (pcOf_mk _ rfl ⟨wc.heap.size, rfl, hz, blk_new wc _⟩)
        refine StepAll.some (fun a wc hbel hc hp K hK => ?_) ?_
        · -- 21
          have HW := Aside0.mk (HD.out.of_below hbel)
          have hz := hbel.size
          clear hp hc hbel HD
          go_simp
          exact hK _ _ ((Below.refl _ _).alloc (Nat.le_refl _) _) (pcOf_mk _ rfl ⟨wc.heap.size, rfl, hz, blk_new wc _⟩)
        refine StepAll.skip rfl ?_
        refine StepAll.none ?_
        exact StepAll.nil _
        · intro t fuel u wc hfu hbel hp h69
          have v50 : u 50 = tupV iss sub jti := hp (17, 50) (by simp) _ rfl
          have v68 : u 68 = .agg #[.string iss, .string sub, .string jti] := hp (18, 68) (by simp) _ rfl
          obtain ⟨g1, v11, z1, b1⟩ := hp (20, 11) (by simp) _ rfl
          obtain ⟨g2, v12, z2, b2⟩ := hp (21, 12) (by simp) _ rfl
          have hne : g1 ≠ g2 := by
            rintro rfl
            rw [b1] at b2
            injection b2 with b2
            injection b2 with _ hT
            cases hT
          have H2 := Aside0.mk (HD.out.app (Hold.two ((Hold.start w9.drew).of_below hbel) z1 z2 b1 b2 hne))
          clear hp b1 b2 z1 z2 hbel HD
          obtain ⟨k0, f0⟩ := H2.out.cellAt 0 rfl 0 (.string ByteArray.empty) rfl
          obtain ⟨k1, f1⟩ := H2.out.cellAt 0 rfl 1 (.string ByteArray.empty) rfl
          obtain ⟨k2, f2⟩ := H2.out.cellAt 0 rfl 2 (.string ByteArray.empty) rfl
          obtain ⟨k3, f3⟩ := H2.out.cellAt 1 rfl 0 (.bool false) rfl
          obtain ⟨k4, f4⟩ := H2.out.cellAt 1 rfl 1 (.bool false) rfl
          obtain ⟨k5, f5⟩ := H2.out.cellAt 1 rfl 2 (.bool false) rfl
          have H3 := Aside0.mk ((((((H2.out.store 0 rfl 0 (.string iss)).store 0 rfl 1 (.string sub)).store 0 rfl 2 (.string jti)).store 1 rfl 0 (.bool true)).store 1 rfl 1 (.bool true)).store 1 rfl 2 (.bool true))
          clear H2
          cases t with
          | true =>
            have v69 : u 69 = .agg #[.bool true, .bool true, .bool true] := h69 (by decide) rfl _ rfl
            clear h69
            obtain ⟨f, rfl⟩ : ∃ f, fuel = f + 2 := ⟨fuel - 2, by have : (arrB 24 22 [23] 19 true).count false = 2 := by kernel_rfl
                                                                 have : 2 ≤ fuel := by rw [← this]; exact hfu
                                                                 omega⟩
            clear hfu
            simp only [ov, List.foldl_cons, List.foldl_nil, Act.put, List.setIfInBounds_toArray, List.set_cons_succ, List.set_cons_zero, v50, v68, v69, v11, v12]
            clear v50 v68 v69 v11 v12
            refine wpAny_ready (rs := [22]) (by kernel_rfl) (by simp) (AllReady.cons rfl (fun K hK => ?_) AllReady.nil)
            go_simp
            refine hK _ _ ?_
            clear hK K
            refine wpAny_ready (rs := [23]) (by kernel_rfl) (by simp) (AllReady.cons rfl (fun K hK => ?_) AllReady.nil)
            go_simp
            refine hK _ _ ?_
            clear hK K
            refine wpAny_done (by kernel_rfl) ?_ _
            go_wp2_with fail
            go_meet
            exact ⟨g1, g2, rfl, rfl, H3.out⟩
          | false =>
            clear h69
            obtain ⟨f, rfl⟩ : ∃ f, fuel = f + 3 := ⟨fuel - 3, by have : (arrB 24 22 [23] 19 false).count false = 3 := by kernel_rfl
                                                                 have : 3 ≤ fuel := by rw [← this]; exact hfu
                                                                 omega⟩
            clear hfu
            simp only [ov, List.foldl_cons, List.foldl_nil, Act.put, List.setIfInBounds_toArray, List.set_cons_succ, List.set_cons_zero, v50, v68, v11, v12]
            clear v50 v68 v11 v12
            unfold tupV
            refine wpAny_ready (rs := [19, 22]) (by kernel_rfl) (by simp) (AllReady.cons rfl (fun K hK => ?_) (AllReady.cons rfl (fun K hK => ?_) AllReady.nil))
            · go_simp
              refine hK _ _ ?_
              clear hK K
              refine wpAny_ready (rs := [22]) (by kernel_rfl) (by simp) (AllReady.cons rfl (fun K hK => ?_) AllReady.nil)
              go_simp
              refine hK _ _ ?_
              clear hK K
              refine wpAny_ready (rs := [23]) (by kernel_rfl) (by simp) (AllReady.cons rfl (fun K hK => ?_) AllReady.nil)
              go_simp
              refine hK _ _ ?_
              clear hK K
              refine wpAny_done (by kernel_rfl) ?_ _
              go_wp2_with fail
              go_meet
              exact ⟨g1, g2, rfl, rfl, H3.out⟩
            · go_simp
              refine hK _ _ ?_
              clear hK K
              refine wpAny_ready (rs := [19]) (by kernel_rfl) (by simp) (AllReady.cons rfl (fun K hK => ?_) AllReady.nil)
              go_simp
              refine hK _ _ ?_
              clear hK K
              refine wpAny_ready (rs := [23]) (by kernel_rfl) (by simp) (AllReady.cons rfl (fun K hK => ?_) AllReady.nil)
              go_simp
              refine hK _ _ ?_
              clear hK K
              refine wpAny_done (by kernel_rfl) ?_ _
              go_wp2_with fail
              go_meet
              exact ⟨g1, g2, rfl, rfl, H3.out⟩
      case rest =>
        obtain ⟨g1, g2, rfl, rfl, hH⟩ := hcut
        have H10 := Aside0.mk hH
        clear hH
        obtain ⟨k0, f0⟩ := H10.out.cellAt 0 rfl 0 (.string iss) rfl
        obtain ⟨k1, f1⟩ := H10.out.cellAt 0 rfl 1 (.string sub) rfl
        obtain ⟨k2, f2⟩ := H10.out.cellAt 0 rfl 2 (.string jti) rfl
        obtain ⟨k3, f3⟩ := H10.out.cellAt 1 rfl 0 (.bool true) rfl
        obtain ⟨k4, f4⟩ := H10.out.cellAt 1 rfl 1 (.bool true) rfl
        obtain ⟨k5, f5⟩ := H10.out.cellAt 1 rfl 2 (.bool true) rfl
        have e1 := eq3S iss sub jti
        have e2 := eq3B true
        have e3 := eq3B false
        go_wp2_with fail
        have HF := Aside0.mk (show Mild o from HO.out ▸ HM.out.sub (fun x hx => (List.mem_filter.1 hx).1))
        have HX := Aside0.mk (show AllLst w o from HO.out ▸ HL.out.sub (fun x hx => (List.mem_filter.1 hx).1))
        have HN := Aside0.mk (show lastT lI (o.map (·.1)) = none ∧ lastT lS (o.map (·.1)) = none ∧ lastT lJ (o.map (·.1)) = none from HO.out ▸ last_none gs)
        obtain ⟨A', c', hv, _, hC'⟩ := H10.out.reads 2 rfl
        injection hv with q1 q2 q3
        subst q1
        refine (texts_any wc A9 _ c9 o (by omega) HF.out hC' (HX.out.below H10.out.below)).mono ?_
        obtain ⟨n1, n2, n3⟩ := HN.out
        rw [n1, n2, n3]
        rintro e w11 ⟨rfl, hH⟩
        have H11 := Aside0.mk (H10.out.app hH)
        clear hH H10 hC' k0 f0 k1 f1 k2 f2 k3 f3 k4 f4 k5 f5 q2 q3 n1 n2 n3 HN HX HF e1 e2
        obtain ⟨k3, f3⟩ := H11.out.cellAt 1 rfl 0 (.bool true) rfl
        obtain ⟨k4, f4⟩ := H11.out.cellAt 1 rfl 1 (.bool true) rfl
        obtain ⟨k5, f5⟩ := H11.out.cellAt 1 rfl 2 (.bool true) rfl
        have H12 := Aside0.mk (((H11.out.store 1 rfl 0 (.bool false)).store 1 rfl 1 (.bool false)).store 1 rfl 2 (.bool false))
        clear H11
        unfold txV hsV
        go_wp2_with fail
        refine (claimAwake_any _).mono ?_
        rintro e w13 ⟨rfl, hH⟩
        have H13 := Aside0.mk (H12.out.of_below hH.below)
        clear hH
        go_wp2
        go_ret
        exact ⟨rfl, H13.out.below⟩
end Go.Proofs.YtldbelghobohiaaGreat
