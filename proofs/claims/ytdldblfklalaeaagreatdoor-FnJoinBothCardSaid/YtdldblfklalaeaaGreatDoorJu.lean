/-
  FnJoinBoth: its walk.
-/
import Derived.Test.YtdldblfklalaeaaGreatDoorJt
import Derived.Test.YtdldblfklalaeaaGreatDoorPartEnc
namespace Go.Proofs.YtdldblfklalaeaaGreatDoor
open Go.RowKit Go.Proofs.YtdldblfklalaeaaGreatDoorW.PrintWords Go.Lib Go.ChangeShapes Go.WideShapes
set_option linter.unusedVariables false
set_option linter.unusedSimpArgs false
set_option maxRecDepth 100000
set_option maxHeartbeats 2000000 in
theorem partSigning_any (w : World) (A D : Option Addr) (n c m d : Nat) (hT pl : Bs) (hn : n ≤ 100000) (hm : m ≤ 100000) (hnc : n ≤ c) (hmd : m ≤ d) (hC : kB.C w A n hT) (hD : kB.C w D m pl) :
    Calls Tryz.prog 36 #[.slice A n c, .slice D m d, .bool true] w fun e w' => ∃ v, e = .returned v ∧ Hold w w.heap.size w' [.row kB 5 v (sign hT pl true)] := by
  obtain rfl := hC.1
  obtain rfl := hD.1
  have HC := Aside0.mk (fun (wz : World) (hb : Below w.heap.size w wz) => Kd.C_below hC hb)
  have HD := Aside0.mk (fun (wz : World) (hb : Below w.heap.size w wz) => Kd.C_below hD hb)
  have hbx : (b64 true hT).length ≤ 1000000 := by rw [b64_len]; unfold encLen; omega
  have hby : (b64 true pl).length ≤ 1000000 := by rw [b64_len]; unfold encLen; omega
  have HL1 : Aside0 (((b64 true hT).length + 1) * 1 ≤ 140737488355328) := ⟨by omega⟩
  have HL2 : Aside0 (((b64 true hT ++ [46]).length + (b64 true pl).length) * 1 ≤ 140737488355328) := ⟨by simp; omega⟩
  have HS : Aside0 (b64 true hT ++ [46] ++ b64 true pl = sign hT pl true) := ⟨rfl⟩
  clear hC hD hbx hby
  go_enter Tryz.func36, Tryz.ntmps36
  go_wp2_with fail
  refine (partOf_any w A _ c hT (by omega) hnc (HC.out _ (Below.refl _ _))).mono ?_
  rintro e w1 ⟨v1, rfl, h1⟩
  have H1 := Aside0.mk h1
  clear h1
  go_wp2_with ((with_reducible refine at_bi (b := .append) (xs := #[.tmp 9, .tmp 10]) rfl ?_); at_builtin; refine Hold.append1 (kB) 0 H1.out rfl rfl (.tmp 9) (.tmp 10) 30 (.int .u8 0) 1 rfl Tryz.underlying30 info5 rfl (by decide) (by omega) ((46 : UInt8)) [.int .u8 46] rfl rfl rfl HL1.out ?_; intro _ _ H2'; have H2 := Aside0.mk H2'; clear H2' H1)
  refine (partOf_any _ D _ d pl (by omega) hmd (HD.out _ H2.out.below)).mono ?_
  rintro e w3 ⟨v3, rfl, h3⟩
  obtain ⟨A3, c3, rfl, hle3, _⟩ := h3.reads 0 rfl
  have H3 := Aside0.mk (H2.out.app h3)
  clear h3 hle3 H2
  obtain ⟨q, hq⟩ : ∃ q, q = b64 true pl := ⟨_, rfl⟩
  rw [← hq] at H3 HL2 HS ⊢
  clear hq
  go_wp2_with ((with_reducible refine at_bi (b := .append) (xs := #[.tmp 13, .tmp 15]) rfl ?_); at_builtin; refine Hold.appendRow 1 H3.out rfl rfl (.tmp 13) (.tmp 15) 30 (.int .u8 0) 1 rfl Tryz.underlying30 info5 rfl (by omega) (A3) (q.length) (c3) rfl rfl (H3.out.catF 0 rfl) HL2.out ?_; intro _ _ H4'; have H4 := Aside0.mk H4'; clear H4' H3)
  go_ret
  refine ⟨_, rfl, ?_⟩
  rw [← HS.out]
  exact H4.out.pick [1] (by decide) rfl
def toyB : ByteArray := ⟨#[116, 111, 121]⟩
theorem safeToy : Safe toyB.data.toList := ⟨by decide, by decide⟩
theorem tokF_eq (a b : Bs) (alg kid : ByteArray) (pl : Bs) (enc : Bool) : decide (tokF a alg kid pl enc = tokF b alg kid pl enc) = decide (markF a (sigF alg kid pl enc) = markF b (sigF alg kid pl enc)) := by
  by_cases h : markF a (sigF alg kid pl enc) = markF b (sigF alg kid pl enc)
  · rw [decide_eq_true h]
    unfold tokF
    rw [h]
    exact decide_eq_true rfl
  · rw [decide_eq_false h]
    refine decide_eq_false fun e => h ?_
    unfold tokF at e
    exact b64_inj (List.append_cancel_left e)
set_option maxHeartbeats 8000000 in
theorem joinBoth_law (w : World) (A : Option Addr) (n c : Nat) (a : Bs) (B : Option Addr) (k f : Nat) (b : Bs) (kid : ByteArray) (D : Option Addr) (m d : Nat) (pl : Bs) (hE : ErrS w) (hnc : n ≤ c) (hkf : k ≤ f) (hmd : m ≤ d) (hC : kB.C w A n a) (hB : kB.C w B k b) (hD : kB.C w D m pl) :
    Calls Tryz.prog 6 #[.slice A n c, .slice B k f, .string kid, .slice D m d] w fun e w' => e = .returned (.bool true) ∧ Below w.heap.size w w' := by
  obtain rfl := hC.1
  obtain rfl := hB.1
  obtain rfl := hD.1
  have hx : a.length ≤ 9223372036854775807 := hC.2.1
  have hz : b.length ≤ 9223372036854775807 := hB.2.1
  have hy : pl.length ≤ 9223372036854775807 := hD.2.1
  have HC := Aside0.mk (fun (wz : World) (hb : Below w.heap.size w wz) => Kd.C_below hC hb)
  have HB := Aside0.mk (fun (wz : World) (hb : Below w.heap.size w wz) => Kd.C_below hB hb)
  have HD := Aside0.mk (fun (wz : World) (hb : Below w.heap.size w wz) => Kd.C_below hD hb)
  have HE := Aside0.mk (fun (wz : World) (hb : Below w.heap.size w wz) => hE.on hb)
  have HAw := Aside0.mk (fun w => partAwake_any w)
  have hb0 := Aside0.mk (Below.refl w.heap.size w)
  have hCS := CS_lit w 30 _ rfl [.slice A a.length c, .slice B b.length f, .slice D pl.length d] [a, b, pl] rfl (by simp) (fun j hj => by
    match j, hj with
    | 0, _ => exact RdS.mk' hC hnc
    | 1, _ => exact RdS.mk' hB hkf
    | 2, _ => exact RdS.mk' hD hmd)
  have HCS := Aside0.mk hCS
  have hb1 := Aside0.mk ((Below.refl w.heap.size w).alloc (Nat.le_refl _) (.cells #[.slice A a.length c, .slice B b.length f, .slice D pl.length d] 30))
  clear hC hD hB hCS hE
  go_enter Tryz.func6, Tryz.ntmps6
  by_cases s1 : 2147483647 < a.length
  · go_wp2
    go_ret
    exact ⟨rfl, hb0.out⟩
  by_cases s2 : 2147483647 < b.length
  · go_wp2
    go_ret
    exact ⟨rfl, hb0.out⟩
  by_cases s3 : 2147483647 < kid.size
  · go_wp2
    go_ret
    exact ⟨rfl, hb0.out⟩
  by_cases s4 : 2147483647 < pl.length
  · go_wp2
    go_ret
    exact ⟨rfl, hb0.out⟩
  replace s1 : a.length ≤ 2147483647 := by omega
  replace s2 : b.length ≤ 2147483647 := by omega
  replace s3 : kid.size ≤ 2147483647 := by omega
  replace s4 : pl.length ≤ 2147483647 := by omega
  go_wp2_with fail
  refine (short_any _ _ _ _ [a, b, pl] HCS.out).mono ?_
  rintro e w1 ⟨rfl, rfl⟩
  cases hs : shortOk [a, b, pl] with
  | false =>
    clear hs
    go_wp2_with fail
    refine (HAw.out _).mono ?_
    rintro e w2 ⟨rfl, h2⟩
    have H2 := Aside0.mk (hb1.out.trans (h2.below.mono hb1.out.size))
    clear h2
    go_wp2
    go_ret
    exact ⟨rfl, H2.out⟩
  | true =>
  have hsl : a.length ≤ 2000 ∧ b.length ≤ 2000 ∧ pl.length ≤ 2000 := by unfold shortOk at hs; simpa using hs
  obtain ⟨hal, hbl, hpl⟩ := hsl
  clear hs HCS
  obtain ⟨W1, hW1⟩ : ∃ W, W = w.alloc (.cells #[.slice A a.length c, .slice B b.length f, .slice D pl.length d] 30) := ⟨_, rfl⟩
  rw [← hW1] at hb1 ⊢
  clear hW1
  have hb2 := Aside0.mk (hb1.out.alloc hb1.out.size (.cells #[.string kid] 9))
  go_wp2_with fail
  refine (joinSafe_any _ _ _ 1 [kid] (str_row1 _ kid)).mono ?_
  rintro e w1 ⟨⟨q, rfl, hsa⟩, rfl⟩
  have HSf := Aside0.mk hsa
  clear hsa
  obtain ⟨W2, hW2⟩ : ∃ W, W = W1.alloc (.cells #[.string kid] 9) := ⟨_, rfl⟩
  rw [← hW2] at hb2 ⊢
  clear hW2
  cases q with
  | false =>
    go_wp2_with fail
    refine (HAw.out _).mono ?_
    rintro e w2 ⟨rfl, h2⟩
    have H2 := Aside0.mk (hb2.out.trans (h2.below.mono hb2.out.size))
    clear h2
    go_wp2
    go_ret
    exact ⟨rfl, H2.out⟩
  | true =>
  have hsk : Safe kid.data.toList := HSf.out rfl kid (by simp)
  have Hsk := Aside0.mk hsk
  have hkd := safe_size hsk
  clear HSf hsk
  have hty : toyB.size ≤ 60 := by decide
  have h0 : Aside0 (Hold w w.heap.size W2 []) := ⟨(Hold.start w).of_below hb2.out⟩
  have HJS := Aside0.mk (fun (wz : World) (hb : Below w.heap.size w wz) => joinSigned_any wz A D _ c _ d a toyB kid pl true hty hkd hpl (by omega) (HC.out _ hb) (HD.out _ hb))
  have HJS2 := Aside0.mk (fun (wz : World) (hb : Below w.heap.size w wz) => joinSigned_any wz B D _ f _ d b toyB kid pl true hty hkd hpl (by omega) (HB.out _ hb) (HD.out _ hb))
  have HO1 := Aside0.mk (fun (wz : World) (hb : Below w.heap.size w wz) (X : Option Addr) (cx : Nat) (h : kB.C wz X (tokF a toyB kid pl true).length (tokF a toyB kid pl true)) => joinOpened_any wz A X _ c _ cx a a toyB kid pl true (HE.out _ hb) safeToy Hsk.out hpl (fun h => by cases h) (by omega) (HC.out _ hb) h)
  have HO2 := Aside0.mk (fun (wz : World) (hb : Below w.heap.size w wz) (X : Option Addr) (cx : Nat) (h : kB.C wz X (tokF b toyB kid pl true).length (tokF b toyB kid pl true)) => joinOpened_any wz B X _ f _ cx b b toyB kid pl true (HE.out _ hb) safeToy Hsk.out hpl (fun h => by cases h) (by omega) (HB.out _ hb) h)
  have HO3 := Aside0.mk (fun (wz : World) (hb : Below w.heap.size w wz) (X : Option Addr) (cx : Nat) (h : kB.C wz X (tokF a toyB kid pl true).length (tokF a toyB kid pl true)) => joinOpened_any wz B X _ f _ cx b a toyB kid pl true (HE.out _ hb) safeToy Hsk.out hpl (fun h => by cases h) (by omega) (HB.out _ hb) h)
  have HTq := Aside0.mk (tokF_eq a b toyB kid pl true)
  simp only [decide_true] at HO1 HO2
  have HHd := Aside0.mk (fun (wz : World) => joinHead_any wz toyB kid (by decide) (by omega))
  have hhl := headT_len (alg := toyB) hty hkd
  have hsl := sigF_len (alg := toyB) (enc := true) hty hkd hpl
  have HSg : Aside0 (sign (headT toyB kid) pl true = sigF toyB kid pl true) := ⟨rfl⟩
  generalize hx1 : tokF a toyB kid pl true = x at *
  generalize hx2 : tokF b toyB kid pl true = y at *
  generalize hx3 : sigF toyB kid pl true = S at *
  generalize hx4 : headT toyB kid = hT at *
  obtain ⟨q, hq⟩ : ∃ q, q = decide (markF a S = markF b S) := ⟨_, rfl⟩
  rw [← hq] at HO3 HTq
  have HQ := Aside0.mk hq
  unfold toyB at HJS HJS2 HHd
  clear hx1 hx2 hx3 hx4 hq
  go_wp2_with fail
  refine (HJS.out _ h0.out.below).mono ?_
  rintro e w3 ⟨v3, rfl, h3⟩
  obtain ⟨Ax, cx, rfl, hlx, _⟩ := h3.reads 0 rfl
  have H3 := Aside0.mk (h0.out.app h3)
  clear h3 hlx
  go_wp2_with fail
  refine (HJS2.out _ H3.out.below).mono ?_
  rintro e w4 ⟨v4, rfl, h4⟩
  obtain ⟨Ay, cy, rfl, hly, _⟩ := h4.reads 0 rfl
  have H4 := Aside0.mk (H3.out.app h4)
  clear h4 hly H3 HJS HJS2
  go_wp2_with fail
  refine (HO1.out _ H4.out.below Ax cx (H4.out.catF 1 rfl)).mono ?_
  rintro e w5 ⟨v5, rfl, h5⟩
  have H5 := Aside0.mk (H4.out.of_below h5.below)
  clear h5 H4 HO1
  go_wp2_with fail
  refine (HO2.out _ H5.out.below Ay cy (H5.out.catF 0 rfl)).mono ?_
  rintro e w6 ⟨v6, rfl, h6⟩
  have H6 := Aside0.mk (H5.out.of_below h6.below)
  clear h6 H5 HO2
  have H03 := Aside0.mk (HO3.out _ H6.out.below Ax cx (H6.out.catF 1 rfl))
  clear HO3
  cases q
  all_goals
    go_wp2_with fail
    refine H03.out.mono ?_
  · rintro e w7 ⟨rfl, hb7⟩
    have H7 := Aside0.mk (H6.out.of_below hb7)
    clear hb7 H6 H03
    go_wp2_with fail
    refine (HHd.out _).mono ?_
    rintro e w8 ⟨Ah, ch, rfl, hlh, hCh, hb8⟩
    have H8 := Aside0.mk (H7.out.of_below hb8)
    have HPS := Aside0.mk (partSigning_any w8 Ah D _ ch _ d hT pl (by omega) (by omega) hlh hmd hCh (HD.out _ H8.out.below))
    rw [HSg.out] at HPS
    clear hlh hCh hb8 H7
    go_wp2_with fail
    refine HPS.out.mono ?_
    rintro e w9 ⟨v9, rfl, h9⟩
    obtain ⟨As, cs, rfl, hls, _⟩ := h9.reads 0 rfl
    have H9 := Aside0.mk (H8.out.app h9)
    clear h9 hls H8 HPS
    go_wp2_with fail
    refine (joinMark_any _ A As _ c _ cs a S (by omega) (by omega) (HC.out _ H9.out.below) (H9.out.catF 0 rfl)).mono ?_
    rintro e w10 ⟨g10, rfl, h10⟩
    have H10 := Aside0.mk (H9.out.app h10)
    clear h10 H9
    go_wp2_with fail
    refine (joinMark_any _ B As _ f _ cs b S (by omega) (by omega) (HB.out _ H10.out.below) (H10.out.catF 1 rfl)).mono ?_
    rintro e w11 ⟨g11, rfl, h11⟩
    have H11 := Aside0.mk (H10.out.app h11)
    clear h11 H10
    go_wp2_with fail
    refine (same_any _ (some ⟨g10, 0, none⟩) (some ⟨g11, 0, none⟩) _ 32 _ 32 (markF a S) (markF b S) (H11.out.catF 1 rfl) (H11.out.catF 0 rfl)).mono ?_
    rw [← HQ.out]
    rintro e w12 ⟨rfl, nn, rfl⟩
    have H12 := Aside0.mk (H11.out.drewN nn)
    generalize w11.drewN nn = w12 at *
    clear H11
    go_wp2_with fail
    refine (same_any _ Ax Ay _ cx _ cy x y (H12.out.catF 4 rfl) (H12.out.catF 3 rfl)).mono ?_
    rw [HTq.out]
    rintro e w13 ⟨rfl, nn, rfl⟩
    have H13 := Aside0.mk (H12.out.drewN nn)
    generalize w12.drewN nn = w13 at *
    clear H12
    go_wp2_with fail
    refine (HAw.out _).mono ?_
    rintro e w14 ⟨rfl, h14⟩
    have H14 := Aside0.mk (H13.out.of_below h14.below)
    clear h14
    go_wp2
    go_ret
    exact ⟨rfl, H14.out.below⟩
  · rintro e w7 ⟨v7, rfl, h7⟩
    have H7 := Aside0.mk (H6.out.of_below h7.below)
    clear h7 H6 H03
    go_wp2_with fail
    refine (HHd.out _).mono ?_
    rintro e w8 ⟨Ah, ch, rfl, hlh, hCh, hb8⟩
    have H8 := Aside0.mk (H7.out.of_below hb8)
    have HPS := Aside0.mk (partSigning_any w8 Ah D _ ch _ d hT pl (by omega) (by omega) hlh hmd hCh (HD.out _ H8.out.below))
    rw [HSg.out] at HPS
    clear hlh hCh hb8 H7
    go_wp2_with fail
    refine HPS.out.mono ?_
    rintro e w9 ⟨v9, rfl, h9⟩
    obtain ⟨As, cs, rfl, hls, _⟩ := h9.reads 0 rfl
    have H9 := Aside0.mk (H8.out.app h9)
    clear h9 hls H8 HPS
    go_wp2_with fail
    refine (joinMark_any _ A As _ c _ cs a S (by omega) (by omega) (HC.out _ H9.out.below) (H9.out.catF 0 rfl)).mono ?_
    rintro e w10 ⟨g10, rfl, h10⟩
    have H10 := Aside0.mk (H9.out.app h10)
    clear h10 H9
    go_wp2_with fail
    refine (joinMark_any _ B As _ f _ cs b S (by omega) (by omega) (HB.out _ H10.out.below) (H10.out.catF 1 rfl)).mono ?_
    rintro e w11 ⟨g11, rfl, h11⟩
    have H11 := Aside0.mk (H10.out.app h11)
    clear h11 H10
    go_wp2_with fail
    refine (same_any _ (some ⟨g10, 0, none⟩) (some ⟨g11, 0, none⟩) _ 32 _ 32 (markF a S) (markF b S) (H11.out.catF 1 rfl) (H11.out.catF 0 rfl)).mono ?_
    rw [← HQ.out]
    rintro e w12 ⟨rfl, nn, rfl⟩
    have H12 := Aside0.mk (H11.out.drewN nn)
    generalize w11.drewN nn = w12 at *
    clear H11
    go_wp2_with fail
    refine (same_any _ Ax Ay _ cx _ cy x y (H12.out.catF 4 rfl) (H12.out.catF 3 rfl)).mono ?_
    rw [HTq.out]
    rintro e w13 ⟨rfl, nn, rfl⟩
    have H13 := Aside0.mk (H12.out.drewN nn)
    generalize w12.drewN nn = w13 at *
    clear H12
    go_wp2_with fail
    refine (HAw.out _).mono ?_
    rintro e w14 ⟨rfl, h14⟩
    have H14 := Aside0.mk (H13.out.of_below h14.below)
    clear h14
    go_wp2
    go_ret
    exact ⟨rfl, H14.out.below⟩
theorem joinBoth_row (A : Option Addr) (n c : Nat) (a : Bs) (B : Option Addr) (k f : Nat) (b : Bs) (kid : ByteArray) (D : Option Addr) (m d : Nat) (pl : Bs) (W : World) (hC : kB.C W A n a) (_ : AllOk AnyOk a) (hn : a.length * 1 ≤ 140737488351232 ∧ n ≤ c) (hB : kB.C W B k b) (_ : AllOk AnyOk b) (hk : b.length * 1 ≤ 140737488351232 ∧ k ≤ f) (_ : kid.size ≤ 140737488351232)
    (hD : kB.C W D m pl) (_ : AllOk AnyOk pl) (hm : pl.length * 1 ≤ 140737488351232 ∧ m ≤ d) (hE : ErrS W) :
    Calls Tryz.prog 6 #[.slice A n c, .slice B k f, .string kid, .slice D m d] W fun e w' => e = .returned (.bool true) ∧ Below W.heap.size W w' :=
  joinBoth_law W A n c a B k f b kid D m d pl hE hn.2 hk.2 hm.2 hC hB hD
end Go.Proofs.YtdldblfklalaeaaGreatDoor
