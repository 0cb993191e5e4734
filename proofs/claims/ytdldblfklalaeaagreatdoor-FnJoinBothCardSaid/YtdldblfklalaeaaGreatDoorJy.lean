/-
  laws.joinSigned, laws.joinOpened, laws.joinPlain: their contracts.
-/
import Derived.Test.YtdldblfklalaeaaGreatDoorJx
import Derived.Test.YtdldblfklalaeaaGreatDoorJl
import Derived.Test.YtdldblfklalaeaaGreatDoorJi
namespace Go.Proofs.YtdldblfklalaeaaGreatDoor
open Go.RowKit Go.Proofs.YtdldblfklalaeaaGreatDoorW.PrintWords Go.Lib Go.ChangeShapes Go.WideShapes
set_option linter.unusedVariables false
set_option linter.unusedSimpArgs false
set_option maxRecDepth 100000
/-- Where the error of a wrong number of segments lies. -/
def ErrS (w : World) : Prop := ∃ t v, w.cell? ⟨3, 0, none⟩ = some (.iface t v)
theorem ErrS.on {w w' : World} (h : ErrS w) (hb : Below w.heap.size w w') : ErrS w' := by
  obtain ⟨t, v, h⟩ := h
  exact ⟨t, v, Kd_cell_below h hb⟩
/-- What is signed, and the token. -/
def sigF (alg kid : ByteArray) (pl : Bs) (enc : Bool) : Bs := sign (headT alg kid) pl enc
def tokF (key : Bs) (alg kid : ByteArray) (pl : Bs) (enc : Bool) : Bs := sigF alg kid pl enc ++ [46] ++ b64 true (markF key (sigF alg kid pl enc))
theorem headT_len {alg kid : ByteArray} (h1 : alg.size ≤ 60) (h2 : kid.size ≤ 60) : (headT alg kid).length ≤ 300 := by
  have e1 : alg.data.toList.length = alg.size := Array.length_toList
  have e2 : kid.data.toList.length = kid.size := Array.length_toList
  simp [headT, jText, fieldJ, commas, algB, kidB]
  omega
theorem sigF_len {alg kid : ByteArray} {pl : Bs} {enc : Bool} (h1 : alg.size ≤ 60) (h2 : kid.size ≤ 60) (hp : pl.length ≤ 2000) : (sigF alg kid pl enc).length ≤ 10000 := by
  have h := headT_len h1 h2
  have e1 : (b64 true (headT alg kid)).length ≤ 1000 := by rw [b64_len]; unfold encLen; omega
  have e2 : (b64 true pl).length ≤ 5000 := by rw [b64_len]; unfold encLen; omega
  unfold sigF sign
  cases enc <;> simp <;> omega
theorem tokF_len {key : Bs} {alg kid : ByteArray} {pl : Bs} {enc : Bool} (h1 : alg.size ≤ 60) (h2 : kid.size ≤ 60) (hp : pl.length ≤ 2000) : (tokF key alg kid pl enc).length ≤ 20000 := by
  have h := sigF_len (enc := enc) h1 h2 hp
  have e1 : (b64 true (markF key (sigF alg kid pl enc))).length ≤ 1000 := by rw [b64_len]; unfold encLen markF; rw [shaF_len]; omega
  unfold tokF
  simp
  omega
theorem safeAlg : Safe algB := ⟨by decide, by decide⟩
theorem safeKid : Safe kidB := ⟨by decide, by decide⟩
theorem headJn {alg kid : ByteArray} (ha : Safe alg.data.toList) (hk : Safe kid.data.toList) : Jn [(⟨#[97, 108, 103]⟩, alg), (⟨#[107, 105, 100]⟩, kid)] :=
  (Jn.nil.snoc (p := (⟨#[97, 108, 103]⟩, alg)) (fun q hq => by cases hq) safeAlg ha).snoc (p := (⟨#[107, 105, 100]⟩, kid)) (fun q hq => by
    rw [List.nil_append, List.mem_singleton] at hq
    rw [hq]
    intro h
    have := congrArg (fun b : ByteArray => b.data.toList) h
    simp at this) safeKid hk
theorem headT_eq (alg kid : ByteArray) : headT alg kid = jText ([((⟨#[97, 108, 103]⟩ : ByteArray), alg), (⟨#[107, 105, 100]⟩, kid)].map bsP) := rfl
set_option maxHeartbeats 4000000 in
theorem joinSigned_any (w : World) (A D : Option Addr) (n c m d : Nat) (key : Bs) (alg kid : ByteArray) (pl : Bs) (enc : Bool) (h1 : alg.size ≤ 60) (h2 : kid.size ≤ 60) (hp : pl.length ≤ 2000) (hk : n ≤ 100000) (hC : kB.C w A n key) (hD : kB.C w D m pl) :
    Calls Tryz.prog 34 #[.slice A n c, .string alg, .string kid, .slice D m d, .bool enc] w fun e w' => ∃ v, e = .returned v ∧ Hold w w.heap.size w' [.row kB 5 v (tokF key alg kid pl enc)] := by
  obtain rfl := hC.1
  obtain rfl := hD.1
  have HC := Aside0.mk (fun (wz : World) (hb : Below w.heap.size w wz) => Kd.C_below hC hb)
  have HD := Aside0.mk (fun (wz : World) (hb : Below w.heap.size w wz) => Kd.C_below hD hb)
  have H0 := Aside0.mk (Hold.start w)
  have hsl := sigF_len (enc := enc) h1 h2 hp
  have hhl := headT_len h1 h2
  have HS : Aside0 (sign (headT alg kid) pl enc = sigF alg kid pl enc) := ⟨rfl⟩
  have HT : Aside0 (sigF alg kid pl enc ++ [46] ++ b64 true (markF key (sigF alg kid pl enc)) = tokF key alg kid pl enc) := ⟨rfl⟩
  clear hC hD
  go_enter Tryz.func34, Tryz.ntmps34
  go_wp2_with fail
  refine (joinHead_any w alg kid (by omega) (by omega)).mono ?_
  rintro e w1 ⟨A1, c1, rfl, hc1, hC1, hb1⟩
  have HC1 := Aside0.mk (fun (wz : World) (hb : Below w1.heap.size w1 wz) => Kd.C_below hC1 hb)
  have H1 := Aside0.mk (H0.out.of_below hb1)
  generalize hd : headT alg kid = hT at *
  clear hd hb1 hC1
  go_wp2_with fail
  refine (own_any _ D _ d pl (by omega) (HD.out _ H1.out.below)).mono ?_
  rintro e w2 ⟨v2, rfl, h2⟩
  obtain ⟨A2, c2, rfl, hle2, hC2⟩ := h2.reads 0 rfl
  have H2 := Aside0.mk (H1.out.of_below h2.below)
  have HSi := Aside0.mk (implSigning_any w2 A1 A2 hT.length c1 pl.length c2 hT pl enc (by omega) (by omega) (HC1.out _ h2.below) hC2)
  rw [HS.out] at HSi
  generalize hsg : sigF alg kid pl enc = S at *
  clear h2 hC2 hle2 hsg
  go_wp2_with fail
  refine HSi.out.mono ?_
  rintro e w3 ⟨v3, rfl, h3⟩
  obtain ⟨A3, c3, rfl, hle3, hC3⟩ := h3.reads 0 rfl
  have H3 := Aside0.mk (H2.out.app h3)
  clear h3 hC3 hle3 HSi
  go_wp2_with fail
  refine (own_any _ A3 _ c3 S (by omega) (H3.out.catF 0 rfl)).mono ?_
  rintro e w4 ⟨v4, rfl, h4⟩
  obtain ⟨A4, c4, rfl, hle4, hC4⟩ := h4.reads 0 rfl
  have H4 := Aside0.mk (H3.out.app h4)
  clear h4 hC4 hle4
  go_wp2_with fail
  refine (joinMark_any _ A A3 _ c _ c3 key S (by omega) (by omega) (HC.out _ H4.out.below) (H4.out.catF 1 rfl)).mono ?_
  rintro e w5 ⟨g5, rfl, h5⟩
  have H5 := Aside0.mk (H4.out.app h5)
  clear h5
  go_wp2_with fail
  refine (withSig_any _ A4 (some ⟨g5, 0, none⟩) _ c4 32 32 S (markF key S) (by omega) (by omega) (H5.out.catF 1 rfl) (H5.out.catF 0 rfl)).mono ?_
  rintro e w6 ⟨v6, rfl, h6⟩
  have H6 := Aside0.mk ((H5.out.app h6).pick [0] (by decide) (L' := [.row kB 5 v6 (S ++ [46] ++ b64 true (markF key S))]) rfl)
  rw [HT.out] at H6
  clear h6
  go_wp2
  go_ret
  exact ⟨_, rfl, H6.out⟩
def OPost (w : World) (e : Ending) (w' : World) (pl : Bs) (alg kid : ByteArray) : Bool → Prop
  | true => ∃ v, e = .returned (.tuple #[v, .string alg, .string kid, .bool true]) ∧ Hold w w.heap.size w' [.row kB 5 v pl]
  | false => e = .returned (.tuple #[.slice none 0 0, .string ByteArray.empty, .string ByteArray.empty, .bool false]) ∧ Below w.heap.size w w'
theorem dec_raw (w : World) (A : Option Addr) (c : Nat) (xs : Bs) (hl : xs.length ≤ 100000) (hC : kB.C w A (b64 true xs).length (b64 true xs)) :
    Calls Tryz.prog 30 #[.slice A (b64 true xs).length c] w fun e w' => ∃ v, e = .returned (.tuple #[v, .bool true]) ∧ Hold w w.heap.size w' [.row kB 5 v xs] := by
  obtain ⟨hok, hgu⟩ := guess_raw (ts := b64 true xs) (fun k hk => b64_isL true xs k hk)
  have h := decoded_any w true A _ c (b64 true xs) (by rw [b64_len]; unfold encLen; omega) hC hok (by rw [hgu])
  rw [decAll_b64] at h
  exact h
set_option maxHeartbeats 8000000 in
theorem joinOpened_any (w : World) (A D : Option Addr) (n c m d : Nat) (key key' : Bs) (alg kid : ByteArray) (pl : Bs) (enc : Bool) (hE : ErrS w) (ha : Safe alg.data.toList) (hkd : Safe kid.data.toList) (hp : pl.length ≤ 2000) (hpl : enc = false → (segsL pl).length ≤ 1) (hk : n ≤ 100000)
    (hC : kB.C w A n key) (hD : kB.C w D m (tokF key' alg kid pl enc)) :
    Calls Tryz.prog 35 #[.slice A n c, .slice D m d, .bool enc] w fun e w' => OPost w e w' pl alg kid (decide (markF key' (sigF alg kid pl enc) = markF key (sigF alg kid pl enc))) := by
  obtain rfl := hC.1
  obtain rfl := hD.1
  have h1 := safe_size ha
  have h2 := safe_size hkd
  have htl := tokF_len (key := key') (enc := enc) h1 h2 hp
  have hsl := sigF_len (enc := enc) h1 h2 hp
  have hhl := headT_len h1 h2
  have HC := Aside0.mk (fun (wz : World) (hb : Below w.heap.size w wz) => Kd.C_below hC hb)
  have HD := Aside0.mk (fun (wz : World) (hb : Below w.heap.size w wz) => Kd.C_below hD hb)
  have HE := Aside0.mk (fun (wz : World) (hb : Below w.heap.size w wz) => hE.on hb)
  have HJ := Aside0.mk (headJn ha hkd)
  have H0 := Aside0.mk (Hold.start w)
  have HSg : Aside0 (segsL (tokF key' alg kid pl enc) = [b64 true (headT alg kid), if enc then b64 true pl else pl, b64 true (markF key' (sigF alg kid pl enc))]) := ⟨joined_segs (headT alg kid) pl (markF key' (sigF alg kid pl enc)) enc hpl⟩
  obtain ⟨y, hy⟩ : ∃ y, y = (if enc then b64 true pl else pl) := ⟨_, rfl⟩
  have HS : Aside0 (b64 true (headT alg kid) ++ [46] ++ y = sigF alg kid pl enc) := ⟨by rw [hy]; rfl⟩
  have hyl : y.length ≤ 10000 := by
    have := congrArg List.length HS.out
    simp only [List.length_append] at this
    omega
  rw [← hy] at HSg
  have HY := Aside0.mk hy
  have hmk : (markF key' (sigF alg kid pl enc)).length = 32 := shaF_len _
  have HHT := Aside0.mk (headT_eq alg kid)
  generalize hhd : headT alg kid = hT at *
  generalize hst : tokF key' alg kid pl enc = T at *
  generalize hsg : sigF alg kid pl enc = S at *
  generalize hmm : markF key' S = M at *
  clear hC hD hE ha hkd hy hhd hst hsg hmm hpl
  go_enter Tryz.func35, Tryz.ntmps35
  go_wp2_with fail
  refine (own_any w D _ d T (by omega) (HD.out _ (Below.refl _ _))).mono ?_
  rintro e w1 ⟨v1, rfl, h1'⟩
  obtain ⟨A1, c1, rfl, hle1, hC1⟩ := h1'.reads 0 rfl
  have H1 := Aside0.mk (H0.out.of_below h1'.below)
  obtain ⟨te, ve, hG⟩ := HE.out w1 h1'.below
  have HSp := Aside0.mk (implSplit_any w1 A1 _ c1 T te ve hG (by omega) hC1)
  rw [HSg.out] at HSp
  clear h1' hC1 hle1 hG
  go_wp2_with fail
  refine HSp.out.mono ?_
  rintro e w2 ⟨v1, v2, v3, rfl, h2'⟩
  obtain ⟨Az, cz, rfl, hlz, _⟩ := h2'.reads 0 rfl
  obtain ⟨Ay, cy, rfl, hly, _⟩ := h2'.reads 1 rfl
  obtain ⟨Ax, cx, rfl, hlx, _⟩ := h2'.reads 2 rfl
  have H2 := Aside0.mk (H1.out.app h2')
  clear h2' hlz hly hlx HSp
  have hbx : (b64 true hT).length ≤ 1000 := by rw [b64_len]; unfold encLen; omega
  have hbz : (b64 true M).length ≤ 1000 := by rw [b64_len, hmk]; decide
  have hM3 : M.length ≤ 32 := by omega
  clear hmk
  go_wp2_with fail
  refine (own_any _ Ax _ cx (b64 true hT) (by omega) (H2.out.catF 2 rfl)).mono ?_
  rintro e w3 ⟨v3, rfl, h3⟩
  obtain ⟨A3, c3, rfl, hle3, hC3⟩ := h3.reads 0 rfl
  have HDc := Aside0.mk (dec_raw w3 A3 c3 hT (by omega) hC3)
  have H3' := Aside0.mk (H2.out.of_below h3.below)
  clear h3 hle3 hC3
  go_wp2_with fail
  refine HDc.out.mono ?_
  rintro e w4 ⟨v4, rfl, h4⟩
  obtain ⟨A4, c4, rfl, hle4, _⟩ := h4.reads 0 rfl
  have H4 := Aside0.mk (H3'.out.app h4)
  clear h4 hle4 HDc H3'
  go_wp2_with fail
  refine (own_any _ Az _ cz (b64 true M) (by omega) (H4.out.catF 1 rfl)).mono ?_
  rintro e w5 ⟨v5, rfl, h5⟩
  obtain ⟨A5, c5, rfl, hle5, hC5⟩ := h5.reads 0 rfl
  have HDc := Aside0.mk (dec_raw w5 A5 c5 M (by omega) hC5)
  have H5' := Aside0.mk (H4.out.of_below h5.below)
  clear h5 hle5 hC5
  go_wp2_with fail
  refine HDc.out.mono ?_
  rintro e w6 ⟨v6, rfl, h6⟩
  obtain ⟨A6, c6, rfl, hle6, _⟩ := h6.reads 0 rfl
  have H6 := Aside0.mk (H5'.out.app h6)
  clear h6 hle6 HDc H5'
  go_wp2_with fail
  refine (own_any _ Ax _ cx (b64 true hT) (by omega) (H6.out.catF 4 rfl)).mono ?_
  rintro e w7 ⟨v7, rfl, h7⟩
  obtain ⟨A7, c7, rfl, hle7, hC7⟩ := h7.reads 0 rfl
  have H7 := Aside0.mk (H6.out.app h7)
  clear h7 hle7 hC7
  have HL1 : Aside0 (((b64 true hT).length + 1) * 1 ≤ 140737488355328) := ⟨by omega⟩
  have HL2 : Aside0 (((b64 true hT ++ [46]).length + y.length) * 1 ≤ 140737488355328) := ⟨by rw [List.length_append]; simp; omega⟩
  obtain ⟨lx, hlx⟩ : ∃ lx, lx = (b64 true hT).length := ⟨_, rfl⟩
  have Hlx := Aside0.mk hlx
  rw [← hlx] at H7 H6 H4 H2 ⊢
  clear hlx
  go_wp2_with (first | ((with_reducible refine at_bi (b := .append) (xs := #[.tmp 44, .tmp 45]) rfl ?_); at_builtin; refine Hold.append1 (kB) 0 H7.out rfl rfl (.tmp 44) (.tmp 45) 30 (.int .u8 0) 1 rfl Tryz.underlying30 info5 rfl (by decide) (by omega) ((46 : UInt8)) [.int .u8 46] rfl rfl rfl HL1.out ?_; intro _ _ H8'; have H8 := Aside0.mk H8'; clear H8' H7) | ((with_reducible refine at_bi (b := .append) (xs := #[.tmp 46, .tmp 47]) rfl ?_); at_builtin; refine Hold.appendRow 0 H8.out rfl rfl (.tmp 46) (.tmp 47) 30 (.int .u8 0) 1 rfl Tryz.underlying30 info5 rfl (by omega) (Ay) (y.length) (cy) rfl rfl (H8.out.catF 4 rfl) HL2.out ?_; intro _ _ H9'; have H9 := Aside0.mk H9'; clear H9' H8))
  obtain ⟨As, cs, rfl, hles, hCs⟩ := H9.out.reads 0 rfl
  rw [HS.out]
  have H10 : Aside0 (Hold w w.heap.size _ [.row kB 5 (.slice As S.length cs) S, .row kB 5 (.slice A6 M.length c6) M, .row kB 5 (.slice A4 hT.length c4) hT, .row kB 5 (.slice Az (b64 true M).length cz) (b64 true M), .row kB 5 (.slice Ay y.length cy) y, .row kB 5 (.slice Ax lx cx) (b64 true hT)]) := ⟨by
    have h := H9.out
    rw [HS.out] at h
    exact h⟩
  clear H9 hles hCs H6 H4 H2
  refine (joinMark_any _ A As _ c _ cs key S (by omega) (by omega) (HC.out _ H10.out.below) (H10.out.catF 0 rfl)).mono ?_
  rintro e w11 ⟨g11, rfl, h11⟩
  have H11 := Aside0.mk (H10.out.app h11)
  clear h11 H10
  go_wp2_with fail
  refine (same_any _ A6 (some ⟨g11, 0, none⟩) _ c6 32 32 M (markF key S) (H11.out.catF 2 rfl) (H11.out.catF 0 rfl)).mono ?_
  rintro e w12 ⟨rfl, nn, rfl⟩
  have H12 := Aside0.mk (H11.out.drewN nn)
  generalize w11.drewN nn = w12 at *
  clear H11
  cases hdc : decide (M = markF key S) with
  | false =>
    have HDC := Aside0.mk hdc
    clear hdc
    go_wp2
    refine bodyPost_ret (results_tmp4 rfl _ _ _) rfl ?_
    rw [HDC.out]
    exact ⟨rfl, H12.out.below⟩
  | true =>
    have HDC := Aside0.mk hdc
    clear hdc
    go_wp2_with fail
    refine (own_any _ A4 _ c4 hT (by omega) (H12.out.catF 3 rfl)).mono ?_
    rintro e w13 ⟨v13, rfl, h13⟩
    obtain ⟨A13, c13, rfl, hle13, hC13⟩ := h13.reads 0 rfl
    have H13 := Aside0.mk (H12.out.of_below h13.below)
    have HS1 := Aside0.mk (headStr_in HJ.out hT HHT.out (by omega) w13 A13 c13 hC13 ((⟨#[97, 108, 103]⟩ : ByteArray), alg) (by simp))
    clear h13 hC13 hle13 H12
    go_wp2_with fail
    refine HS1.out.mono ?_
    rintro e w14 ⟨rfl, hb14⟩
    have H14 := Aside0.mk (H13.out.of_below hb14)
    clear hb14 HS1 H13
    go_wp2_with fail
    refine (own_any _ A4 _ c4 hT (by omega) (H14.out.catF 3 rfl)).mono ?_
    rintro e w15 ⟨v15, rfl, h15⟩
    obtain ⟨A15, c15, rfl, hle15, hC15⟩ := h15.reads 0 rfl
    have H15 := Aside0.mk (H14.out.of_below h15.below)
    have HS2 := Aside0.mk (headStr_in HJ.out hT HHT.out (by omega) w15 A15 c15 hC15 ((⟨#[107, 105, 100]⟩ : ByteArray), kid) (by simp))
    clear h15 hC15 hle15 H14
    go_wp2_with fail
    refine HS2.out.mono ?_
    rintro e w16 ⟨rfl, hb16⟩
    have H16 := Aside0.mk (H15.out.of_below hb16)
    clear hb16 HS2 H15
    go_wp2_with fail
    refine (own_any _ Ay _ cy y (by omega) (H16.out.catF 5 rfl)).mono ?_
    rintro e w17 ⟨v17, rfl, h17⟩
    obtain ⟨A17, c17, rfl, hle17, hC17⟩ := h17.reads 0 rfl
    have H17 := Aside0.mk (H16.out.app h17)
    clear h17 hC17 hle17 H16
    cases enc with
    | false =>
      obtain rfl : y = pl := HY.out
      go_wp2
      refine bodyPost_ret (results_tmp4 rfl _ _ _) rfl ?_
      rw [HDC.out]
      exact ⟨_, rfl, H17.out.pick [0] (by decide) rfl⟩
    | true =>
      obtain rfl : y = b64 true pl := HY.out
      go_wp2_with fail
      refine (own_any _ Ay _ cy (b64 true pl) (by omega) (H17.out.catF 6 rfl)).mono ?_
      rintro e w18 ⟨v18, rfl, h18⟩
      obtain ⟨A18, c18, rfl, hle18, hC18⟩ := h18.reads 0 rfl
      have H18 := Aside0.mk (H17.out.of_below h18.below)
      have HDc := Aside0.mk (dec_raw w18 A18 c18 pl (by omega) hC18)
      clear h18 hle18 hC18 H17
      go_wp2_with fail
      refine HDc.out.mono ?_
      rintro e w19 ⟨v19, rfl, h19⟩
      have H19 := Aside0.mk (H18.out.app h19)
      clear h19
      go_wp2
      refine bodyPost_ret (results_tmp4 rfl _ _ _) rfl ?_
      rw [HDC.out]
      exact ⟨_, rfl, H19.out.pick [0] (by decide) rfl⟩
/-- Whether a payload may stand as it is. -/
theorem joinPlain_any (w : World) (D : Option Addr) (m d : Nat) (pl : Bs) (enc : Bool) (hm : m ≤ 100000) (hD : kB.C w D m pl) :
    Calls Tryz.prog 40 #[.slice D m d, .bool enc] w fun e w' => YesB e (enc = false → (segsL pl).length ≤ 1) ∧ Below w.heap.size w w' := by
  have HD := Aside0.mk hD
  have hb := Aside0.mk (Below.refl w.heap.size w)
  clear hD
  cases enc with
  | true =>
    go_enter Tryz.func40, Tryz.ntmps40
    go_wp2
    go_ret
    exact ⟨⟨true, rfl, fun _ h => by cases h⟩, hb.out⟩
  | false =>
    go_enter Tryz.func40, Tryz.ntmps40
    go_wp2_with fail
    refine (segs_any w D m d pl (by omega) HD.out).mono ?_
    rintro e w1 ⟨v, rfl, hS⟩
    obtain ⟨A, k, c, rfl, hk, hkc, hb1⟩ := hS.len
    have HB := Aside0.mk hb1
    have HK := Aside0.mk hk
    clear hS hb1 hk
    by_cases h1 : k = 1
    · subst h1
      go_wp2
      go_ret
      exact ⟨⟨true, rfl, fun _ _ => by rw [← HK.out]; exact Nat.le_refl _⟩, HB.out⟩
    · have h2 : ((k : Int) == 1) = false := by rw [beq_eq_false_iff_ne]; omega
      go_wp2
      go_ret
      exact ⟨⟨false, rfl, fun h => by cases h⟩, HB.out⟩
end Go.Proofs.YtdldblfklalaeaaGreatDoor
