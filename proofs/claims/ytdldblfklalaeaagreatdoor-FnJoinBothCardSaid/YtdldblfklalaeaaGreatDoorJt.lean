/-
  FnJoinToken: its walk.
-/
import Derived.Test.YtdldblfklalaeaaGreatDoorJy
import Derived.Test.YtdldblfklalaeaaGreatDoorShort
namespace Go.Proofs.YtdldblfklalaeaaGreatDoor
open Go.RowKit Go.Proofs.YtdldblfklalaeaaGreatDoorW.PrintWords Go.Lib Go.ChangeShapes Go.WideShapes
set_option linter.unusedVariables false
set_option linter.unusedSimpArgs false
set_option maxRecDepth 100000
theorem str_row2 (w : World) (s t : ByteArray) : Kd.string.C (w.alloc (.cells #[.string s, .string t] 9)) (some ⟨w.heap.size, 0, none⟩) 2 [s, t] := C1_lit w 9 _ rfl [s, t] (by unfold maxLen; simp)
set_option maxHeartbeats 8000000 in
theorem joinToken_law (w : World) (A : Option Addr) (n c : Nat) (key : Bs) (alg kid : ByteArray) (D : Option Addr) (m d : Nat) (pl : Bs) (enc : Bool) (hE : ErrS w) (hnc : n ≤ c) (hmd : m ≤ d) (hC : kB.C w A n key) (hD : kB.C w D m pl) :
    Calls Tryz.prog 7 #[.slice A n c, .string alg, .string kid, .slice D m d, .bool enc] w fun e w' => e = .returned (.bool true) ∧ Below w.heap.size w w' := by
  obtain rfl := hC.1
  obtain rfl := hD.1
  have hx : key.length ≤ 9223372036854775807 := hC.2.1
  have hy : pl.length ≤ 9223372036854775807 := hD.2.1
  have HC := Aside0.mk (fun (wz : World) (hb : Below w.heap.size w wz) => Kd.C_below hC hb)
  have HD := Aside0.mk (fun (wz : World) (hb : Below w.heap.size w wz) => Kd.C_below hD hb)
  have HE := Aside0.mk (fun (wz : World) (hb : Below w.heap.size w wz) => hE.on hb)
  have HAw := Aside0.mk (fun w => partAwake_any w)
  have hb0 := Aside0.mk (Below.refl w.heap.size w)
  have hCS := CS_lit w 30 _ rfl [.slice A key.length c, .slice D pl.length d] [key, pl] rfl (by simp) (fun j hj => by
    match j, hj with
    | 0, _ => exact RdS.mk' hC hnc
    | 1, _ => exact RdS.mk' hD hmd)
  have HCS := Aside0.mk hCS
  have hb1 := Aside0.mk ((Below.refl w.heap.size w).alloc (Nat.le_refl _) (.cells #[.slice A key.length c, .slice D pl.length d] 30))
  clear hC hD hCS hE
  go_enter Tryz.func7, Tryz.ntmps7
  by_cases s1 : 2147483647 < key.length
  · go_wp2
    go_ret
    exact ⟨rfl, hb0.out⟩
  by_cases s2 : 2147483647 < alg.size
  · go_wp2
    go_ret
    exact ⟨rfl, hb0.out⟩
  by_cases s3 : 2147483647 < kid.size
  · go_wp2
    go_ret
    exact ⟨rfl, hb0.out⟩
  by_cases s4 : 2147483647 < pl.length
  · go_wp2
    go_ret
    exact ⟨rfl, hb0.out⟩
  replace s1 : key.length ≤ 2147483647 := by omega
  replace s2 : alg.size ≤ 2147483647 := by omega
  replace s3 : kid.size ≤ 2147483647 := by omega
  replace s4 : pl.length ≤ 2147483647 := by omega
  go_wp2_with fail
  refine (short_any _ _ _ _ [key, pl] HCS.out).mono ?_
  rintro e w1 ⟨rfl, rfl⟩
  cases hs : shortOk [key, pl] with
  | false =>
    clear hs
    go_wp2_with fail
    refine (HAw.out _).mono ?_
    rintro e w2 ⟨rfl, h2⟩
    have H2 := Aside0.mk (hb1.out.trans (h2.below.mono hb1.out.size))
    clear h2
    go_wp2
    go_ret
    exact ⟨rfl, H2.out⟩
  | true =>
  have hkl : key.length ≤ 2000 := by simp [shortOk] at hs; exact hs.1
  have hpl : pl.length ≤ 2000 := by simp [shortOk] at hs; exact hs.2
  clear hs HCS
  obtain ⟨W1, hW1⟩ : ∃ W, W = w.alloc (.cells #[.slice A key.length c, .slice D pl.length d] 30) := ⟨_, rfl⟩
  rw [← hW1] at hb1 ⊢
  clear hW1
  have hb2 := Aside0.mk (hb1.out.alloc hb1.out.size (.cells #[.string alg, .string kid] 9))
  go_wp2_with fail
  refine (joinSafe_any _ _ _ 2 [alg, kid] (str_row2 _ alg kid)).mono ?_
  rintro e w1 ⟨⟨b, rfl, hsa⟩, rfl⟩
  have HSf := Aside0.mk hsa
  clear hsa
  obtain ⟨W2, hW2⟩ : ∃ W, W = W1.alloc (.cells #[.string alg, .string kid] 9) := ⟨_, rfl⟩
  rw [← hW2] at hb2 ⊢
  clear hW2
  cases b with
  | false =>
    go_wp2_with fail
    refine (HAw.out _).mono ?_
    rintro e w2 ⟨rfl, h2⟩
    have H2 := Aside0.mk (hb2.out.trans (h2.below.mono hb2.out.size))
    clear h2
    go_wp2
    go_ret
    exact ⟨rfl, H2.out⟩
  | true =>
  have hsa : Safe alg.data.toList := HSf.out rfl alg (by simp)
  have hsk : Safe kid.data.toList := HSf.out rfl kid (by simp)
  have Hsa := Aside0.mk (And.intro hsa hsk)
  have hal := safe_size hsa
  have hkd := safe_size hsk
  clear HSf hsa hsk
  go_wp2_with fail
  refine (joinPlain_any W2 D _ d pl enc (by omega) (HD.out _ hb2.out)).mono ?_
  rintro e w3 ⟨⟨b, rfl, hpp⟩, hb3⟩
  have HP := Aside0.mk hpp
  have H3 := Aside0.mk (hb2.out.trans (hb3.mono hb2.out.size))
  clear hpp hb3
  cases b with
  | false =>
    go_wp2_with fail
    refine (HAw.out _).mono ?_
    rintro e w4 ⟨rfl, h2⟩
    have H4 := Aside0.mk (H3.out.trans (h2.below.mono H3.out.size))
    clear h2
    go_wp2
    go_ret
    exact ⟨rfl, H4.out⟩
  | true =>
  replace HP := Aside0.mk (HP.out rfl)
  go_wp2_with fail
  refine (joinSigned_any w3 A D _ c _ d key alg kid pl enc hal hkd hpl (by omega) (HC.out _ H3.out) (HD.out _ H3.out)).mono ?_
  rintro e w4 ⟨v4, rfl, h4⟩
  obtain ⟨A4, c4, rfl, hle4, hC4⟩ := h4.reads 0 rfl
  have H4 := Aside0.mk (H3.out.trans (h4.below.mono H3.out.size))
  have HO := Aside0.mk (joinOpened_any w4 A A4 _ c _ c4 key key alg kid pl enc (HE.out _ H4.out) Hsa.out.1 Hsa.out.2 hpl HP.out (by omega) (HC.out _ H4.out) hC4)
  rw [decide_eq_true rfl] at HO
  generalize tokF key alg kid pl enc = T at *
  clear h4 hle4 hC4
  go_wp2_with fail
  refine HO.out.mono ?_
  rintro e w5 ⟨v5, rfl, h5⟩
  obtain ⟨A5, c5, rfl, hle5, hC5⟩ := h5.reads 0 rfl
  have H5 := Aside0.mk (H4.out.trans (h5.below.mono H4.out.size))
  have HSm := Aside0.mk (same_any w5 A5 D _ c5 _ d pl pl hC5 (HD.out _ H5.out))
  rw [decide_eq_true rfl] at HSm
  clear h5 hle5 hC5 HO
  go_wp2_with fail
  refine HSm.out.mono ?_
  rintro e w6 ⟨rfl, nn, rfl⟩
  have H6 := Aside0.mk (pw_below_drewN H5.out nn)
  generalize w5.drewN nn = w6 at *
  go_wp2_with fail
  refine (HAw.out _).mono ?_
  rintro e w7 ⟨rfl, h7⟩
  have H7 := Aside0.mk (H6.out.trans (h7.below.mono H6.out.size))
  clear h7
  go_wp2
  go_ret
  exact ⟨rfl, H7.out⟩
theorem joinToken_row (A : Option Addr) (n c : Nat) (key : Bs) (alg kid : ByteArray) (D : Option Addr) (m d : Nat) (pl : Bs) (enc : Bool) (W : World) (hC : kB.C W A n key) (_ : AllOk AnyOk key) (hn : key.length * 1 ≤ 140737488351232 ∧ n ≤ c) (_ : alg.size ≤ 140737488351232) (_ : kid.size ≤ 140737488351232)
    (hD : kB.C W D m pl) (_ : AllOk AnyOk pl) (hm : pl.length * 1 ≤ 140737488351232 ∧ m ≤ d) (hE : ErrS W) :
    Calls Tryz.prog 7 #[.slice A n c, .string alg, .string kid, .slice D m d, .bool enc] W fun e w' => e = .returned (.bool true) ∧ Below W.heap.size W w' :=
  joinToken_law W A n c key alg kid D m d pl enc hE hn.2 hm.2 hC hD
theorem opens_byte : Opens Tryz.prog 5 kB AnyOk := Opens.byte Tryz.underlying5
end Go.Proofs.YtdldblfklalaeaaGreatDoor
