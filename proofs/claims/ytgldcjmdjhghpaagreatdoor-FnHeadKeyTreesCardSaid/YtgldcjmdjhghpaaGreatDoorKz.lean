/-
  FnHeadKeyTrees: its walk, and how a tree is read among the arguments.
-/
import Derived.Test.YtgldcjmdjhghpaaGreatDoorKq
import Derived.Test.YtgldcjmdjhghpaaGreatDoorKw
import Derived.Test.YtgldcjmdjhghpaaGreatDoorKj
namespace Go.Proofs.YtgldcjmdjhghpaaGreatDoor
open Go.RowKit Go.Proofs.YtgldcjmdjhghpaaGreatDoorW.PrintWords Go.ChangeShapes Go.WideShapes Go.Deep
set_option linter.unusedVariables false
set_option linter.unusedSimpArgs false
set_option maxRecDepth 100000
set_option maxHeartbeats 16000000 in
theorem keyTrees_any (w : World) (x : TrN 60) (A : Option Addr) (c : Nat) (B : Option Addr) (m d : Nat) (h : TrAt w x A c B m d) (hO : OkT 60 x) (hT : Tabs w) (y : Nat) (hy : y < 18446744073709551616) (nm : ByteArray) (hnm : nm.size ≤ 9223372036854775807) :
    Calls Tryz.prog 3 #[.agg (trCells x A c B m d), .int .u64 (y : Int), .string nm] w fun e w' => e = .returned (.bool true) ∧ Below w.heap.size w w' := by
  have hu := Tryz.underlying26
  have HLv := Aside0.mk (fun w => keyHeadLive_any w)
  have HAt := Aside0.mk (fun (wz : World) (hb : Below w.heap.size w wz) => h.on hb)
  have HTb := Aside0.mk (fun (wz : World) (hb : Below w.heap.size w wz) => hT.on hb)
  have HPr := Aside0.mk (fun (wz : World) (hb : Below w.heap.size w wz) (n : Nat) (hg : TGood 60 x n) (hn : n ≤ 200) => hprint_any ⟨treeCall_any 60⟩ wz x A c B m d n y (h.on hb) hO hg hn hy)
  have HFt := Aside0.mk (fun (n : Nat) (hg : TGood 60 x n) (h5 : x.1 = 5) => prF_fit hO hg h5 y)
  have HLn := Aside0.mk (fun (n : Nat) (hg : TGood 60 x n) (hn : n ≤ 200) => prF_len hO hg hn y)
  have HNm := Aside0.mk (fun (n : Nat) (hg : TGood 60 x n) (h5 : x.1 = 5) => (show x.2.2.2.2.2.1.length ≤ 200 from by rw [(hg.2.2.1 h5).2]; exact hg.2.2.2.1 (by omega)))
  have HZf := Aside0.mk (fun (wz : World) (hb : Below w.heap.size w wz) => zf11_any wz x A c B m d (h.on hb))
  have HOb := Aside0.mk (fun (wz : World) (hb : Below w.heap.size w wz) (D : Option Addr) (T : List ByteArray) (cT : Nat) (hD : Kd.string.C wz D T.length T) => hobj_any wz x A c B m d (h.on hb) hO (hT.on hb) D T cT hD)
  obtain ⟨P, hP⟩ : ∃ P, P = prF x y := ⟨_, rfl⟩
  rw [← hP] at HPr HFt HLn
  have HX : Aside0 (∃ X, X = x) := ⟨⟨_, rfl⟩⟩
  obtain ⟨kd, is, mi, nu, tx, ns, ks⟩ := x
  have hC := h.hC
  replace hC : Kd.string.C w A ns.length ns := hC
  have HC := Aside0.mk (fun (wz : World) (hb : Below w.heap.size w wz) => Kd.C_below hC hb)
  have hnc : ns.length ≤ c := h.hle
  have hBx := BoxT.new w kd is mi nu tx (.slice A ns.length c) (.slice B m d)
  have H0 := Aside0.mk ((Hold.start w).alloc (.cells #[.int .u8 kd, .bool is, .bool mi, .int .u64 nu, .string tx, .slice A ns.length c, .slice B m d] 26))
  obtain ⟨W, hW⟩ : ∃ W, W = w.alloc (.cells #[.int .u8 kd, .bool is, .bool mi, .int .u64 nu, .string tx, .slice A ns.length c, .slice B m d] 26) := ⟨_, rfl⟩
  have HBx := Aside0.mk (fun (wz : World) (hb : Below W.heap.size W wz) => (show BoxT W w.heap.size kd is mi nu tx (.slice A ns.length c) (.slice B m d) from by rw [hW]; exact hBx).on hb)
  rw [← hW] at hBx H0
  obtain ⟨q0, q1, q2, q3, q4, q5, q6⟩ := hBx
  have HW := Aside0.mk hW
  have H1 : Aside0 (Below w.heap.size w W) := ⟨H0.out.below⟩
  clear hW h hC hO hT hP HX
  obtain ⟨b, hb⟩ : ∃ b, b = w.heap.size := ⟨_, rfl⟩
  rw [← hb] at q0 q1 q2 q3 q4 q5 q6 HBx
  have Hb := Aside0.mk hb
  clear hb
  unfold trCells at HZf HOb HPr ⊢
  go_enter Tryz.func3, Tryz.ntmps3
  go_upto_region 1 with (fail)
  rw [← HW.out, ← Hb.out]
  go_wp2_with fail
  refine (HZf.out W H1.out).mono ?_
  rintro e w1 ⟨⟨b1, rfl⟩, hb1⟩
  have HB1 := Aside0.mk hb1
  have H2 := Aside0.mk (H1.out.trans (hb1.mono H1.out.size))
  clear hb1
  cases b1 with
  | false =>
    go_wp2
    go_ret
    exact ⟨rfl, H2.out⟩
  | true =>
    by_cases hs : 2147483647 < nm.size
    · go_wp2
      go_ret
      exact ⟨rfl, H2.out⟩
    replace hs : nm.size ≤ 2147483647 := by omega
    clear q0 q1 q2 q3 q4 q5 q6
    obtain ⟨q0, q1, q2, q3, q4, q5, q6⟩ := HBx.out _ HB1.out
    have HD : Kd.string.C (w1.alloc (.cells #[.string nm] 9)) (some ⟨w1.heap.size, 0, none⟩) 1 [nm] := by
      obtain ⟨A0, c0, e0, _, h0⟩ := (row1_lit nm ((Hold.start w1).alloc (.cells #[.string nm] 9))).reads 0 rfl
      injection e0 with e1 e2 e3
      rw [← e1] at h0
      exact h0
    obtain ⟨W2, hW2⟩ : ∃ W2, W2 = w1.alloc (.cells #[.string nm] 9) := ⟨_, rfl⟩
    replace HD : Kd.string.C W2 (some ⟨w1.heap.size, 0, none⟩) 1 [nm] := by rw [hW2]; exact HD
    have HB2 : Aside0 (Below W.heap.size W W2) := ⟨by rw [hW2]; exact HB1.out.alloc HB1.out.size _⟩
    have H3 := Aside0.mk (H1.out.trans (HB2.out.mono H1.out.size))
    have HO2 := Aside0.mk (HOb.out W2 H3.out _ [nm] 1 HD)
    have HW2 := Aside0.mk hW2
    obtain ⟨g2, hg2⟩ : ∃ g2, g2 = w1.heap.size := ⟨_, rfl⟩
    rw [← hg2] at HO2
    have HG2 := Aside0.mk hg2
    replace HO2 : Aside0 (Calls Tryz.prog 5 #[.agg #[.int .u8 kd, .bool is, .bool mi, .int .u64 nu, .string tx, .slice A ns.length c, .slice B m d], .slice (some ⟨g2, 0, none⟩) 1 1] W2 fun e w' => ObjEnd (kd, is, mi, nu, tx, ns, ks) e ∧ Below W2.heap.size W2 w') := HO2
    clear hW2 HD hg2
    go_wp2_with fail
    rw [← HW2.out, ← HG2.out]
    refine HO2.out.mono ?_
    rintro e w3 ⟨⟨b3, rfl, hob⟩, hb3⟩
    have HOk := Aside0.mk hob
    have HB3 := Aside0.mk (HB2.out.trans (hb3.mono HB2.out.size))
    have H4 := Aside0.mk (H3.out.trans (hb3.mono H3.out.size))
    clear hb3 hob
    cases b3 with
    | false =>
      go_wp2_with fail
      refine (HLv.out _).mono ?_
      rintro e w4 ⟨rfl, hb⟩
      have H5 := Aside0.mk (H4.out.trans (hb.mono H4.out.size))
      clear hb
      go_wp2
      go_ret
      exact ⟨rfl, H5.out⟩
    | true =>
      obtain ⟨h5, n, hn, hg⟩ := HOk.out rfl
      replace h5 : kd = 5 := h5
      subst h5
      have HPr1 := Aside0.mk (HPr.out w3 H4.out n hg hn)
      have hFt := HFt.out n hg rfl
      have hLn := HLn.out n hg hn
      have hNm := HNm.out n hg rfl
      clear HPr HFt HLn HNm HOk hg hn
      have HFt := Aside0.mk hFt
      clear q0 q1 q2 q3 q4 q5 q6 hFt
      obtain ⟨q0, q1, q2, q3, q4, q5, q6⟩ := HBx.out _ HB3.out
      go_wp2_with fail
      refine HPr1.out.mono ?_
      rintro e w4 ⟨rfl, hb4⟩
      have HB4 := Aside0.mk (HB3.out.trans (hb4.mono HB3.out.size))
      have H5 := Aside0.mk (H4.out.trans (hb4.mono H4.out.size))
      clear hb4 HPr1 q0 q1 q2 q3 q4 q5 q6
      obtain ⟨W4, g4, cap, hcv, hB, hb⟩ := conv_s2b w4 P (Nat.le_trans hLn (by decide))
      have HB5 := Aside0.mk (HB4.out.trans (hb.mono HB4.out.size))
      have H6 := Aside0.mk (H5.out.trans (hb.mono H5.out.size))
      have HBt := Aside0.mk (fun (wz : World) (h : Below W4.heap.size W4 wz) => Kd.C_below hB.C h)
      have hcap : P.length ≤ cap := hB.len
      clear hb hB
      obtain ⟨q0, q1, q2, q3, q4, q5, q6⟩ := HBx.out _ HB5.out
      have H7 := Aside0.mk (row1_lit nm ((Hold.start W4).alloc (.cells #[.string nm] 9)))
      have q5' := (HBx.out _ (HB5.out.trans (H7.out.below.mono HB5.out.size))).c5
      have Hl : Aside0 (([nm].length + ns.length) * 16 ≤ 140737488355328) := ⟨by simp only [List.length_cons, List.length_nil]; omega⟩
      have HCl := Aside0.mk (HC.out _ (H6.out.trans (H7.out.below.mono H6.out.size)))
      clear HZf HOb HC HAt HTb
      go_wp2_with ((with_reducible refine at_bi (b := .append) (xs := #[.tmp 35, .tmp 37]) rfl ?_); at_builtin; refine Hold.appendRow 0 H7.out rfl rfl (.tmp 35) (.tmp 37) 23 (.string ByteArray.empty) 16 rfl Tryz.underlying23 info9 rfl (by omega) (A) (ns.length) (c) rfl rfl (HCl.out) Hl.out ?_; intro _ _ H8'; have H8 := Aside0.mk H8'; clear H8' H7; obtain ⟨A8, c8, rfl, hle_c8, hHC8'⟩ := H8.out.reads 0 rfl; have HC8 := Aside0.mk hHC8'; clear hHC8')
      rename_i w5
      clear HCl Hl HC8 q0 q1 q2 q3 q4 q5 q6 q5' hcv
      have hPl : ([nm] ++ ns).length ≤ 201 := by simp only [List.length_append, List.length_cons, List.length_nil]; omega
      have hPe : ([nm] ++ ns).length = ns.length + 1 := by simp
      have H8' : Aside0 (Hold W4 W4.heap.size w5 [.row Kd.string 9 (.slice A8 ([nm] ++ ns).length c8) ([nm] ++ ns)]) := ⟨H8.out⟩
      clear H8
      generalize hL2 : [nm] ++ ns = L2 at *
      clear hL2
      have HPe := Aside0.mk hPe
      clear hPe hPl
      have HB6 : Aside0 (Below W4.heap.size W4 w5) := ⟨H8'.out.below⟩
      have H9 := Aside0.mk (H6.out.trans (HB6.out.mono H6.out.size))
      obtain ⟨AL, cL, heL, _, hCL⟩ := H8'.out.reads 0 rfl
      injection heL with e1 e2 e3
      subst e1 e3
      have HRow := Aside0.mk (fun (wz : World) (hb : Below w5.heap.size w5 wz) => Kd.C_below hCL hb)
      clear hCL e2 H8'
      have HBt5 := Aside0.mk (fun (wz : World) (hb : Below w5.heap.size w5 wz) => HBt.out wz (HB6.out.trans (hb.mono HB6.out.size)))
      have hP9 : P.length ≤ 900000000000 := Nat.le_trans hLn (by decide)
      go_loopw [40] (fun i wr => ∃ k : Nat, k ≤ ns.length + 1 ∧ i = .int .i64 k ∧ Below w5.heap.size w5 wr) (fun i _ => ns.length + 1 - (intOf i).toNat)
      case atStart => exact ⟨0, Nat.zero_le _, rfl, Below.refl _ _⟩
      case round =>
        obtain ⟨k, hk, rfl, hRb⟩ := hrel
        have HRb := Aside0.mk hRb
        clear hRb
        by_cases hlt : k < ns.length + 1
        · have hlt2 : k + 1 ≤ ns.length + 1 := hlt
          have hlt3 : k < L2.length := by rw [HPe.out]; exact hlt
          obtain ⟨a5, rfl, ej⟩ := C1_get (HRow.out _ HRb.out) k hlt3
          generalize hs : L2[k] = s at *
          clear hs hlt3
          obtain ⟨rs, hrs⟩ : ∃ r, r = (strT (pTop P) s.data.toList).getD [] := ⟨_, rfl⟩
          obtain ⟨bo, hbo⟩ : ∃ r, r = (strT (pTop P) s.data.toList).isSome := ⟨_, rfl⟩
          obtain ⟨bh, hbh⟩ : ∃ r, r = (tGet (pTop P) s.data.toList).isSome := ⟨_, rfl⟩
          have F1 : Aside0 (∀ (wz : World) (A : Option Addr) (c : Nat), kB.C wz A P.length P → Calls Tryz.prog 8 #[.slice A P.length c, .string s] wz fun e w' => e = .returned (.tuple #[.string (bStr rs), .bool bo]) ∧ Below wz.heap.size wz w') := ⟨fun wz A c h => by
            have := headString_any P s.data.toList wz P.length c A hP9 hP9 h HFt.out
            rw [bStr_data, ← hrs, ← hbo] at this
            exact this⟩
          have F2 : Aside0 (∀ (wz : World) (A : Option Addr) (c : Nat), kB.C wz A P.length P → Calls Tryz.prog 10 #[.slice A P.length c, .string s] wz fun e w' => e = .returned (.tuple #[.string (bStr rs), .bool bo]) ∧ Below wz.heap.size wz w') := ⟨fun wz A c h => by
            have := headKeyString_any P s.data.toList wz P.length c A hP9 hP9 h HFt.out
            rw [bStr_data, ← hrs, ← hbo] at this
            exact this⟩
          have F3 : Aside0 (∀ (wz : World) (A : Option Addr) (c : Nat), kB.C wz A P.length P → Calls Tryz.prog 11 #[.slice A P.length c, .string s] wz fun e w' => ∃ A2 n2 c2, e = .returned (.tuple #[.slice A2 n2 c2, .bool bo]) ∧ n2 ≤ 900000000000 ∧ kB.C w' A2 n2 rs ∧ Below wz.heap.size wz w') := ⟨fun wz A c h => by
            have := headKeyBytes_any P s.data.toList wz P.length c A hP9 hP9 h HFt.out
            rw [bStr_data, ← hrs, ← hbo] at this
            exact this⟩
          have F4 : Aside0 (∀ (wz : World) (A : Option Addr) (c : Nat), kB.C wz A P.length P → Calls Tryz.prog 12 #[.slice A P.length c, .string s] wz fun e w' => e = .returned (.bool bh) ∧ Below wz.heap.size wz w') := ⟨fun wz A c h => by
            have := headKeyHas_any P s.data.toList wz P.length c A hP9 hP9 h HFt.out
            rw [bStr_data, ← hbh] at this
            exact this⟩
          have F5 : Aside0 (∀ (wz : World) (A : Option Addr) (c : Nat), kB.C wz A P.length P → Calls Tryz.prog 13 #[.slice A P.length c, .string s] wz fun e w' => e = .returned (.bool bh) ∧ Below wz.heap.size wz w') := ⟨fun wz A c h => by
            have := headHas_any P s.data.toList wz P.length c A hP9 hP9 h HFt.out
            rw [bStr_data, ← hbh] at this
            exact this⟩
          have FC : Aside0 (∀ (wz : World), Below w5.heap.size w5 wz → Calls Tryz.prog 9 #[.slice (some ⟨g4, 0, none⟩) P.length cap] wz fun e w' => ∃ A2 c2, e = .returned (.slice A2 P.length c2) ∧ kB.C w' A2 P.length P ∧ Below wz.heap.size wz w') := ⟨fun wz hb => (bcloneH_any wz _ _ cap P (Nat.le_trans hLn (by decide)) (HBt5.out wz hb)).mono (by
            rintro e w2 ⟨v, rfl, hS⟩
            obtain ⟨A2, c2, rfl, _, hC2⟩ := hS.reads 0 rfl
            exact ⟨A2, c2, rfl, hC2, hS.below⟩)⟩
          obtain ⟨R, hR⟩ : ∃ R, R = bStr rs := ⟨_, rfl⟩
          rw [← hR] at F1 F2
          clear hrs hbo hbh
          go_wp2_with fail
          refine (FC.out _ HRb.out).mono ?_
          rintro e wa ⟨Aa, ca, rfl, hCa, hba⟩
          have HRa := Aside0.mk (HRb.out.trans (hba.mono HRb.out.size))
          have HG := Aside0.mk (F1.out wa Aa ca hCa)
          clear hba hCa
          go_wp2_with fail
          refine HG.out.mono ?_
          rintro e wb ⟨rfl, hbb⟩
          have HRc := Aside0.mk (HRa.out.trans (hbb.mono HRa.out.size))
          clear hbb HG HRa
          go_wp2_with fail
          refine (FC.out _ HRc.out).mono ?_
          rintro e wa2 ⟨Aa2, ca2, rfl, hCa, hba⟩
          have HRa := Aside0.mk (HRc.out.trans (hba.mono HRc.out.size))
          have HG := Aside0.mk (F2.out wa2 Aa2 ca2 hCa)
          clear hba hCa HRc
          go_wp2_with fail
          refine HG.out.mono ?_
          rintro e wb2 ⟨rfl, hbb⟩
          have HRc := Aside0.mk (HRa.out.trans (hbb.mono HRa.out.size))
          clear hbb HG HRa
          go_wp2_with fail
          refine (FC.out _ HRc.out).mono ?_
          rintro e wa3 ⟨Aa3, ca3, rfl, hCa, hba⟩
          have HRa := Aside0.mk (HRc.out.trans (hba.mono HRc.out.size))
          have HG := Aside0.mk (F3.out wa3 Aa3 ca3 hCa)
          clear hba hCa HRc
          go_wp2_with fail
          refine HG.out.mono ?_
          rintro e wb3 ⟨A2, n2, c2, rfl, hn2, hC2, hbb⟩
          have HRc := Aside0.mk (HRa.out.trans (hbb.mono HRa.out.size))
          have gk := kB_string (P := Tryz.prog) c2 Tryz.underlying30 Tryz.underlying5 Tryz.underlying9 hC2
          rw [← hR] at gk
          clear hbb HG HRa hC2 ej
          go_wp2_with fail
          refine (FC.out _ HRc.out).mono ?_
          rintro e wa4 ⟨Aa4, ca4, rfl, hCa, hba⟩
          have HRa := Aside0.mk (HRc.out.trans (hba.mono HRc.out.size))
          have HG := Aside0.mk (F4.out wa4 Aa4 ca4 hCa)
          clear hba hCa HRc
          go_wp2_with fail
          refine HG.out.mono ?_
          rintro e wb4 ⟨rfl, hbb⟩
          have HRc := Aside0.mk (HRa.out.trans (hbb.mono HRa.out.size))
          clear hbb HG HRa
          go_wp2_with fail
          refine (FC.out _ HRc.out).mono ?_
          rintro e wa5 ⟨Aa5, ca5, rfl, hCa, hba⟩
          have HRa := Aside0.mk (HRc.out.trans (hba.mono HRc.out.size))
          have HG := Aside0.mk (F5.out wa5 Aa5 ca5 hCa)
          clear hba hCa HRc
          go_wp2_with fail
          refine HG.out.mono ?_
          rintro e wb5 ⟨rfl, hbb⟩
          have HRc := Aside0.mk (HRa.out.trans (hbb.mono HRa.out.size))
          clear hbb HG HRa
          go_wp2
          go_roundw
          case rel => exact ⟨k + 1, hlt2, by go_num, HRc.out⟩
          case measure => simp [intOf]; omega
        · obtain rfl : k = ns.length + 1 := by omega
          have HZ := Aside0.mk (H9.out.trans (HRb.out.mono H9.out.size))
          have HLv1 := Aside0.mk (HLv.out wr)
          clear HRb
          go_wp2_with fail
          refine HLv1.out.mono ?_
          rintro e w6 ⟨rfl, hb⟩
          have HZ2 := Aside0.mk (HZ.out.trans (hb.mono HZ.out.size))
          clear hb
          go_wp2
          go_ret
          exact ⟨rfl, HZ2.out⟩
theorem open_stT {H : Type} {enc : TypeId × Value → H} {P : Program} {W : World} {base : Nat} {spare : Nat → Bool} {held : Bool} {t : TypeId} {fs : Array Field} {v : Value} {dd : DataW H} {ps : List MemPlace} {r : Reach} {b0 : Nat}
    {α : Type} {d : Kd α} {ok : α → Prop} (hu : P.underlying t = some (.struct fs)) (hO : Opens P t d ok) (hv : Value.okWide P W r b0 t v)
    (h : DataW.Trod enc P W base spare held t v dd ps) : ∃ (cs : Array Value) (a : α), v = .agg cs ∧ d.K W a cs.toList ∧ ok a := by
  obtain ⟨cs, rfl, _⟩ := okWide_struct hu hv
  obtain ⟨fuel, hf⟩ := h
  obtain ⟨a, hK, hok⟩ := hO.out enc W base spare held fuel _ _ hf
  exact ⟨cs, a, rfl, by simpa [Value.cells] using hK, hok⟩
/-- A tree that lies among the arguments: where its rows lie. -/
abbrev TreeAdr : Type := Option Addr × Nat × Option Addr × Nat × Nat
structure TreeBox where
  x : TrN 60
def treeV (x : TreeBox) (u : TreeAdr) : Value := .agg (trCells x.x u.1 u.2.1 u.2.2.1 u.2.2.2.1 u.2.2.2.2)
structure TreeArg (w : World) (x : TreeBox) (u : TreeAdr) : Prop where
  at_ : TrAt w x.x u.1 u.2.1 u.2.2.1 u.2.2.2.1 u.2.2.2.2
  ok : OkT 60 x.x
theorem open_treeArg {H : Type} {enc : TypeId × Value → H} {W : World} {base : Nat} {spare : Nat → Bool} {held : Bool} {v : Value} {dd : DataW H} {ps : List MemPlace} {r : Reach} {b0 : Nat}
    (hv : Value.okWide Tryz.prog W r b0 26 v) (h : DataW.Trod enc Tryz.prog W base spare held 26 v dd ps) : ∃ (x : TreeBox) (u : TreeAdr), v = treeV x u ∧ TreeArg W x u := by
  obtain ⟨cs, a, rfl, hK, hok⟩ := open_stT Tryz.underlying26 (opens_tree 60) hv h
  obtain ⟨A, c, B, m, d, hcs, hT⟩ := kT_open hK
  refine ⟨⟨a⟩, (A, c, B, m, d), ?_, hT, hok⟩
  show _ = Value.agg (trCells a A c B m d)
  rw [← Array.toArray_toList (xs := cs), hcs]
theorem keyTrees_row (x : TreeBox) (u : TreeAdr) (y : Int) (nm : ByteArray) (W : World) (h : TreeArg W x u) (hy : (Lit.int .u64 y).wf = true) (hnm : nm.size ≤ 140737488351232) (hT : Tabs W) :
    Calls Tryz.prog 3 #[treeV x u, .int .u64 y, .string nm] W fun e w' => e = .returned (.bool true) ∧ Below W.heap.size W w' := by
  obtain ⟨hA, hO⟩ := h
  obtain ⟨x⟩ := x
  obtain ⟨A, c, B, m, d⟩ := u
  simp [Lit.wf, IntKind.min, IntKind.max, IntKind.bits, IntKind.signed] at hy
  obtain ⟨n, rfl⟩ := Int.eq_ofNat_of_zero_le hy.1
  exact keyTrees_any W x A c B m d hA hO hT n (by omega) nm (by omega)
end Go.Proofs.YtgldcjmdjhghpaaGreatDoor
