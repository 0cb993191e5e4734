/-
  impl.KeyRun: its contract.
-/
import Derived.Test.YtpcbmjphffpplaaGreatDoorKsq
namespace Go.Proofs.YtpcbmjphffpplaaGreatDoor
open Go.RowKit Go.Proofs.YtpcbmjphffpplaaGreatDoorW.PrintWords
set_option linter.unusedVariables false
set_option linter.unusedSimpArgs false
set_option maxRecDepth 100000
def kr52Val (gst gb kb k1 : Nat) (Aa : Option Addr) (ma ca : Nat) (t : Value × Value) (d : Nat) : Value :=
  match d with
  | 237 => .pointer (some ⟨gst + 1, 4, none⟩)
  | 238 => .slice Aa ma ca
  | 239 => .func (.func 16) #[] #[.pointer (some ⟨gb, 0, none⟩)]
  | 240 => .iface 81 (.pointer (some ⟨kb, 0, none⟩))
  | 241 => .int .i64 (k1 : Int)
  | 242 => t.1
  | 243 => t.2
  | 244 => .pointer (some ⟨gst + 1, 4, none⟩)
  | _ => undef
def kr52Dp (i : Nat) : List (Nat × Nat) :=
  match i with
  | 1 => [(0, 237)]
  | 4 => [(2, 239), (3, 240)]
  | 5 => [(4, 241)]
  | 6 => [(1, 238), (5, 242)]
  | _ => []
theorem kr52Val_ne1 (gst gb kb k1 : Nat) (Aa : Option Addr) (ma ca : Nat) (t : Value × Value) (v : Value) (d : Nat) (h : d ≠ 242) : kr52Val gst gb kb k1 Aa ma ca (v, t.2) d = kr52Val gst gb kb k1 Aa ma ca t d := by
  unfold kr52Val
  split <;> first | rfl | exact absurd rfl h
theorem kr52Val_ne2 (gst gb kb k1 : Nat) (Aa : Option Addr) (ma ca : Nat) (t : Value × Value) (v : Value) (d : Nat) (h : d ≠ 243) : kr52Val gst gb kb k1 Aa ma ca (t.1, v) d = kr52Val gst gb kb k1 Aa ma ca t d := by
  unfold kr52Val
  split <;> first | rfl | exact absurd rfl h
set_option maxHeartbeats 60000000 in
theorem keyRun_any (w : World) (A A2 : Option Addr) (n c m c2 : Nat) (kds : List KDr) (sts : List KStp) (hK : kKD.C w A n kds) (hO : ∀ x ∈ kds, OctOk w x.1) (hn : n ≤ 1000) (hS : kStp.C w A2 m sts) (hm : m ≤ 1000) (hSt : ∀ x ∈ sts, StpOk kds.length x) :
    Calls Tryz.prog 9 #[.slice A n c, .slice A2 m c2] w fun e w' => ∃ v T, e = .returned v ∧ T.map Prod.fst = runF (kdOf kds) sts ⟨[], []⟩ ∧ Hold w w.heap.size w' (RunH T v) := by
  obtain rfl : n = kds.length := hK.1.symm
  have HK := Aside0.mk hK
  have HO := Aside0.mk hO
  have HS := Aside0.mk hS
  have HSt := Aside0.mk hSt
  have H0 : Aside0 (MadeI w w.heap.size kds 0 (w.alloc (.cells #[.slice none 0 0] 49))) := ⟨⟨.slice none 0 0, [], rfl, (Hold.pickA (M := [_, _, _]) (((Hold.start w).keysNil.slNil kyV).alloc (.cells #[.slice none 0 0] 49) : Hold w w.heap.size _ ([_, _, _] ++ [])) [0, 1, 2] (by decide) (by simp) (M' := [_, _, _]) rfl)⟩⟩
  clear hK hO hS hSt
  go_enter Tryz.func9, Tryz.ntmps9
  go_wp2
  have hnl : kds.length ≤ 9223372036854775807 := by omega
  go_loopw [28] (fun i wr => ∃ j : Nat, j ≤ kds.length ∧ i = .int .i64 j ∧ MadeI w w.heap.size kds j wr) (fun i _ => kds.length - (intOf i).toNat)
  case atStart => exact ⟨0, Nat.zero_le _, rfl, H0.out⟩
  case round =>
    obtain ⟨j, hj, rfl, hM⟩ := hrel
    by_cases hlt : j < kds.length
    · obtain ⟨ad, rfl, hcell⟩ := flat_get HK.out j hlt
      obtain ⟨mv, l, hl, hH⟩ := hM.out
      have hb := hH.below
      have he0 : wr.cell? (ad.add (j * 3)) = some (slT kds[j].1) := below_cell hb (hcell 0 _ rfl)
      have he1 : wr.cell? ⟨(ad.add (j * 3)).block, (ad.add (j * 3)).off + 1, none⟩ = some (.bool kds[j].2.1) := below_cell hb (hcell 1 _ rfl)
      have he2 : wr.cell? ⟨(ad.add (j * 3)).block, (ad.add (j * 3)).off + 2, none⟩ = some (.string kds[j].2.2) := below_cell hb (hcell 2 _ rfl)
      have hoct := (HO.out kds[j] (List.getElem_mem hlt)).below hb
      have HN : Aside0 (∀ k, (l ++ [(k, idOf kds[j])]).map Prod.snd = (kds.take (j + 1)).map idOf) := ⟨fun k => by
        rw [List.take_succ_eq_append_getElem hlt, List.map_append, List.map_append, hl]
        rfl⟩
      have H1 := Aside0.mk (hH.alloc (.cells #[.slice kds[j].1.1 kds[j].1.2.1 kds[j].1.2.2, .bool kds[j].2.1, .string kds[j].2.2] 45))
      obtain ⟨Am, cm, rfl, hcm⟩ := hH.slForm kyV_one 1 rfl l.length (by simp)
      have hjl : l.length = j := by
        have := congrArg List.length hl
        simp at this
        omega
      clear hcell hM hH hb hl
      generalize kds[j] = x at *
      obtain ⟨⟨sa, sn, sc⟩, has, id⟩ := x
      obtain ⟨bs, hb1, hb2, hb3⟩ := hoct.out
      have HO1 : Aside0 (kB.C (wr.alloc (.cells #[.slice sa sn sc, .bool has, .string id] 45)) sa sn bs) := ⟨Kd.C_below hb1 ((Below.refl _ _).alloc (Nat.le_refl _) _)⟩
      obtain rfl : sn = bs.length := hb1.1.symm
      have H2' := H1.out.app (emptyRowK _)
      rw [World.size_alloc] at H2'
      have H2 := Aside0.mk H2'
      clear H2'
      have HO2 := Aside0.mk (Kd.C_below HO1.out (emptyRowK _).below)
      have Hl : Aside0 ((([] : List UInt8).length + bs.length) * 1 ≤ 140737488355328) := ⟨by simp; omega⟩
      have hj1 : j + 1 ≤ kds.length := hlt
      simp only [slT] at he0 he1 he2
      clear hoct hb1 H1 HO1
      subst hjl
      cases has with
      | false =>
        have HN2 : Aside0 (∀ k, (l ++ [(k, none)]).map Prod.snd = (kds.take (l.length + 1)).map idOf) := ⟨HN.out⟩
        clear HN
        go_wp2_with ((with_reducible refine at_bi (b := .append) (xs := #[.tmp 33, .tmp 35]) rfl ?_); at_builtin; refine Hold.appendRow 0 H2.out rfl rfl (.tmp 33) (.tmp 35) 22 (.int .u8 0) 1 rfl Tryz.underlying22 info5 rfl (by omega) (sa) (bs.length) (sc) rfl rfl (HO2.out) Hl.out ?_; intro _ _ H3'; have H3 := Aside0.mk H3'; clear H3' H2)
        refine (newSym_any _ 5 _ bs hb2 hb3 H3.out).mono ?_
        rintro e w2 ⟨x, o, gp, rfl, h4⟩
        have H4 := Aside0.mk h4
        have H5 := Aside0.mk (h4.alloc_ (.cells #[kyV x] 58))
        obtain ⟨k1, _⟩ := h4.cell 1 rfl 1 (by simp)
        obtain ⟨k2, f2⟩ := h4.cell 2 rfl 0 (by simp)
        have HC1 := Aside0.mk (C1_lit (enc := kyV) (h1 := kyV_one) w2 58 w2.heap.size rfl [x] (by show 1 ≤ maxLen; decide))
        have Hm : Aside0 ((l.map Prod.fst).length + 1 ≤ maxLen ∧ ((l.map Prod.fst).length + 1) * 16 ≤ 140737488355328) := ⟨by rw [List.length_map]; simp only [maxLen]; omega, by rw [List.length_map]; omega⟩
        have HN3 := Aside0.mk (HN2.out x)
        rw [kyV_eq x]
        clear h4 H3 HO2 Hl HN2 he0 he1 he2
        go_wp2_with ((with_reducible refine at_bi (b := .append) (xs := #[.tmp 54, .tmp 56]) rfl ?_); at_builtin; refine Hold.slAppend (h1 := kyV_one) 3 H5.out rfl rfl (.tmp 54) (.tmp 56) 49 58 .nilIface 16 rfl Tryz.underlying49 infoKy rfl _ 1 1 rfl rfl HC1.out (by decide) Hm.out.1 Hm.out.2 ?_; intro v1 w3 H6'; have H6 := Aside0.mk H6'; clear H6'; obtain ⟨A1, c1, rfl, hle1⟩ := H6.out.slForm kyV_one 3 rfl (l.length + 1) (by simp); obtain ⟨c9, f9⟩ := H6.out.cell 2 rfl 0 (by simp); have H7 := Aside0.mk (MadeI.next0 HN3.out (H6.out.store 2 rfl 0 (.slice A1 (l.length + 1) c1))))
        go_roundw
        case rel => exact ⟨l.length + 1, hj1, by go_num, H7.out⟩
        case measure => simp [intOf]; omega
      | true =>
        have HN2 : Aside0 (∀ k, (l ++ [(k, some id)]).map Prod.snd = (kds.take (l.length + 1)).map idOf) := ⟨HN.out⟩
        clear HN
        go_wp2_with ((with_reducible refine at_bi (b := .append) (xs := #[.tmp 33, .tmp 35]) rfl ?_); at_builtin; refine Hold.appendRow 0 H2.out rfl rfl (.tmp 33) (.tmp 35) 22 (.int .u8 0) 1 rfl Tryz.underlying22 info5 rfl (by omega) (sa) (bs.length) (sc) rfl rfl (HO2.out) Hl.out ?_; intro _ _ H3'; have H3 := Aside0.mk H3'; clear H3' H2)
        refine (newSym_any _ 5 _ bs hb2 hb3 H3.out).mono ?_
        rintro e w2 ⟨x, o, gp, rfl, h4⟩
        have H4 := Aside0.mk h4
        obtain ⟨k1, _⟩ := h4.cell 1 rfl 1 (by simp)
        obtain ⟨k3, _⟩ := h4.cell 1 rfl 2 (by simp)
        have Hm : Aside0 ((l.map Prod.fst).length + 1 ≤ maxLen ∧ ((l.map Prod.fst).length + 1) * 16 ≤ 140737488355328) := ⟨by rw [List.length_map]; simp only [maxLen]; omega, by rw [List.length_map]; omega⟩
        have HN3 := Aside0.mk (HN2.out x)
        rw [kyV_eq x]
        clear h4 H3 HO2 Hl HN2 he0 he1 he2
        go_wp2_with fail
        refine (setKid_any w2 x gp _ _ id H4.out).mono ?_
        rintro e w4 ⟨gk, rfl, h4⟩
        have H4b := Aside0.mk h4
        have H5 := Aside0.mk (h4.alloc_ (.cells #[kyV x] 58))
        obtain ⟨k2, f2⟩ := h4.cell 3 rfl 0 (by simp)
        have HC1 := Aside0.mk (C1_lit (enc := kyV) (h1 := kyV_one) w4 58 w4.heap.size rfl [x] (by show 1 ≤ maxLen; decide))
        clear h4 H4 k1 k3
        go_wp2_with ((with_reducible refine at_bi (b := .append) (xs := #[.tmp 54, .tmp 56]) rfl ?_); at_builtin; refine Hold.slAppend (h1 := kyV_one) 4 H5.out rfl rfl (.tmp 54) (.tmp 56) 49 58 .nilIface 16 rfl Tryz.underlying49 infoKy rfl _ 1 1 rfl rfl HC1.out (by decide) Hm.out.1 Hm.out.2 ?_; intro v1 w3 H6'; have H6 := Aside0.mk H6'; clear H6'; obtain ⟨A1, c1, rfl, hle1⟩ := H6.out.slForm kyV_one 4 rfl (l.length + 1) (by simp); obtain ⟨c9, f9⟩ := H6.out.cell 3 rfl 0 (by simp); have H7 := Aside0.mk (MadeI.next1 HN3.out (H6.out.store 3 rfl 0 (.slice A1 (l.length + 1) c1))))
        go_roundw
        case rel => exact ⟨l.length + 1, hj1, by go_num, H7.out⟩
        case measure => simp [intOf]; omega
    · obtain rfl : j = kds.length := by omega
      obtain ⟨mv, l, hl, hH⟩ := hM.out
      rw [List.take_length] at hl
      obtain ⟨Am, cm, rfl, hcm⟩ := hH.slForm kyV_one 1 rfl l.length (by simp)
      have hll : l.length = kds.length := by
        have := congrArg List.length hl
        simpa using this
      have HM := Aside0.mk hH
      have HLs := Aside0.mk hl
      have HLl := Aside0.mk hll
      have hmf : ∀ (fn : Fn) (first cap : Array Value) (w : World), (Instr.makeFunc fn first cap).run Tryz.prog w = .ok (.func fn first cap) w := fun _ _ _ _ => rfl
      clear hM hH hl hll HO HK H0 hj hlt
      go_wp2_with fail
      refine (NewSet_any wr).mono ?_
      rintro e w1 ⟨gs, gm, rfl, h1⟩
      have H2 : Aside0 (RunI w w.heap.size (.slice Am l.length cm) kds sts l 0 (.iface 83 (.pointer (some ⟨gs, 0, none⟩))) (.slice none 0 0) w1) := ⟨RunI.start HM.out h1⟩
      clear h1 HM
      have hml : m ≤ 9223372036854775807 := by omega
      go_wp2
      go_loopw [11, 12, 63] (fun sv ov i wr => ∃ j : Nat, j ≤ m ∧ i = .int .i64 j ∧ RunI w w.heap.size (.slice Am l.length cm) kds sts l j sv ov wr) (fun _ _ i _ => m - (intOf i).toNat)
      case atStart => exact ⟨0, Nat.zero_le _, rfl, H2.out⟩
      case round =>
        obtain ⟨j, hj, rfl, hM⟩ := hrel
        by_cases hlt : j < m
        · have hjs : j < sts.length := by rw [HS.out.1]; exact hlt
          obtain ⟨ad, rfl, hcell⟩ := flat_get HS.out j hjs
          obtain ⟨T, hT, hSet⟩ := hM.out
          obtain ⟨gs2, gm2, kv, n2, D, rfl, hD, hn2, hns, hks, hkb, hH⟩ := hSet.out
          have hb := hH.below
          have he0 : wr.cell? (ad.add (j * 5)) = some (.int .i64 (sts[j].1 : Int)) := below_cell hb (hcell 0 _ rfl)
          have he1 : wr.cell? ⟨(ad.add (j * 5)).block, (ad.add (j * 5)).off + 1, none⟩ = some (.int .i64 (sts[j].2.1 : Int)) := below_cell hb (hcell 1 _ rfl)
          have he2 : wr.cell? ⟨(ad.add (j * 5)).block, (ad.add (j * 5)).off + 2, none⟩ = some (.int .i64 sts[j].2.2.1) := below_cell hb (hcell 2 _ rfl)
          have he3 : wr.cell? ⟨(ad.add (j * 5)).block, (ad.add (j * 5)).off + 3, none⟩ = some (.string sts[j].2.2.2.1) := below_cell hb (hcell 3 _ rfl)
          have he4 : wr.cell? ⟨(ad.add (j * 5)).block, (ad.add (j * 5)).off + 4, none⟩ = some (.string sts[j].2.2.2.2) := below_cell hb (hcell 4 _ rfl)
          have hstep := runF_snoc (kdOf kds) sts[j] (sts.take j) ⟨[], []⟩
          rw [← List.take_succ_eq_append_getElem hjs, ← hT] at hstep
          have HStep := Aside0.mk hstep
          have hok := HSt.out sts[j] (List.getElem_mem hjs)
          have hK1 := hok.key
          have HOk := Aside0.mk hok
          have H1' := (hH.alloc (.cells #[.int .i64 (sts[j].1 : Int), .int .i64 (sts[j].2.1 : Int), .int .i64 sts[j].2.2.1, .string sts[j].2.2.2.1, .string sts[j].2.2.2.2] 32)).alloc (.cells #[.bool true, .int .i64 (-1), .int .i64 (-1), .int .i64 0, .slice none 0 0, .slice none 0 0] 37)
          rw [World.size_alloc] at H1'
          obtain ⟨k5, _⟩ := H1'.cell 5 rfl 0 (by simp)
          obtain ⟨q1, _⟩ := H1'.cell 1 rfl 1 (by simp)
          have H1 := Aside0.mk H1'
          have HD := Aside0.mk (And.intro hD (And.intro hn2 (And.intro hns (And.intro hks hkb))))
          clear hcell hM hSet hH H1' hD hn2 hns hks hkb hT hstep hok hb
          generalize sts[j] = x at *
          obtain ⟨kd, ky, at', id, tx⟩ := x
          have hj1 : j + 1 ≤ m := hlt
          have hK2 : (ky : Int) < (l.length : Int) := by rw [HLl.out]; exact_mod_cast hK1
          simp only at he0 he1 he2 he3 he4 k5 q1
          go_upto_block 4 with (fail)
          have H4 : Aside0 (Hold w w.heap.size ((wr.alloc (.cells #[.int .i64 (kd : Int), .int .i64 (ky : Int), .int .i64 at', .string id, .string tx] 32)).alloc (.cells #[.bool true, .int .i64 (-1), .int .i64 (-1), .int .i64 0, .slice none 0 0, .slice none 0 0] 37)) (.blk gs2 (.cells #[kv, .map (some gm2)] 95) :: .sl kyV kv ((runS (kdOf kds) (sts.take j) ⟨[], []⟩).ks.map (blkAt l)) :: .hm gm2 n2 D :: Mid (wr.heap.size + 1) wr.heap.size w.heap.size (kd, ky, at', id, tx) true (-1) (-1) (.slice Am l.length cm) l T u12)) := ⟨Hold.pickA (M := [_, _, _, _, _]) (H1.out : Hold w w.heap.size _ ([_, _, _, _, _] ++ _)) [2, 3, 4, 0, 1] (by decide) (by simp) (M' := [_, _, _, _, _]) rfl⟩
          clear H1 he0 he1 he2 he3 he4 k5 q1
          generalize World.alloc (wr.alloc _) _ = wx at *
          generalize wr.heap.size = gst at *
          generalize hS0 : runS (kdOf kds) (sts.take j) ⟨[], []⟩ = s0 at *
          go_cut [11, 17, 18, 19, 20, 21, 22] from 64 to 249 (fun sv _ _ _ _ _ _ wy => SwI w (stepF (kdOf kds) s0 (kd, ky, at', id, tx)) j (gst + 1) gst w.heap.size (kd, ky, at', id, tx) (.slice Am l.length cm) l T u12 sv wy)
          case first =>
            have hkd := HOk.out.kind
            have hid := HOk.out.id
            simp only at hkd hid
            rename_i hJJ hKK
            by_cases h0 : kd = 0
            · subst h0
              exact sw0 hm hj1 hK2 hid HLs HD H4 hJJ hKK
            by_cases h1 : kd = 1
            · subst h1
              exact sw1 hm hj1 hK2 hid HLs HD H4 hJJ hKK
            by_cases h2 : kd = 2
            · subst h2
              exact sw2 hm hj1 hK2 hid HLs HD H4 hJJ hKK
            by_cases h3 : kd = 3
            · subst h3
              exact sw3 hm hj1 hK2 hid HLs HD H4 hJJ hKK
            by_cases h4 : kd = 4
            · subst h4
              exact sw4 hm hj1 hK2 hid HLs HD H4 hJJ hKK
            by_cases h5 : kd = 5
            · subst h5
              exact sw5 hm hj1 hK2 hid HLs HD H4 hJJ hKK
            by_cases h6 : kd = 6
            · subst h6
              exact sw6 hm hj1 hK2 hid HLs HD H4 hJJ hKK
            by_cases h7 : kd = 7
            · subst h7
              exact sw7 hm hj1 hK2 hid HLs HD H4 hJJ hKK
            by_cases h8 : kd = 8
            · subst h8
              exact sw8 hm hj1 hK2 hid HLs HD H4 hJJ hKK
            exfalso
            omega
          case rest =>
            obtain ⟨gs3, gm3, kv3, n3, D3, rfl, hD3, hn3, hns3, hks3, hkb3, hH3⟩ := hcut.out
            have HST := HStep.out
            generalize stepF (kdOf kds) s0 (kd, ky, at', id, tx) = r3 at *
            obtain ⟨⟨ks3, ns3⟩, ok3, ix3, fd3⟩ := r3
            have hns3' : ns3.length ≤ j + 1 := hns3
            have hks3' : ks3.length ≤ j + 1 := hks3
            have HSTA := Aside0.mk HST
            clear HST
            have HB3 := Aside0.mk (And.intro hD3 (And.intro hn3 hkb3))
            have H3 : Aside0 (Hold w w.heap.size wc (.blk gs3 (.cells #[kv3, .map (some gm3)] 95) :: .sl kyV kv3 (ks3.map (blkAt l)) :: .hm gm3 n3 D3 :: Mid (gst + 1) gst w.heap.size (kd, ky, at', id, tx) ok3 ix3 fd3 (.slice Am l.length cm) l T u12)) := ⟨hH3⟩
            clear hcut hH3 H4 HD hS0 HStep hns3 hks3 hD3 hn3 hkb3
            go_wp2_with fail
            refine (setKeys_any wc gs3 gm3 n3 kv3 _ D3 ns3 HB3.out.1 (by omega) H3.out).mono ?_
            rintro e wk ⟨vk, lk, rfl, hperm, hsz, h1⟩
            obtain ⟨Ak, ck, rfl, hck⟩ := h1.rowForm 0 rfl lk.length rfl
            have HP := Aside0.mk hperm
            have HK1 := Aside0.mk h1
            clear hperm hsz h1 H3
            go_wp2_with fail
            refine (values_any wk Ak lk.length ck HK1.out).mono ?_
            rintro e wv ⟨Bs, rfl, h2⟩
            have HK2 := Aside0.mk h2
            clear h2 HK1
            go_wp2_with fail
            refine (sorted_any wv Bs _ lk (by rw [HP.out.length_eq]; omega) HK2.out).mono ?_
            rintro e ws ⟨nv, rfl, h3⟩
            rw [sortN_perm HP.out] at h3
            obtain ⟨An, cn, rfl, _⟩ := h3.slForm (fun _ => rfl) 0 rfl (sortN ns3).length rfl
            obtain ⟨k5, f5⟩ := h3.cell 4 rfl 5 (by simp)
            have h4 := (h3.store 4 rfl 5 (.slice An (sortN ns3).length cn)).slNil iV
            have HR : Aside0 (RdP (⟨gs3, gm3, n3, D3, gst + 1, gst, w.heap.size, (kd, ky, at', id, tx), ok3, ix3, fd3, .slice An (sortN ns3).length cn, .slice Am l.length cm, u12, kv3, l, sortN ns3, T, ks3⟩ : RdC) w 0 (.slice none 0 0) (.slice none 0 0) [] (ws.setCell ⟨gst + 1, 5, none⟩ (.slice An (sortN ns3).length cn))) := ⟨Hold.pickA (M := [_, _, _, _, _, _, _, _, _, _]) (h4 : Hold w w.heap.size _ ([_, _, _, _, _, _, _, _, _, _] ++ _)) [2, 3, 4, 5, 0, 6, 7, 8, 9, 1] (by decide) (by simp) (M' := [_, _, _, _, _, _, _, _, _, _]) rfl⟩
            clear h3 h4 HK2 HP
            obtain ⟨m3, hm3⟩ : ∃ m3, ks3.length = m3 := ⟨_, rfl⟩
            go_wp2_with fail
            clear k5 f5
            generalize World.setCell ws _ _ = wp at *
            refine (HR.out.len hm3).mono ?_
            rintro e w6 ⟨rfl, rfl⟩
            have c3 := HR.out.sn.1.2.2.2.1
            have f3 := HR.out.sn.2.1
            simp only at c3 f3
            have HR2 : Aside0 (RdI (⟨gs3, gm3, n3, D3, gst + 1, gst, w.heap.size, (kd, ky, at', id, tx), ok3, ix3, fd3, .slice An (sortN ns3).length cn, .slice Am l.length cm, u12, kv3, l, sortN ns3, T, ks3⟩ : RdC) w (m3 : Int) 0 _) := ⟨⟨_, HR.out.ln_ (m3 : Int)⟩⟩
            clear HR
            have hm9 : m3 ≤ 9223372036854775807 := by omega
            go_wp2
            go_loopw [23] (fun i wr => ∃ j2 : Nat, j2 ≤ m3 ∧ i = .int .i64 j2 ∧ RdI (⟨gs3, gm3, n3, D3, gst + 1, gst, w.heap.size, (kd, ky, at', id, tx), ok3, ix3, fd3, .slice An (sortN ns3).length cn, .slice Am l.length cm, u12, kv3, l, sortN ns3, T, ks3⟩ : RdC) w (m3 : Int) j2 wr) (fun i _ => m3 - (intOf i).toNat)
            case atStart => exact ⟨0, Nat.zero_le _, rfl, HR2.out⟩
            case round =>
              rename_i wr0
              obtain ⟨j2, hj2, rfl, hI⟩ := hrel
              obtain ⟨av, hI⟩ := hI.out
              have HI := Aside0.mk hI
              clear hI HR2 c3 f3
              go_wp2_with fail
              refine (HI.out.len hm3).mono ?_
              rintro e w7 ⟨rfl, rfl⟩
              by_cases hlt : j2 < m3
              · obtain ⟨k1, hk1⟩ : ∃ k1, ks3[j2]'(by omega) = k1 := ⟨_, rfl⟩
                have hkn : k1 < l.length := HB3.out.2.2 k1 (by rw [← hk1]; exact List.getElem_mem _)
                obtain ⟨kb, hkb⟩ : ∃ kb, blkAt l k1 = kb := ⟨_, rfl⟩
                have hget : ks3[j2]? = some k1 := by rw [List.getElem?_eq_getElem (by omega), hk1]
                have HTk : Aside0 (ks3.take (j2 + 1) = ks3.take j2 ++ [k1]) := ⟨by rw [List.take_succ_eq_append_getElem (by omega), hk1]⟩
                have hxl : (ks3.take j2).length ≤ 1000000 := by rw [List.length_take]; omega
                have HKey := Aside0.mk (HI.out.key hget hkb)
                obtain ⟨Aa, ca, rfl⟩ := HI.out.form
                generalize hma : (List.take j2 ks3).length = ma at *
                clear hget hk1
                go_wp2_with fail
                refine HKey.out.mono ?_
                rintro e w8 ⟨rfl, rfl⟩
                clear HKey
                go_upto_region 52 with (fail)
                have H0 : Aside0 (RdW (⟨gs3, gm3, n3, D3, gst + 1, gst, w.heap.size, (kd, ky, at', id, tx), ok3, ix3, fd3, .slice An (sortN ns3).length cn, .slice Am l.length cm, u12, kv3, l, sortN ns3, T, ks3⟩ : RdC) w (m3 : Int) (.slice Aa ma ca) (ks3.take j2) k1 0 (undef, undef) (World.drew w8)) := ⟨⟨fun _ => HI.out.drew, fun e => absurd e (by decide), fun e => absurd e (by decide)⟩⟩
                have HA : Aside0 True := ⟨trivial⟩
                clear HI
                refine wp_region_any (by kernel_rfl) ?_
                change wpAny _ _ _ _ _ _ _ (World.drew _)
                refine region_chainS _ _ [237, 238, 239, 240, 241, 242, 243, 244] (kr52Val gst w.heap.size kb k1 Aa ma ca) kr52Dp (fun _ => []) [5, 6] (RdW (⟨gs3, gm3, n3, D3, gst + 1, gst, w.heap.size, (kd, ky, at', id, tx), ok3, ix3, fd3, .slice An (sortN ns3).length cn, .slice Am l.length cm, u12, kv3, l, sortN ns3, T, ks3⟩ : RdC) w (m3 : Int) (.slice Aa ma ca) (ks3.take j2) k1) (by kernel_rfl) (by kernel_rfl) (by kernel_rfl) (by kernel_rfl) ((undef, undef)) ?_ ?_
                case' refine_1 => exact H0.out
                refine StepsS.quiet (by decide) (fun k t a wc hI hc hp hr K hK => ?_) ?_
                · -- slot 237
                  have q15 : a.tmps[15]?.getD undef = .pointer (some ⟨gst + 1, 0, none⟩) := ev_get (hc 15 (by decide))
                  have HI := Aside0.mk hI
                  clear hp hc hr hI
                  go_simp
                  exact hK _ HI.out
                refine StepsS.quiet (by decide) (fun k t a wc hI hc hp hr K hK => ?_) ?_
                · -- slot 238
                  have q237 : a.tmps[237]?.getD undef = .pointer (some ⟨gst + 1, 4, none⟩) := ev_get (hp (0, 237) (by simp [kr52Dp]))
                  have HI := Aside0.mk hI
                  clear hp hc hr hI
                  have b0 := HI.out.f
                  go_simp
                  exact hK _ HI.out
                refine StepsS.quiet (by decide) (fun k t a wc hI hc hp hr K hK => ?_) ?_
                · -- slot 239
                  have q10 : a.tmps[10]?.getD undef = .func (.func 16) #[] #[.pointer (some ⟨w.heap.size, 0, none⟩)] := ev_get (hc 10 (by decide))
                  have HI := Aside0.mk hI
                  clear hp hc hr hI
                  go_simp
                  exact hK _ HI.out
                refine StepsS.quiet (by decide) (fun k t a wc hI hc hp hr K hK => ?_) ?_
                · -- slot 240
                  have q24 : a.tmps[24]?.getD undef = .iface 81 (.pointer (some ⟨kb, 0, none⟩)) := ev_get (hc 24 (by decide))
                  have HI := Aside0.mk hI
                  clear hp hc hr hI
                  go_simp
                  exact hK _ HI.out
                refine StepsS.quiet (by decide) (fun k t a wc hI hc hp hr K hK => ?_) ?_
                · -- slot 241
                  have q239 : a.tmps[239]?.getD undef = .func (.func 16) #[] #[.pointer (some ⟨w.heap.size, 0, none⟩)] := ev_get (hp (2, 239) (by simp [kr52Dp]))
                  have q240 : a.tmps[240]?.getD undef = .iface 81 (.pointer (some ⟨kb, 0, none⟩)) := ev_get (hp (3, 240) (by simp [kr52Dp]))
                  have HI := Aside0.mk hI
                  clear hp hc hr hI
                  go_simp
                  refine (HI.out.at' hkb hkn).mono ?_
                  rintro e w9 ⟨rfl, rfl⟩
                  exact hK _ HI.out
                refine StepsS.call 0 rfl (fun t a wc hI hc hp hr K hK => ?_) ?_
                · -- slot 242
                  have q241 : a.tmps[241]?.getD undef = .int .i64 (k1 : Int) := ev_get (hp (4, 241) (by simp [kr52Dp]))
                  have HI := Aside0.mk hI
                  clear hp hc hr hI
                  go_simp
                  exact hK (.slice (some ⟨wc.heap.size, 0, none⟩) 1 1, t.2) _ ⟨fun _ => (HI.out.at0 (by decide)).alloc_ _, fun _ => ⟨_, rfl, C1_lit (enc := iV) (h1 := iV_one) wc 3 wc.heap.size rfl [k1] (by show 1 ≤ maxLen; decide)⟩, fun h => absurd h (by decide)⟩ (fun d hd => kr52Val_ne1 _ _ _ _ _ _ _ _ _ d hd)
                refine StepsS.call 1 rfl (fun t a wc hI hc hp hr K hK => ?_) ?_
                · -- slot 243
                  have q238 : a.tmps[238]?.getD undef = .slice Aa ma ca := ev_get (hp (1, 238) (by simp [kr52Dp]))
                  have q242 : a.tmps[242]?.getD undef = t.1 := ev_get (hp (5, 242) (by simp [kr52Dp]))
                  have HI := Aside0.mk hI
                  clear hp hc hr hI
                  obtain ⟨g1, hg1, hC1⟩ := HI.out.at1 rfl
                  rw [hg1] at q242
                  obtain ⟨v1, w9, hrun, h9⟩ := (HI.out.at0 (by decide)).app hC1 (by rw [hma]; exact hxl)
                  rw [if_pos (by rfl)]
                  exact wp_append rfl rfl (get_ev q238) (get_ev q242) hrun (hK (t.1, v1) w9 ⟨fun h => absurd h (by decide), fun h => absurd h (by decide), fun _ => h9⟩ (fun d hd => kr52Val_ne2 _ _ _ _ _ _ _ _ _ d hd))
                refine StepsS.quiet (by decide) (fun k t a wc hI hc hp hr K hK => ?_) ?_
                · -- slot 244
                  have q15 : a.tmps[15]?.getD undef = .pointer (some ⟨gst + 1, 0, none⟩) := ev_get (hc 15 (by decide))
                  have HI := Aside0.mk hI
                  clear hp hc hr hI
                  go_simp
                  exact hK _ HI.out
                refine StepsS.fin (fun _ wq => RdI (⟨gs3, gm3, n3, D3, gst + 1, gst, w.heap.size, (kd, ky, at', id, tx), ok3, ix3, fd3, .slice An (sortN ns3).length cn, .slice Am l.length cm, u12, kv3, l, sortN ns3, T, ks3⟩ : RdC) w (m3 : Int) (j2 + 1) wq) (by kernel_rfl) (fun t wc a hI hc hp K hK => ?_) (fun t wc hJ => ?_)
                · -- the last one
                  have q243 : a.tmps[243]?.getD undef = t.2 := ev_get (hp 243 (by decide))
                  have q244 : a.tmps[244]?.getD undef = .pointer (some ⟨gst + 1, 4, none⟩) := ev_get (hp 244 (by decide))
                  clear hp hc
                  have hP := hI.at2 (by decide)
                  obtain ⟨A9, c9, e9⟩ := hP.form
                  have c4 := hP.sn.1.2.2.2.2.1
                  have f4 := hP.sn.2.2
                  have hJ1 : RdI (⟨gs3, gm3, n3, D3, gst + 1, gst, w.heap.size, (kd, ky, at', id, tx), ok3, ix3, fd3, .slice An (sortN ns3).length cn, .slice Am l.length cm, u12, kv3, l, sortN ns3, T, ks3⟩ : RdC) w (m3 : Int) (j2 + 1) (wc.setCell ⟨gst + 1, 4, none⟩ t.2) := ⟨t.2, by rw [HTk.out]; exact hP.bv_ _⟩
                  have hl9 : (List.take j2 ks3 ++ [k1]).length = ma + 1 := by rw [List.length_append, hma]; rfl
                  rw [hl9] at e9
                  rw [e9] at q243 hJ1
                  have HJ1 := Aside0.mk hJ1
                  clear hP hI HA hJ1 hl9 e9
                  go_simp
                  exact hK _ HJ1.out
                · -- and what follows
                  simp only [ov, List.foldl_cons, List.foldl_nil, Act.put, List.setIfInBounds_toArray, List.set_cons_succ, List.set_cons_zero, kr52Val]
                  have H5 := Aside0.mk hJ
                  clear hJ HA
                  go_wp2_with fail
                  go_roundw
                  case rel => exact ⟨j2 + 1, hlt, by go_num, H5.out⟩
                  case measure => simp [intOf]; omega
              · obtain rfl : j2 = m3 := by omega
                have HI2 : RdP (⟨gs3, gm3, n3, D3, gst + 1, gst, w.heap.size, (kd, ky, at', id, tx), ok3, ix3, fd3, .slice An (sortN ns3).length cn, .slice Am l.length cm, u12, kv3, l, sortN ns3, T, ks3⟩ : RdC) w (j2 : Int) av av ks3 w7 := by
                  have h := HI.out
                  rw [List.take_of_length_le (by omega)] at h
                  exact h
                obtain ⟨Aa, ca, rfl⟩ := HI2.form
                simp only [hm3] at HI2
                obtain ⟨⟨e0, e1, e2, e3, e4, e5⟩, _, _⟩ := HI2.sn
                simp only at e0 e1 e2 e3 e4 e5
                have HTl : Aside0 ((T.length + 1) * 80 ≤ 140737488355328) := ⟨by
                  have h := congrArg List.length HSTA.out.1
                  rw [runF_length, List.length_append, List.length_map, List.length_take] at h
                  simp at h
                  omega⟩
                have HF : Aside0 (Hold w w.heap.size w7 (RdC.L (⟨gs3, gm3, n3, D3, gst + 1, gst, w.heap.size, (kd, ky, at', id, tx), ok3, ix3, fd3, .slice An (sortN ns3).length cn, .slice Am l.length cm, u12, kv3, l, sortN ns3, T, ks3⟩ : RdC) (j2 : Int) (.slice Aa j2 ca) (.slice Aa j2 ca) ks3)) := ⟨HI2⟩
                clear HI HI2
                go_wp2_with ((with_reducible refine at_bi (b := .append) (xs := #[.tmp 245, .tmp 247]) rfl ?_); at_builtin; refine Hold.append1 kSn 10 HF.out rfl rfl (.tmp 245) (.tmp 247) 33 (.agg #[.bool false, .int .i64 0, .int .i64 0, .int .i64 0, .slice none 0 0, .slice none 0 0]) 80 rfl Tryz.underlying33 info37 rfl (by decide) (by omega) (⟨ok3, ix3, fd3, j2, ks3, sortN ns3⟩, (Aa, j2, ca), (An, (sortN ns3).length, cn)) [.bool ok3, .int .i64 ix3, .int .i64 fd3, .int .i64 (j2 : Int), .slice Aa j2 ca, .slice An (sortN ns3).length cn] rfl rfl rfl HTl.out ?_; intro v1 wz H9'; have H9 := Aside0.mk H9'; clear H9')
                go_roundw
                case rel =>
                  refine ⟨j + 1, hj1, by go_num, RunI.next (c := (⟨gs3, gm3, n3, D3, gst + 1, gst, w.heap.size, (kd, ky, at', id, tx), ok3, ix3, fd3, .slice An (sortN ns3).length cn, .slice Am l.length cm, u12, kv3, l, sortN ns3, T, ks3⟩ : RdC)) (ns := ns3) H9.out rfl rfl ?_ HSTA.out.2 HB3.out.1 HB3.out.2.1 hns3' hks3' HB3.out.2.2⟩
                  rw [HSTA.out.1, List.map_append]
                  show _ = _ ++ [(⟨ok3, ix3, fd3, ks3.length, ks3, sortN ns3⟩ : KSn)]
                  rw [hm3]
                  rfl
                case measure => simp [intOf]; omega
        · obtain rfl : j = m := by omega
          obtain ⟨T, hT, hSet⟩ := hM.out
          obtain ⟨gs2, gm2, kv, n2, D, rfl, _, _, _, _, _, hH⟩ := hSet.out
          have HT := Aside0.mk hT
          have HH : Aside0 (Hold w w.heap.size wr (RunH T u12)) := ⟨Hold.pickA (M := [_, _, _, _, _, _, _, _, _]) (hH : Hold w w.heap.size wr ([_, _, _, _, _, _, _, _, _] ++ [])) [6, 7, 8] (by decide) (by simp) (M' := [_, _, _]) rfl⟩
          clear hM hT hSet hH
          go_wp2
          go_ret
          refine ⟨u12, T, rfl, ?_, HH.out⟩
          have h := HT.out
          rw [List.take_of_length_le (by rw [HS.out.1]; exact Nat.le_refl _)] at h
          exact h
end Go.Proofs.YtpcbmjphffpplaaGreatDoor
