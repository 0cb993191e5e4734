/-
  fastjson's unescapeStringBestEffort: its contract, for texts whose escapes are well formed. Printed by ungen.py.
-/
import Derived.Test.YtgldcjmdjhghpaaGreatDoorQh
namespace Go.Proofs.YtgldcjmdjhghpaaGreatDoor
open Go.RowKit Go.Proofs.YtgldcjmdjhghpaaGreatDoorW.PrintWords Go.ChangeShapes Go.WideShapes
set_option linter.unusedVariables false
set_option linter.unusedSimpArgs false
set_option maxRecDepth 100000
theorem cut92 (p r : Bs) : (bStr (p ++ 92 :: r)).extract (p.length + 1) (bStr (p ++ 92 :: r)).size = bStr r ∧ (bStr (p ++ 92 :: r)).extract 0 p.length = bStr p ∧ (bStr (p ++ 92 :: r)).size = p.length + 1 + r.length := by
  refine ⟨?_, ?_, ?_⟩
  · rw [bStr_drop, show p ++ 92 :: r = (p ++ [92]) ++ r by simp, List.drop_left' (by simp)]
  · rw [bStr_take, List.take_left' rfl]
  · rw [bStr_size]; simp; omega
theorem lit1 (w : World) (o : UInt8) (j : Nat) (u : UInt8) (h : [o][j]? = some u) : (w.alloc (.cells #[.int .u8 (o.toNat : Int)] 5)).cell? ⟨w.heap.size, j, none⟩ = some (bV u) := by
  rw [World.cell?_alloc_new]
  cases j with
  | zero =>
    obtain rfl : o = u := by simpa using h
    rfl
  | succ j => simp at h
set_option maxHeartbeats 32000000 in
theorem unescBE_any (s : Bs) (w : World) (hs : s.length ≤ 900000000000) (hw : Well s) :
    Calls Tryz.prog 49 #[.string (bStr s)] w fun e w' => e = .returned (.string (bStr (unesc s))) ∧ Below w.heap.size w w' := by
  rcases well_cases s hw with ⟨h92, hU⟩ | ⟨p, r, n0, rfl, h92, hwb, hU⟩
  · rw [hU]
    have HI := Aside0.mk (idx92_no s w h92)
    obtain ⟨t, ht⟩ : ∃ t, t = bStr s := ⟨_, rfl⟩
    rw [← ht] at HI ⊢
    clear ht h92 hU hw hs
    go_enter Tryz.func49, Tryz.ntmps49
    go_wp2_with fail
    refine HI.out.mono ?_
    rintro e w1 ⟨rfl, rfl⟩
    go_wp2
    go_ret
    exact ⟨rfl, Below.refl _ _⟩
  · obtain ⟨target, htg⟩ : ∃ x, x = unesc (p ++ 92 :: r) := ⟨_, rfl⟩
    rw [← htg] at hU ⊢
    have HI := Aside0.mk (idx92_at p r w h92)
    have HS := Aside0.mk (s2b_any w (p ++ 92 :: r) (by omega))
    obtain ⟨c1, c2, c3⟩ := cut92 p r
    have hsz : (p ++ 92 :: r).length = p.length + 1 + r.length := by simp; omega
    have htk : (p ++ 92 :: r).take p.length = p := List.take_left' rfl
    obtain ⟨S, hS⟩ : ∃ S, S = p ++ 92 :: r := ⟨_, rfl⟩
    rw [← hS] at HI HS c1 c2 c3 hsz htk hs ⊢
    obtain ⟨t, ht⟩ : ∃ t, t = bStr S := ⟨_, rfl⟩
    rw [← ht] at HI HS c1 c2 c3 ⊢
    obtain ⟨k, hk⟩ : ∃ k, k = p.length := ⟨_, rfl⟩
    rw [← hk] at HI c1 c2 c3 hsz htk
    obtain ⟨L, hL⟩ : ∃ L, L = S.length := ⟨_, rfl⟩
    rw [← hL] at HS hsz hs
    have HX := Aside0.mk c1
    have HW := Aside0.mk (And.intro hwb hU)
    have HK := Aside0.mk (And.intro hk htk)
    have HN : Aside0 (p.length + r.length ≤ 900000000000) := ⟨by omega⟩
    have b1 : t.size ≤ 900000000000 := by omega
    have b2 : k < t.size := by omega
    have hkL : k ≤ L := by omega
    have HLL := Aside0.mk hL
    clear hwb hU hk htk c1 c2 c3 hS ht htg h92 hw hsz hs hL
    go_enter Tryz.func49, Tryz.ntmps49
    go_wp2_with fail
    refine HI.out.mono ?_
    rintro e w1 ⟨rfl, rfl⟩
    go_wp2_with fail
    refine HS.out.mono ?_
    rintro e w1 ⟨g, cap, rfl, hB, hb⟩
    have hkc : k ≤ cap := by have := hB.len; rw [← HLL.out] at this; omega
    have hcm : cap ≤ 9223372036854775807 := hB.cm
    have HB := Aside0.mk (hB.take k)
    rw [HK.out.2] at HB
    have Hb := Aside0.mk hb
    clear hB hb
    go_wp2
    go_loopw [0, 4] (fun sv bv wr => ∃ (n : Nat) (acc s1 : Bs) (g cap : Nat), sv = .string (bStr s1) ∧ bv = .slice (some ⟨g, 0, none⟩) acc.length cap ∧ wellB n s1 = true ∧ target = acc ++ unescB n s1 ∧ acc.length + s1.length ≤ 900000000000 ∧ BufAt w.heap.size wr g cap acc ∧ Below w.heap.size w wr) (fun sv _ _ => szOf sv)
    case atStart => exact ⟨n0, p, r, g, cap, by rw [HX.out], by rw [HK.out.1], HW.out.1, HW.out.2, HN.out, HB.out, Hb.out⟩
    case round =>
      clear HB Hb HX HK HW HN HI HS HLL b1 b2 hkL hkc hcm
      obtain ⟨n, acc, s1, g, cap, rfl, rfl, hwb, hT, hLe, hB, hb⟩ := hrel
      obtain ⟨l1, hl1⟩ : ∃ l, l = acc.length := ⟨_, rfl⟩
      cases s1 with
      | nil =>
        rw [bStr_nil]
        have HTg : Aside0 (target = acc) := ⟨wellB_nil hT⟩
        have HC := Aside0.mk (b2s_any wr _ _ cap acc hB.C)
        have Hb := Aside0.mk hb
        rw [← hl1] at HC ⊢
        clear hwb hT hLe hB hb hl1
        go_wp2_with fail
        refine HC.out.mono ?_
        rintro e w2 ⟨rfl, rfl⟩
        go_wp2
        go_ret
        exact ⟨by rw [HTg.out]; rfl, Hb.out⟩
      | cons c r =>
        obtain ⟨hok, m, hwt, hT2⟩ := wellB_cons hwb hT
        have T := tcons c r
        have hsz : (bStr (c :: r)).size = r.length + 1 := bStr_size _
        have hLe2 : acc.length + (r.length + 1) ≤ 900000000000 := hLe
        obtain ⟨t1, ht1⟩ : ∃ t, t = bStr (c :: r) := ⟨_, rfl⟩
        rw [← ht1] at T hsz ⊢
        obtain ⟨-, tp, tn, tz, t0, tt⟩ := T
        have t0 := t0 tp
        have tb : t1.size ≤ 900000000000 := by omega
        have tb1 : 1 ≤ t1.size := by omega
        have HTT := Aside0.mk tt
        have HSz := Aside0.mk hsz
        clear tt ht1 hsz hwb hT hLe
        rcases esc_is hok with ⟨o, h, he⟩ | ⟨d, q, hr, h4, hx, hsn, he⟩ | ⟨d, e4, q, hr, h4, hx, hsn, h4', hx', g1, g2, g3, g5, he⟩
        · rw [he] at hwt hT2
          replace hwt : wellT m r = true := hwt
          replace hT2 : target = acc ++ [o] ++ unescT m r := hT2
          have HTC := Aside0.mk (tail_cases hwt hT2)
          have hBA := hB.on ((Below.refl wr.heap.size wr).alloc (Nat.le_refl _) (.cells #[.int .u8 (o.toNat : Int)] 5))
          obtain ⟨g2, cap2, w2, hrun1, hB2, hb2⟩ := buf_lit hBA 30 wr.heap.size 1 [o] (lit1 wr o) (by simp) (by simp; omega) (by have := hb.size; simp; omega)
          have HBL := Aside0.mk ((hb.alloc hb.size (.cells #[.int .u8 (o.toNat : Int)] 5)).trans hb2)
          have HB2 := Aside0.mk hB2
          obtain ⟨ur, hu⟩ : ∃ u, u = bStr r := ⟨_, rfl⟩
          rw [← hu] at HTT
          have HUR := Aside0.mk hu
          obtain ⟨l2, hl2⟩ : ∃ l, l = (acc ++ [o]).length := ⟨_, rfl⟩
          rw [← hl2] at hrun1
          rw [← hl1] at hrun1 ⊢
          have HL2 := Aside0.mk hl2
          have HLE : Aside0 ((acc ++ [o]).length + r.length ≤ 900000000000) := ⟨by simp; omega⟩
          have HM : Aside0 (r.length < t1.size) := ⟨by have := HSz.out; omega⟩
          clear hwt hT2 hBA hB2 hb2 hu hl2 hl1 hb hB hok he hLe2
          rcases h with ⟨rfl, rfl⟩ | ⟨rfl, rfl⟩ | ⟨rfl, rfl⟩ | ⟨rfl, rfl⟩ | ⟨rfl, rfl⟩ | ⟨rfl, rfl⟩ | ⟨rfl, rfl⟩ | ⟨rfl, rfl⟩
          · have HR1 : Aside0 ((Builtin.append_ #[30, 30] 30 #[.slice (some ⟨g, 0, none⟩) l1 cap, .slice (some ⟨wr.heap.size, 0, none⟩) 1 1]).run Tryz.prog (wr.alloc (.cells #[.int .u8 34] 5)) = .ok (.slice (some ⟨g2, 0, none⟩) l2 cap2) w2) := ⟨hrun1⟩
            clear hrun1
            go_wp2_with ((with_reducible refine at_bi (b := .append) (xs := #[.tmp 39, .tmp 40]) rfl ?_); at_builtin; refine wpList_append_run rfl (.tmp 39) (.tmp 40) 30 30 rfl _ _ _ rfl rfl HR1.out ?_)
            rw [HTT.out]
            rcases HTC.out with ⟨h92, hF⟩ | ⟨p2, r2, m2, hre, h92, hw2, hF⟩
            · obtain ⟨g3, cap3, w3, hrun2, hB3, hb3⟩ := buf_str HB2.out 30 (r) (by have := HLE.out; omega) HBL.out.size
              have HI := Aside0.mk (fun w => idx92_no (r) w h92)
              rw [← HUR.out] at hrun2 HI
              have HC := Aside0.mk (b2s_any w3 _ _ cap3 _ hB3.C)
              have Hb3 := Aside0.mk (HBL.out.trans hb3)
              have HF := Aside0.mk (show bStr target = bStr ((acc ++ [34]) ++ (r)) by rw [hF])
              obtain ⟨l3, hl3⟩ : ∃ l, l = ((acc ++ [34]) ++ (r)).length := ⟨_, rfl⟩
              rw [← hl3] at hrun2 HC
              obtain ⟨fr, hfr⟩ : ∃ f, f = bStr ((acc ++ [34]) ++ (r)) := ⟨_, rfl⟩
              rw [← hfr] at HC HF
              rw [← HL2.out] at hrun2
              have HR2 := Aside0.mk hrun2
              clear h92 hF hrun2 hB3 hb3 hl3 hfr
              refine (HI.out _).mono ?_
              rintro e w4 ⟨rfl, rfl⟩
              go_wp2_with ((with_reducible refine at_bi (b := .append) (xs := #[.tmp 152, .tmp 153]) rfl ?_); at_builtin; refine wpList_append_run rfl (.tmp 152) (.tmp 153) 30 9 rfl _ _ _ rfl rfl HR2.out ?_)
              refine HC.out.mono ?_
              rintro e w5 ⟨rfl, rfl⟩
              go_wp2
              go_ret
              exact ⟨by rw [HF.out]; rfl, Hb3.out⟩
            · obtain ⟨g3, cap3, w3, hrun2, hB3, hb3⟩ := buf_str HB2.out 30 p2 (by have := HLE.out; have e := congrArg List.length hre; simp at e; omega) HBL.out.size
              have HI := Aside0.mk (fun w => idx92_at p2 r2 w h92)
              have hcut := cut92 p2 r2
              rw [← hre, ← HUR.out] at HI hcut
              obtain ⟨hc1, hc2, hc3⟩ := hcut
              obtain ⟨l3, hl3⟩ : ∃ l, l = ((acc ++ [34]) ++ p2).length := ⟨_, rfl⟩
              rw [← hl3] at hrun2
              rw [← HL2.out, ← hc2] at hrun2
              have HL3 := Aside0.mk hl3
              have HLE3 : Aside0 (((acc ++ [34]) ++ p2).length + r2.length ≤ 900000000000) := ⟨by have := HLE.out; have e := congrArg List.length hre; simp at e; rw [List.length_append]; omega⟩
              obtain ⟨k, hk⟩ : ∃ k, k = p2.length := ⟨_, rfl⟩
              rw [← hk] at hrun2 hc1 hc2 hc3 HI
              have HM3 : Aside0 (r2.length < t1.size) := ⟨by have := HM.out; have e := congrArg List.length hre; simp at e; omega⟩
              have HX1 := Aside0.mk hc1
              have b8 : k < ur.size := by omega
              have b9 : ur.size ≤ 900000000001 := by have := HLE.out; have e := congrArg List.length hre; simp at e; omega
              have Hb3 := Aside0.mk (HBL.out.trans hb3)
              have HF := Aside0.mk (And.intro hw2 hF)
              have HB3 := Aside0.mk hB3
              have HR2 := Aside0.mk hrun2
              clear h92 hF hw2 hrun2 hB3 hb3 hl3 hc1 hc2 hc3 hk hre
              refine (HI.out _).mono ?_
              rintro e w4 ⟨rfl, rfl⟩
              go_wp2_with ((with_reducible refine at_bi (b := .append) (xs := #[.tmp 155, .tmp 158]) rfl ?_); at_builtin; refine wpList_append_run rfl (.tmp 155) (.tmp 158) 30 9 rfl _ _ _ rfl rfl HR2.out ?_)
              go_roundw
              case rel => exact ⟨m2, (acc ++ [34]) ++ p2, r2, g3, cap3, by rw [HX1.out], by rw [HL3.out], HF.out.1, HF.out.2, HLE3.out, HB3.out, Hb3.out⟩
              case measure =>
                show szOf (.string (ur.extract (k + 1) ur.size)) < szOf (.string t1)
                rw [HX1.out]
                show (bStr r2).size < t1.size
                rw [bStr_size]
                exact HM3.out
          · have HR1 : Aside0 ((Builtin.append_ #[30, 30] 30 #[.slice (some ⟨g, 0, none⟩) l1 cap, .slice (some ⟨wr.heap.size, 0, none⟩) 1 1]).run Tryz.prog (wr.alloc (.cells #[.int .u8 92] 5)) = .ok (.slice (some ⟨g2, 0, none⟩) l2 cap2) w2) := ⟨hrun1⟩
            clear hrun1
            go_wp2_with ((with_reducible refine at_bi (b := .append) (xs := #[.tmp 44, .tmp 45]) rfl ?_); at_builtin; refine wpList_append_run rfl (.tmp 44) (.tmp 45) 30 30 rfl _ _ _ rfl rfl HR1.out ?_)
            rw [HTT.out]
            rcases HTC.out with ⟨h92, hF⟩ | ⟨p2, r2, m2, hre, h92, hw2, hF⟩
            · obtain ⟨g3, cap3, w3, hrun2, hB3, hb3⟩ := buf_str HB2.out 30 (r) (by have := HLE.out; omega) HBL.out.size
              have HI := Aside0.mk (fun w => idx92_no (r) w h92)
              rw [← HUR.out] at hrun2 HI
              have HC := Aside0.mk (b2s_any w3 _ _ cap3 _ hB3.C)
              have Hb3 := Aside0.mk (HBL.out.trans hb3)
              have HF := Aside0.mk (show bStr target = bStr ((acc ++ [92]) ++ (r)) by rw [hF])
              obtain ⟨l3, hl3⟩ : ∃ l, l = ((acc ++ [92]) ++ (r)).length := ⟨_, rfl⟩
              rw [← hl3] at hrun2 HC
              obtain ⟨fr, hfr⟩ : ∃ f, f = bStr ((acc ++ [92]) ++ (r)) := ⟨_, rfl⟩
              rw [← hfr] at HC HF
              rw [← HL2.out] at hrun2
              have HR2 := Aside0.mk hrun2
              clear h92 hF hrun2 hB3 hb3 hl3 hfr
              refine (HI.out _).mono ?_
              rintro e w4 ⟨rfl, rfl⟩
              go_wp2_with ((with_reducible refine at_bi (b := .append) (xs := #[.tmp 152, .tmp 153]) rfl ?_); at_builtin; refine wpList_append_run rfl (.tmp 152) (.tmp 153) 30 9 rfl _ _ _ rfl rfl HR2.out ?_)
              refine HC.out.mono ?_
              rintro e w5 ⟨rfl, rfl⟩
              go_wp2
              go_ret
              exact ⟨by rw [HF.out]; rfl, Hb3.out⟩
            · obtain ⟨g3, cap3, w3, hrun2, hB3, hb3⟩ := buf_str HB2.out 30 p2 (by have := HLE.out; have e := congrArg List.length hre; simp at e; omega) HBL.out.size
              have HI := Aside0.mk (fun w => idx92_at p2 r2 w h92)
              have hcut := cut92 p2 r2
              rw [← hre, ← HUR.out] at HI hcut
              obtain ⟨hc1, hc2, hc3⟩ := hcut
              obtain ⟨l3, hl3⟩ : ∃ l, l = ((acc ++ [92]) ++ p2).length := ⟨_, rfl⟩
              rw [← hl3] at hrun2
              rw [← HL2.out, ← hc2] at hrun2
              have HL3 := Aside0.mk hl3
              have HLE3 : Aside0 (((acc ++ [92]) ++ p2).length + r2.length ≤ 900000000000) := ⟨by have := HLE.out; have e := congrArg List.length hre; simp at e; rw [List.length_append]; omega⟩
              obtain ⟨k, hk⟩ : ∃ k, k = p2.length := ⟨_, rfl⟩
              rw [← hk] at hrun2 hc1 hc2 hc3 HI
              have HM3 : Aside0 (r2.length < t1.size) := ⟨by have := HM.out; have e := congrArg List.length hre; simp at e; omega⟩
              have HX1 := Aside0.mk hc1
              have b8 : k < ur.size := by omega
              have b9 : ur.size ≤ 900000000001 := by have := HLE.out; have e := congrArg List.length hre; simp at e; omega
              have Hb3 := Aside0.mk (HBL.out.trans hb3)
              have HF := Aside0.mk (And.intro hw2 hF)
              have HB3 := Aside0.mk hB3
              have HR2 := Aside0.mk hrun2
              clear h92 hF hw2 hrun2 hB3 hb3 hl3 hc1 hc2 hc3 hk hre
              refine (HI.out _).mono ?_
              rintro e w4 ⟨rfl, rfl⟩
              go_wp2_with ((with_reducible refine at_bi (b := .append) (xs := #[.tmp 155, .tmp 158]) rfl ?_); at_builtin; refine wpList_append_run rfl (.tmp 155) (.tmp 158) 30 9 rfl _ _ _ rfl rfl HR2.out ?_)
              go_roundw
              case rel => exact ⟨m2, (acc ++ [92]) ++ p2, r2, g3, cap3, by rw [HX1.out], by rw [HL3.out], HF.out.1, HF.out.2, HLE3.out, HB3.out, Hb3.out⟩
              case measure =>
                show szOf (.string (ur.extract (k + 1) ur.size)) < szOf (.string t1)
                rw [HX1.out]
                show (bStr r2).size < t1.size
                rw [bStr_size]
                exact HM3.out
          · have HR1 : Aside0 ((Builtin.append_ #[30, 30] 30 #[.slice (some ⟨g, 0, none⟩) l1 cap, .slice (some ⟨wr.heap.size, 0, none⟩) 1 1]).run Tryz.prog (wr.alloc (.cells #[.int .u8 47] 5)) = .ok (.slice (some ⟨g2, 0, none⟩) l2 cap2) w2) := ⟨hrun1⟩
            clear hrun1
            go_wp2_with ((with_reducible refine at_bi (b := .append) (xs := #[.tmp 49, .tmp 50]) rfl ?_); at_builtin; refine wpList_append_run rfl (.tmp 49) (.tmp 50) 30 30 rfl _ _ _ rfl rfl HR1.out ?_)
            rw [HTT.out]
            rcases HTC.out with ⟨h92, hF⟩ | ⟨p2, r2, m2, hre, h92, hw2, hF⟩
            · obtain ⟨g3, cap3, w3, hrun2, hB3, hb3⟩ := buf_str HB2.out 30 (r) (by have := HLE.out; omega) HBL.out.size
              have HI := Aside0.mk (fun w => idx92_no (r) w h92)
              rw [← HUR.out] at hrun2 HI
              have HC := Aside0.mk (b2s_any w3 _ _ cap3 _ hB3.C)
              have Hb3 := Aside0.mk (HBL.out.trans hb3)
              have HF := Aside0.mk (show bStr target = bStr ((acc ++ [47]) ++ (r)) by rw [hF])
              obtain ⟨l3, hl3⟩ : ∃ l, l = ((acc ++ [47]) ++ (r)).length := ⟨_, rfl⟩
              rw [← hl3] at hrun2 HC
              obtain ⟨fr, hfr⟩ : ∃ f, f = bStr ((acc ++ [47]) ++ (r)) := ⟨_, rfl⟩
              rw [← hfr] at HC HF
              rw [← HL2.out] at hrun2
              have HR2 := Aside0.mk hrun2
              clear h92 hF hrun2 hB3 hb3 hl3 hfr
              refine (HI.out _).mono ?_
              rintro e w4 ⟨rfl, rfl⟩
              go_wp2_with ((with_reducible refine at_bi (b := .append) (xs := #[.tmp 152, .tmp 153]) rfl ?_); at_builtin; refine wpList_append_run rfl (.tmp 152) (.tmp 153) 30 9 rfl _ _ _ rfl rfl HR2.out ?_)
              refine HC.out.mono ?_
              rintro e w5 ⟨rfl, rfl⟩
              go_wp2
              go_ret
              exact ⟨by rw [HF.out]; rfl, Hb3.out⟩
            · obtain ⟨g3, cap3, w3, hrun2, hB3, hb3⟩ := buf_str HB2.out 30 p2 (by have := HLE.out; have e := congrArg List.length hre; simp at e; omega) HBL.out.size
              have HI := Aside0.mk (fun w => idx92_at p2 r2 w h92)
              have hcut := cut92 p2 r2
              rw [← hre, ← HUR.out] at HI hcut
              obtain ⟨hc1, hc2, hc3⟩ := hcut
              obtain ⟨l3, hl3⟩ : ∃ l, l = ((acc ++ [47]) ++ p2).length := ⟨_, rfl⟩
              rw [← hl3] at hrun2
              rw [← HL2.out, ← hc2] at hrun2
              have HL3 := Aside0.mk hl3
              have HLE3 : Aside0 (((acc ++ [47]) ++ p2).length + r2.length ≤ 900000000000) := ⟨by have := HLE.out; have e := congrArg List.length hre; simp at e; rw [List.length_append]; omega⟩
              obtain ⟨k, hk⟩ : ∃ k, k = p2.length := ⟨_, rfl⟩
              rw [← hk] at hrun2 hc1 hc2 hc3 HI
              have HM3 : Aside0 (r2.length < t1.size) := ⟨by have := HM.out; have e := congrArg List.length hre; simp at e; omega⟩
              have HX1 := Aside0.mk hc1
              have b8 : k < ur.size := by omega
              have b9 : ur.size ≤ 900000000001 := by have := HLE.out; have e := congrArg List.length hre; simp at e; omega
              have Hb3 := Aside0.mk (HBL.out.trans hb3)
              have HF := Aside0.mk (And.intro hw2 hF)
              have HB3 := Aside0.mk hB3
              have HR2 := Aside0.mk hrun2
              clear h92 hF hw2 hrun2 hB3 hb3 hl3 hc1 hc2 hc3 hk hre
              refine (HI.out _).mono ?_
              rintro e w4 ⟨rfl, rfl⟩
              go_wp2_with ((with_reducible refine at_bi (b := .append) (xs := #[.tmp 155, .tmp 158]) rfl ?_); at_builtin; refine wpList_append_run rfl (.tmp 155) (.tmp 158) 30 9 rfl _ _ _ rfl rfl HR2.out ?_)
              go_roundw
              case rel => exact ⟨m2, (acc ++ [47]) ++ p2, r2, g3, cap3, by rw [HX1.out], by rw [HL3.out], HF.out.1, HF.out.2, HLE3.out, HB3.out, Hb3.out⟩
              case measure =>
                show szOf (.string (ur.extract (k + 1) ur.size)) < szOf (.string t1)
                rw [HX1.out]
                show (bStr r2).size < t1.size
                rw [bStr_size]
                exact HM3.out
          · have HR1 : Aside0 ((Builtin.append_ #[30, 30] 30 #[.slice (some ⟨g, 0, none⟩) l1 cap, .slice (some ⟨wr.heap.size, 0, none⟩) 1 1]).run Tryz.prog (wr.alloc (.cells #[.int .u8 8] 5)) = .ok (.slice (some ⟨g2, 0, none⟩) l2 cap2) w2) := ⟨hrun1⟩
            clear hrun1
            go_wp2_with ((with_reducible refine at_bi (b := .append) (xs := #[.tmp 54, .tmp 55]) rfl ?_); at_builtin; refine wpList_append_run rfl (.tmp 54) (.tmp 55) 30 30 rfl _ _ _ rfl rfl HR1.out ?_)
            rw [HTT.out]
            rcases HTC.out with ⟨h92, hF⟩ | ⟨p2, r2, m2, hre, h92, hw2, hF⟩
            · obtain ⟨g3, cap3, w3, hrun2, hB3, hb3⟩ := buf_str HB2.out 30 (r) (by have := HLE.out; omega) HBL.out.size
              have HI := Aside0.mk (fun w => idx92_no (r) w h92)
              rw [← HUR.out] at hrun2 HI
              have HC := Aside0.mk (b2s_any w3 _ _ cap3 _ hB3.C)
              have Hb3 := Aside0.mk (HBL.out.trans hb3)
              have HF := Aside0.mk (show bStr target = bStr ((acc ++ [8]) ++ (r)) by rw [hF])
              obtain ⟨l3, hl3⟩ : ∃ l, l = ((acc ++ [8]) ++ (r)).length := ⟨_, rfl⟩
              rw [← hl3] at hrun2 HC
              obtain ⟨fr, hfr⟩ : ∃ f, f = bStr ((acc ++ [8]) ++ (r)) := ⟨_, rfl⟩
              rw [← hfr] at HC HF
              rw [← HL2.out] at hrun2
              have HR2 := Aside0.mk hrun2
              clear h92 hF hrun2 hB3 hb3 hl3 hfr
              refine (HI.out _).mono ?_
              rintro e w4 ⟨rfl, rfl⟩
              go_wp2_with ((with_reducible refine at_bi (b := .append) (xs := #[.tmp 152, .tmp 153]) rfl ?_); at_builtin; refine wpList_append_run rfl (.tmp 152) (.tmp 153) 30 9 rfl _ _ _ rfl rfl HR2.out ?_)
              refine HC.out.mono ?_
              rintro e w5 ⟨rfl, rfl⟩
              go_wp2
              go_ret
              exact ⟨by rw [HF.out]; rfl, Hb3.out⟩
            · obtain ⟨g3, cap3, w3, hrun2, hB3, hb3⟩ := buf_str HB2.out 30 p2 (by have := HLE.out; have e := congrArg List.length hre; simp at e; omega) HBL.out.size
              have HI := Aside0.mk (fun w => idx92_at p2 r2 w h92)
              have hcut := cut92 p2 r2
              rw [← hre, ← HUR.out] at HI hcut
              obtain ⟨hc1, hc2, hc3⟩ := hcut
              obtain ⟨l3, hl3⟩ : ∃ l, l = ((acc ++ [8]) ++ p2).length := ⟨_, rfl⟩
              rw [← hl3] at hrun2
              rw [← HL2.out, ← hc2] at hrun2
              have HL3 := Aside0.mk hl3
              have HLE3 : Aside0 (((acc ++ [8]) ++ p2).length + r2.length ≤ 900000000000) := ⟨by have := HLE.out; have e := congrArg List.length hre; simp at e; rw [List.length_append]; omega⟩
              obtain ⟨k, hk⟩ : ∃ k, k = p2.length := ⟨_, rfl⟩
              rw [← hk] at hrun2 hc1 hc2 hc3 HI
              have HM3 : Aside0 (r2.length < t1.size) := ⟨by have := HM.out; have e := congrArg List.length hre; simp at e; omega⟩
              have HX1 := Aside0.mk hc1
              have b8 : k < ur.size := by omega
              have b9 : ur.size ≤ 900000000001 := by have := HLE.out; have e := congrArg List.length hre; simp at e; omega
              have Hb3 := Aside0.mk (HBL.out.trans hb3)
              have HF := Aside0.mk (And.intro hw2 hF)
              have HB3 := Aside0.mk hB3
              have HR2 := Aside0.mk hrun2
              clear h92 hF hw2 hrun2 hB3 hb3 hl3 hc1 hc2 hc3 hk hre
              refine (HI.out _).mono ?_
              rintro e w4 ⟨rfl, rfl⟩
              go_wp2_with ((with_reducible refine at_bi (b := .append) (xs := #[.tmp 155, .tmp 158]) rfl ?_); at_builtin; refine wpList_append_run rfl (.tmp 155) (.tmp 158) 30 9 rfl _ _ _ rfl rfl HR2.out ?_)
              go_roundw
              case rel => exact ⟨m2, (acc ++ [8]) ++ p2, r2, g3, cap3, by rw [HX1.out], by rw [HL3.out], HF.out.1, HF.out.2, HLE3.out, HB3.out, Hb3.out⟩
              case measure =>
                show szOf (.string (ur.extract (k + 1) ur.size)) < szOf (.string t1)
                rw [HX1.out]
                show (bStr r2).size < t1.size
                rw [bStr_size]
                exact HM3.out
          · have HR1 : Aside0 ((Builtin.append_ #[30, 30] 30 #[.slice (some ⟨g, 0, none⟩) l1 cap, .slice (some ⟨wr.heap.size, 0, none⟩) 1 1]).run Tryz.prog (wr.alloc (.cells #[.int .u8 12] 5)) = .ok (.slice (some ⟨g2, 0, none⟩) l2 cap2) w2) := ⟨hrun1⟩
            clear hrun1
            go_wp2_with ((with_reducible refine at_bi (b := .append) (xs := #[.tmp 59, .tmp 60]) rfl ?_); at_builtin; refine wpList_append_run rfl (.tmp 59) (.tmp 60) 30 30 rfl _ _ _ rfl rfl HR1.out ?_)
            rw [HTT.out]
            rcases HTC.out with ⟨h92, hF⟩ | ⟨p2, r2, m2, hre, h92, hw2, hF⟩
            · obtain ⟨g3, cap3, w3, hrun2, hB3, hb3⟩ := buf_str HB2.out 30 (r) (by have := HLE.out; omega) HBL.out.size
              have HI := Aside0.mk (fun w => idx92_no (r) w h92)
              rw [← HUR.out] at hrun2 HI
              have HC := Aside0.mk (b2s_any w3 _ _ cap3 _ hB3.C)
              have Hb3 := Aside0.mk (HBL.out.trans hb3)
              have HF := Aside0.mk (show bStr target = bStr ((acc ++ [12]) ++ (r)) by rw [hF])
              obtain ⟨l3, hl3⟩ : ∃ l, l = ((acc ++ [12]) ++ (r)).length := ⟨_, rfl⟩
              rw [← hl3] at hrun2 HC
              obtain ⟨fr, hfr⟩ : ∃ f, f = bStr ((acc ++ [12]) ++ (r)) := ⟨_, rfl⟩
              rw [← hfr] at HC HF
              rw [← HL2.out] at hrun2
              have HR2 := Aside0.mk hrun2
              clear h92 hF hrun2 hB3 hb3 hl3 hfr
              refine (HI.out _).mono ?_
              rintro e w4 ⟨rfl, rfl⟩
              go_wp2_with ((with_reducible refine at_bi (b := .append) (xs := #[.tmp 152, .tmp 153]) rfl ?_); at_builtin; refine wpList_append_run rfl (.tmp 152) (.tmp 153) 30 9 rfl _ _ _ rfl rfl HR2.out ?_)
              refine HC.out.mono ?_
              rintro e w5 ⟨rfl, rfl⟩
              go_wp2
              go_ret
              exact ⟨by rw [HF.out]; rfl, Hb3.out⟩
            · obtain ⟨g3, cap3, w3, hrun2, hB3, hb3⟩ := buf_str HB2.out 30 p2 (by have := HLE.out; have e := congrArg List.length hre; simp at e; omega) HBL.out.size
              have HI := Aside0.mk (fun w => idx92_at p2 r2 w h92)
              have hcut := cut92 p2 r2
              rw [← hre, ← HUR.out] at HI hcut
              obtain ⟨hc1, hc2, hc3⟩ := hcut
              obtain ⟨l3, hl3⟩ : ∃ l, l = ((acc ++ [12]) ++ p2).length := ⟨_, rfl⟩
              rw [← hl3] at hrun2
              rw [← HL2.out, ← hc2] at hrun2
              have HL3 := Aside0.mk hl3
              have HLE3 : Aside0 (((acc ++ [12]) ++ p2).length + r2.length ≤ 900000000000) := ⟨by have := HLE.out; have e := congrArg List.length hre; simp at e; rw [List.length_append]; omega⟩
              obtain ⟨k, hk⟩ : ∃ k, k = p2.length := ⟨_, rfl⟩
              rw [← hk] at hrun2 hc1 hc2 hc3 HI
              have HM3 : Aside0 (r2.length < t1.size) := ⟨by have := HM.out; have e := congrArg List.length hre; simp at e; omega⟩
              have HX1 := Aside0.mk hc1
              have b8 : k < ur.size := by omega
              have b9 : ur.size ≤ 900000000001 := by have := HLE.out; have e := congrArg List.length hre; simp at e; omega
              have Hb3 := Aside0.mk (HBL.out.trans hb3)
              have HF := Aside0.mk (And.intro hw2 hF)
              have HB3 := Aside0.mk hB3
              have HR2 := Aside0.mk hrun2
              clear h92 hF hw2 hrun2 hB3 hb3 hl3 hc1 hc2 hc3 hk hre
              refine (HI.out _).mono ?_
              rintro e w4 ⟨rfl, rfl⟩
              go_wp2_with ((with_reducible refine at_bi (b := .append) (xs := #[.tmp 155, .tmp 158]) rfl ?_); at_builtin; refine wpList_append_run rfl (.tmp 155) (.tmp 158) 30 9 rfl _ _ _ rfl rfl HR2.out ?_)
              go_roundw
              case rel => exact ⟨m2, (acc ++ [12]) ++ p2, r2, g3, cap3, by rw [HX1.out], by rw [HL3.out], HF.out.1, HF.out.2, HLE3.out, HB3.out, Hb3.out⟩
              case measure =>
                show szOf (.string (ur.extract (k + 1) ur.size)) < szOf (.string t1)
                rw [HX1.out]
                show (bStr r2).size < t1.size
                rw [bStr_size]
                exact HM3.out
          · have HR1 : Aside0 ((Builtin.append_ #[30, 30] 30 #[.slice (some ⟨g, 0, none⟩) l1 cap, .slice (some ⟨wr.heap.size, 0, none⟩) 1 1]).run Tryz.prog (wr.alloc (.cells #[.int .u8 10] 5)) = .ok (.slice (some ⟨g2, 0, none⟩) l2 cap2) w2) := ⟨hrun1⟩
            clear hrun1
            go_wp2_with ((with_reducible refine at_bi (b := .append) (xs := #[.tmp 64, .tmp 65]) rfl ?_); at_builtin; refine wpList_append_run rfl (.tmp 64) (.tmp 65) 30 30 rfl _ _ _ rfl rfl HR1.out ?_)
            rw [HTT.out]
            rcases HTC.out with ⟨h92, hF⟩ | ⟨p2, r2, m2, hre, h92, hw2, hF⟩
            · obtain ⟨g3, cap3, w3, hrun2, hB3, hb3⟩ := buf_str HB2.out 30 (r) (by have := HLE.out; omega) HBL.out.size
              have HI := Aside0.mk (fun w => idx92_no (r) w h92)
              rw [← HUR.out] at hrun2 HI
              have HC := Aside0.mk (b2s_any w3 _ _ cap3 _ hB3.C)
              have Hb3 := Aside0.mk (HBL.out.trans hb3)
              have HF := Aside0.mk (show bStr target = bStr ((acc ++ [10]) ++ (r)) by rw [hF])
              obtain ⟨l3, hl3⟩ : ∃ l, l = ((acc ++ [10]) ++ (r)).length := ⟨_, rfl⟩
              rw [← hl3] at hrun2 HC
              obtain ⟨fr, hfr⟩ : ∃ f, f = bStr ((acc ++ [10]) ++ (r)) := ⟨_, rfl⟩
              rw [← hfr] at HC HF
              rw [← HL2.out] at hrun2
              have HR2 := Aside0.mk hrun2
              clear h92 hF hrun2 hB3 hb3 hl3 hfr
              refine (HI.out _).mono ?_
              rintro e w4 ⟨rfl, rfl⟩
              go_wp2_with ((with_reducible refine at_bi (b := .append) (xs := #[.tmp 152, .tmp 153]) rfl ?_); at_builtin; refine wpList_append_run rfl (.tmp 152) (.tmp 153) 30 9 rfl _ _ _ rfl rfl HR2.out ?_)
              refine HC.out.mono ?_
              rintro e w5 ⟨rfl, rfl⟩
              go_wp2
              go_ret
              exact ⟨by rw [HF.out]; rfl, Hb3.out⟩
            · obtain ⟨g3, cap3, w3, hrun2, hB3, hb3⟩ := buf_str HB2.out 30 p2 (by have := HLE.out; have e := congrArg List.length hre; simp at e; omega) HBL.out.size
              have HI := Aside0.mk (fun w => idx92_at p2 r2 w h92)
              have hcut := cut92 p2 r2
              rw [← hre, ← HUR.out] at HI hcut
              obtain ⟨hc1, hc2, hc3⟩ := hcut
              obtain ⟨l3, hl3⟩ : ∃ l, l = ((acc ++ [10]) ++ p2).length := ⟨_, rfl⟩
              rw [← hl3] at hrun2
              rw [← HL2.out, ← hc2] at hrun2
              have HL3 := Aside0.mk hl3
              have HLE3 : Aside0 (((acc ++ [10]) ++ p2).length + r2.length ≤ 900000000000) := ⟨by have := HLE.out; have e := congrArg List.length hre; simp at e; rw [List.length_append]; omega⟩
              obtain ⟨k, hk⟩ : ∃ k, k = p2.length := ⟨_, rfl⟩
              rw [← hk] at hrun2 hc1 hc2 hc3 HI
              have HM3 : Aside0 (r2.length < t1.size) := ⟨by have := HM.out; have e := congrArg List.length hre; simp at e; omega⟩
              have HX1 := Aside0.mk hc1
              have b8 : k < ur.size := by omega
              have b9 : ur.size ≤ 900000000001 := by have := HLE.out; have e := congrArg List.length hre; simp at e; omega
              have Hb3 := Aside0.mk (HBL.out.trans hb3)
              have HF := Aside0.mk (And.intro hw2 hF)
              have HB3 := Aside0.mk hB3
              have HR2 := Aside0.mk hrun2
              clear h92 hF hw2 hrun2 hB3 hb3 hl3 hc1 hc2 hc3 hk hre
              refine (HI.out _).mono ?_
              rintro e w4 ⟨rfl, rfl⟩
              go_wp2_with ((with_reducible refine at_bi (b := .append) (xs := #[.tmp 155, .tmp 158]) rfl ?_); at_builtin; refine wpList_append_run rfl (.tmp 155) (.tmp 158) 30 9 rfl _ _ _ rfl rfl HR2.out ?_)
              go_roundw
              case rel => exact ⟨m2, (acc ++ [10]) ++ p2, r2, g3, cap3, by rw [HX1.out], by rw [HL3.out], HF.out.1, HF.out.2, HLE3.out, HB3.out, Hb3.out⟩
              case measure =>
                show szOf (.string (ur.extract (k + 1) ur.size)) < szOf (.string t1)
                rw [HX1.out]
                show (bStr r2).size < t1.size
                rw [bStr_size]
                exact HM3.out
          · have HR1 : Aside0 ((Builtin.append_ #[30, 30] 30 #[.slice (some ⟨g, 0, none⟩) l1 cap, .slice (some ⟨wr.heap.size, 0, none⟩) 1 1]).run Tryz.prog (wr.alloc (.cells #[.int .u8 13] 5)) = .ok (.slice (some ⟨g2, 0, none⟩) l2 cap2) w2) := ⟨hrun1⟩
            clear hrun1
            go_wp2_with ((with_reducible refine at_bi (b := .append) (xs := #[.tmp 69, .tmp 70]) rfl ?_); at_builtin; refine wpList_append_run rfl (.tmp 69) (.tmp 70) 30 30 rfl _ _ _ rfl rfl HR1.out ?_)
            rw [HTT.out]
            rcases HTC.out with ⟨h92, hF⟩ | ⟨p2, r2, m2, hre, h92, hw2, hF⟩
            · obtain ⟨g3, cap3, w3, hrun2, hB3, hb3⟩ := buf_str HB2.out 30 (r) (by have := HLE.out; omega) HBL.out.size
              have HI := Aside0.mk (fun w => idx92_no (r) w h92)
              rw [← HUR.out] at hrun2 HI
              have HC := Aside0.mk (b2s_any w3 _ _ cap3 _ hB3.C)
              have Hb3 := Aside0.mk (HBL.out.trans hb3)
              have HF := Aside0.mk (show bStr target = bStr ((acc ++ [13]) ++ (r)) by rw [hF])
              obtain ⟨l3, hl3⟩ : ∃ l, l = ((acc ++ [13]) ++ (r)).length := ⟨_, rfl⟩
              rw [← hl3] at hrun2 HC
              obtain ⟨fr, hfr⟩ : ∃ f, f = bStr ((acc ++ [13]) ++ (r)) := ⟨_, rfl⟩
              rw [← hfr] at HC HF
              rw [← HL2.out] at hrun2
              have HR2 := Aside0.mk hrun2
              clear h92 hF hrun2 hB3 hb3 hl3 hfr
              refine (HI.out _).mono ?_
              rintro e w4 ⟨rfl, rfl⟩
              go_wp2_with ((with_reducible refine at_bi (b := .append) (xs := #[.tmp 152, .tmp 153]) rfl ?_); at_builtin; refine wpList_append_run rfl (.tmp 152) (.tmp 153) 30 9 rfl _ _ _ rfl rfl HR2.out ?_)
              refine HC.out.mono ?_
              rintro e w5 ⟨rfl, rfl⟩
              go_wp2
              go_ret
              exact ⟨by rw [HF.out]; rfl, Hb3.out⟩
            · obtain ⟨g3, cap3, w3, hrun2, hB3, hb3⟩ := buf_str HB2.out 30 p2 (by have := HLE.out; have e := congrArg List.length hre; simp at e; omega) HBL.out.size
              have HI := Aside0.mk (fun w => idx92_at p2 r2 w h92)
              have hcut := cut92 p2 r2
              rw [← hre, ← HUR.out] at HI hcut
              obtain ⟨hc1, hc2, hc3⟩ := hcut
              obtain ⟨l3, hl3⟩ : ∃ l, l = ((acc ++ [13]) ++ p2).length := ⟨_, rfl⟩
              rw [← hl3] at hrun2
              rw [← HL2.out, ← hc2] at hrun2
              have HL3 := Aside0.mk hl3
              have HLE3 : Aside0 (((acc ++ [13]) ++ p2).length + r2.length ≤ 900000000000) := ⟨by have := HLE.out; have e := congrArg List.length hre; simp at e; rw [List.length_append]; omega⟩
              obtain ⟨k, hk⟩ : ∃ k, k = p2.length := ⟨_, rfl⟩
              rw [← hk] at hrun2 hc1 hc2 hc3 HI
              have HM3 : Aside0 (r2.length < t1.size) := ⟨by have := HM.out; have e := congrArg List.length hre; simp at e; omega⟩
              have HX1 := Aside0.mk hc1
              have b8 : k < ur.size := by omega
              have b9 : ur.size ≤ 900000000001 := by have := HLE.out; have e := congrArg List.length hre; simp at e; omega
              have Hb3 := Aside0.mk (HBL.out.trans hb3)
              have HF := Aside0.mk (And.intro hw2 hF)
              have HB3 := Aside0.mk hB3
              have HR2 := Aside0.mk hrun2
              clear h92 hF hw2 hrun2 hB3 hb3 hl3 hc1 hc2 hc3 hk hre
              refine (HI.out _).mono ?_
              rintro e w4 ⟨rfl, rfl⟩
              go_wp2_with ((with_reducible refine at_bi (b := .append) (xs := #[.tmp 155, .tmp 158]) rfl ?_); at_builtin; refine wpList_append_run rfl (.tmp 155) (.tmp 158) 30 9 rfl _ _ _ rfl rfl HR2.out ?_)
              go_roundw
              case rel => exact ⟨m2, (acc ++ [13]) ++ p2, r2, g3, cap3, by rw [HX1.out], by rw [HL3.out], HF.out.1, HF.out.2, HLE3.out, HB3.out, Hb3.out⟩
              case measure =>
                show szOf (.string (ur.extract (k + 1) ur.size)) < szOf (.string t1)
                rw [HX1.out]
                show (bStr r2).size < t1.size
                rw [bStr_size]
                exact HM3.out
          · have HR1 : Aside0 ((Builtin.append_ #[30, 30] 30 #[.slice (some ⟨g, 0, none⟩) l1 cap, .slice (some ⟨wr.heap.size, 0, none⟩) 1 1]).run Tryz.prog (wr.alloc (.cells #[.int .u8 9] 5)) = .ok (.slice (some ⟨g2, 0, none⟩) l2 cap2) w2) := ⟨hrun1⟩
            clear hrun1
            go_wp2_with ((with_reducible refine at_bi (b := .append) (xs := #[.tmp 74, .tmp 75]) rfl ?_); at_builtin; refine wpList_append_run rfl (.tmp 74) (.tmp 75) 30 30 rfl _ _ _ rfl rfl HR1.out ?_)
            rw [HTT.out]
            rcases HTC.out with ⟨h92, hF⟩ | ⟨p2, r2, m2, hre, h92, hw2, hF⟩
            · obtain ⟨g3, cap3, w3, hrun2, hB3, hb3⟩ := buf_str HB2.out 30 (r) (by have := HLE.out; omega) HBL.out.size
              have HI := Aside0.mk (fun w => idx92_no (r) w h92)
              rw [← HUR.out] at hrun2 HI
              have HC := Aside0.mk (b2s_any w3 _ _ cap3 _ hB3.C)
              have Hb3 := Aside0.mk (HBL.out.trans hb3)
              have HF := Aside0.mk (show bStr target = bStr ((acc ++ [9]) ++ (r)) by rw [hF])
              obtain ⟨l3, hl3⟩ : ∃ l, l = ((acc ++ [9]) ++ (r)).length := ⟨_, rfl⟩
              rw [← hl3] at hrun2 HC
              obtain ⟨fr, hfr⟩ : ∃ f, f = bStr ((acc ++ [9]) ++ (r)) := ⟨_, rfl⟩
              rw [← hfr] at HC HF
              rw [← HL2.out] at hrun2
              have HR2 := Aside0.mk hrun2
              clear h92 hF hrun2 hB3 hb3 hl3 hfr
              refine (HI.out _).mono ?_
              rintro e w4 ⟨rfl, rfl⟩
              go_wp2_with ((with_reducible refine at_bi (b := .append) (xs := #[.tmp 152, .tmp 153]) rfl ?_); at_builtin; refine wpList_append_run rfl (.tmp 152) (.tmp 153) 30 9 rfl _ _ _ rfl rfl HR2.out ?_)
              refine HC.out.mono ?_
              rintro e w5 ⟨rfl, rfl⟩
              go_wp2
              go_ret
              exact ⟨by rw [HF.out]; rfl, Hb3.out⟩
            · obtain ⟨g3, cap3, w3, hrun2, hB3, hb3⟩ := buf_str HB2.out 30 p2 (by have := HLE.out; have e := congrArg List.length hre; simp at e; omega) HBL.out.size
              have HI := Aside0.mk (fun w => idx92_at p2 r2 w h92)
              have hcut := cut92 p2 r2
              rw [← hre, ← HUR.out] at HI hcut
              obtain ⟨hc1, hc2, hc3⟩ := hcut
              obtain ⟨l3, hl3⟩ : ∃ l, l = ((acc ++ [9]) ++ p2).length := ⟨_, rfl⟩
              rw [← hl3] at hrun2
              rw [← HL2.out, ← hc2] at hrun2
              have HL3 := Aside0.mk hl3
              have HLE3 : Aside0 (((acc ++ [9]) ++ p2).length + r2.length ≤ 900000000000) := ⟨by have := HLE.out; have e := congrArg List.length hre; simp at e; rw [List.length_append]; omega⟩
              obtain ⟨k, hk⟩ : ∃ k, k = p2.length := ⟨_, rfl⟩
              rw [← hk] at hrun2 hc1 hc2 hc3 HI
              have HM3 : Aside0 (r2.length < t1.size) := ⟨by have := HM.out; have e := congrArg List.length hre; simp at e; omega⟩
              have HX1 := Aside0.mk hc1
              have b8 : k < ur.size := by omega
              have b9 : ur.size ≤ 900000000001 := by have := HLE.out; have e := congrArg List.length hre; simp at e; omega
              have Hb3 := Aside0.mk (HBL.out.trans hb3)
              have HF := Aside0.mk (And.intro hw2 hF)
              have HB3 := Aside0.mk hB3
              have HR2 := Aside0.mk hrun2
              clear h92 hF hw2 hrun2 hB3 hb3 hl3 hc1 hc2 hc3 hk hre
              refine (HI.out _).mono ?_
              rintro e w4 ⟨rfl, rfl⟩
              go_wp2_with ((with_reducible refine at_bi (b := .append) (xs := #[.tmp 155, .tmp 158]) rfl ?_); at_builtin; refine wpList_append_run rfl (.tmp 155) (.tmp 158) 30 9 rfl _ _ _ rfl rfl HR2.out ?_)
              go_roundw
              case rel => exact ⟨m2, (acc ++ [9]) ++ p2, r2, g3, cap3, by rw [HX1.out], by rw [HL3.out], HF.out.1, HF.out.2, HLE3.out, HB3.out, Hb3.out⟩
              case measure =>
                show szOf (.string (ur.extract (k + 1) ur.size)) < szOf (.string t1)
                rw [HX1.out]
                show (bStr r2).size < t1.size
                rw [bStr_size]
                exact HM3.out
        · rw [he] at hwt hT2
          subst hr
          replace hwt : wellT m q = true := hwt
          replace hT2 : target = acc ++ utf8 (hexV4 d 0) ++ unescT m q := hT2
          have HTC := Aside0.mk (tail_cases hwt hT2)
          have HP := Aside0.mk (fun w => puint_any d w h4 hx)
          have hx1 : hexV4 d 0 < 65536 := by
            have := hexV4_lt d hx 0
            rw [h4] at this
            omega
          obtain ⟨x, hxx⟩ : ∃ x, x = hexV4 d 0 := ⟨_, rfl⟩
          rw [← hxx] at HP HTC hx1 hsn
          have HSur := Aside0.mk (fun w => isSur_any x w hx1)
          rw [hsn] at HSur
          have hlq : (d ++ q).length = 4 + q.length := by simp; omega
          rw [hlq] at hLe2 HSz
          have hu3 := utf8_len3 x hx1
          have HX4 : (bStr (d ++ q)).extract 0 4 = bStr d := by rw [bStr_take, List.take_left' h4]
          have HXq : (bStr (d ++ q)).extract 4 (bStr (d ++ q)).size = bStr q := by rw [bStr_drop, List.drop_left' h4]
          have usz : (bStr (d ++ q)).size = 4 + q.length := by rw [bStr_size]; exact hlq
          obtain ⟨u, hu⟩ : ∃ u, u = bStr (d ++ q) := ⟨_, rfl⟩
          rw [← hu] at HTT HX4 HXq usz
          obtain ⟨ur, hur⟩ : ∃ u, u = bStr q := ⟨_, rfl⟩
          rw [← hur] at HXq
          have HUR := Aside0.mk hur
          have HXQ := Aside0.mk HXq
          rw [← HX4] at HP
          have uge : ¬ ((u.size : Int) < 4) := by omega
          have uge2 : 4 ≤ u.size := by omega
          have ub : u.size ≤ 900000000000 := by omega
          have HM : Aside0 (q.length < t1.size) := ⟨by have := HSz.out; omega⟩
          have HLE : Aside0 ((acc ++ utf8 x).length + q.length ≤ 900000000000) := ⟨by rw [List.length_append]; omega⟩
          have HLE0 : Aside0 (acc.length + (utf8 x).length ≤ 900000000000) := ⟨by omega⟩
          have hwx : IntKind.i32.wrap (x : Int) = (x : Int) := by rw [IntKind.wrap_i32]; omega
          have HB := Aside0.mk (And.intro hB hb)
          have HL1 := Aside0.mk hl1
          rw [← hl1]
          have e1 : t1.extract 1 t1.size = u := HTT.out
          clear hwt hT2 h4 hx hxx hsn hx1 hlq hLe2 hu3 HX4 HXq usz hu hur hB hb hl1 hok he HTT
          go_wp2_with fail
          refine (HP.out _).mono ?_
          rintro e w2 ⟨rfl, hbp⟩
          have HBp := Aside0.mk (And.intro (HB.out.1.on hbp) (HB.out.2.trans (hbp.mono HB.out.2.size)))
          obtain ⟨g2, cap2, w3, hrun1, hB2, hb2⟩ := buf_str HBp.out.1 30 (utf8 x) (by have := HLE0.out; omega) HBp.out.2.size
          rw [← encode_utf8] at hrun1
          obtain ⟨l2, hl2⟩ : ∃ l, l = (acc ++ utf8 x).length := ⟨_, rfl⟩
          rw [← hl2, ← HL1.out] at hrun1
          have HL2 := Aside0.mk hl2
          have HBL := Aside0.mk (HBp.out.2.trans hb2)
          have HB2 := Aside0.mk hB2
          have HR1 := Aside0.mk hrun1
          clear hbp hrun1 hB2 hb2 hl2
          go_wp2_with fail
          refine (HSur.out _).mono ?_
          rintro e w4 ⟨rfl, rfl⟩
          go_wp2_with ((with_reducible refine at_bi (b := .append) (xs := #[.tmp 101, .tmp 104]) rfl ?_); at_builtin; refine wpList_append_run rfl (.tmp 101) (.tmp 104) 30 9 rfl _ _ _ rfl rfl HR1.out ?_)
          rw [HXQ.out]

          rcases HTC.out with ⟨h92, hF⟩ | ⟨p2, r2, m2, hre, h92, hw2, hF⟩
          · obtain ⟨g3, cap3, w3, hrun2, hB3, hb3⟩ := buf_str HB2.out 30 (q) (by have := HLE.out; omega) HBL.out.size
            have HI := Aside0.mk (fun w => idx92_no (q) w h92)
            rw [← HUR.out] at hrun2 HI
            have HC := Aside0.mk (b2s_any w3 _ _ cap3 _ hB3.C)
            have Hb3 := Aside0.mk (HBL.out.trans hb3)
            have HF := Aside0.mk (show bStr target = bStr ((acc ++ utf8 x) ++ (q)) by rw [hF])
            obtain ⟨l3, hl3⟩ : ∃ l, l = ((acc ++ utf8 x) ++ (q)).length := ⟨_, rfl⟩
            rw [← hl3] at hrun2 HC
            obtain ⟨fr, hfr⟩ : ∃ f, f = bStr ((acc ++ utf8 x) ++ (q)) := ⟨_, rfl⟩
            rw [← hfr] at HC HF
            rw [← HL2.out] at hrun2
            have HR2 := Aside0.mk hrun2
            clear h92 hF hrun2 hB3 hb3 hl3 hfr
            refine (HI.out _).mono ?_
            rintro e w4 ⟨rfl, rfl⟩
            go_wp2_with ((with_reducible refine at_bi (b := .append) (xs := #[.tmp 152, .tmp 153]) rfl ?_); at_builtin; refine wpList_append_run rfl (.tmp 152) (.tmp 153) 30 9 rfl _ _ _ rfl rfl HR2.out ?_)
            refine HC.out.mono ?_
            rintro e w5 ⟨rfl, rfl⟩
            go_wp2
            go_ret
            exact ⟨by rw [HF.out]; rfl, Hb3.out⟩
          · obtain ⟨g3, cap3, w3, hrun2, hB3, hb3⟩ := buf_str HB2.out 30 p2 (by have := HLE.out; have e := congrArg List.length hre; simp at e; omega) HBL.out.size
            have HI := Aside0.mk (fun w => idx92_at p2 r2 w h92)
            have hcut := cut92 p2 r2
            rw [← hre, ← HUR.out] at HI hcut
            obtain ⟨hc1, hc2, hc3⟩ := hcut
            obtain ⟨l3, hl3⟩ : ∃ l, l = ((acc ++ utf8 x) ++ p2).length := ⟨_, rfl⟩
            rw [← hl3] at hrun2
            rw [← HL2.out, ← hc2] at hrun2
            have HL3 := Aside0.mk hl3
            have HLE3 : Aside0 (((acc ++ utf8 x) ++ p2).length + r2.length ≤ 900000000000) := ⟨by have := HLE.out; have e := congrArg List.length hre; simp at e; rw [List.length_append]; omega⟩
            obtain ⟨k, hk⟩ : ∃ k, k = p2.length := ⟨_, rfl⟩
            rw [← hk] at hrun2 hc1 hc2 hc3 HI
            have HM3 : Aside0 (r2.length < t1.size) := ⟨by have := HM.out; have e := congrArg List.length hre; simp at e; omega⟩
            have HX1 := Aside0.mk hc1
            have b8 : k < ur.size := by omega
            have b9 : ur.size ≤ 900000000001 := by have := HLE.out; have e := congrArg List.length hre; simp at e; omega
            have Hb3 := Aside0.mk (HBL.out.trans hb3)
            have HF := Aside0.mk (And.intro hw2 hF)
            have HB3 := Aside0.mk hB3
            have HR2 := Aside0.mk hrun2
            clear h92 hF hw2 hrun2 hB3 hb3 hl3 hc1 hc2 hc3 hk hre
            refine (HI.out _).mono ?_
            rintro e w4 ⟨rfl, rfl⟩
            go_wp2_with ((with_reducible refine at_bi (b := .append) (xs := #[.tmp 155, .tmp 158]) rfl ?_); at_builtin; refine wpList_append_run rfl (.tmp 155) (.tmp 158) 30 9 rfl _ _ _ rfl rfl HR2.out ?_)
            go_roundw
            case rel => exact ⟨m2, (acc ++ utf8 x) ++ p2, r2, g3, cap3, by rw [HX1.out], by rw [HL3.out], HF.out.1, HF.out.2, HLE3.out, HB3.out, Hb3.out⟩
            case measure =>
              show szOf (.string (ur.extract (k + 1) ur.size)) < szOf (.string t1)
              rw [HX1.out]
              show (bStr r2).size < t1.size
              rw [bStr_size]
              exact HM3.out
        · rw [he] at hwt hT2
          subst hr
          replace hwt : wellT m q = true := hwt
          replace hT2 : target = acc ++ utf8 (surr (hexV4 d 0) (hexV4 e4 0)) ++ unescT m q := hT2
          have HTC := Aside0.mk (tail_cases hwt hT2)
          have HP := Aside0.mk (fun w => puint_any d w h4 hx)
          have HP2 := Aside0.mk (fun w => puint_any e4 w h4' hx')
          obtain ⟨x, hxx⟩ : ∃ x, x = hexV4 d 0 := ⟨_, rfl⟩
          obtain ⟨y, hyy⟩ : ∃ y, y = hexV4 e4 0 := ⟨_, rfl⟩
          rw [← hxx] at HP HTC hsn g1 g2
          rw [← hyy] at HP2 HTC g3 g5
          have HSur := Aside0.mk (fun w => isSur_any x w (by omega))
          rw [hsn] at HSur
          have HDR := Aside0.mk (fun w => decodeRune_any x y w g1 g2 g3 g5)
          obtain ⟨z, hz⟩ : ∃ z, z = surr x y := ⟨_, rfl⟩
          rw [← hz] at HDR HTC
          have hlq : (d ++ 92 :: 117 :: (e4 ++ q)).length = 10 + q.length := by simp; omega
          rw [hlq] at hLe2 HSz
          have hu3 := utf8_len z
          have HX4 : (bStr (d ++ 92 :: 117 :: (e4 ++ q))).extract 0 4 = bStr d := by rw [bStr_take, List.take_left' h4]
          have HXq : (bStr (d ++ 92 :: 117 :: (e4 ++ q))).extract 4 (bStr (d ++ 92 :: 117 :: (e4 ++ q))).size = bStr (92 :: 117 :: (e4 ++ q)) := by rw [bStr_drop, List.drop_left' h4]
          have usz : (bStr (d ++ 92 :: 117 :: (e4 ++ q))).size = 10 + q.length := by rw [bStr_size]; exact hlq
          obtain ⟨u, hu⟩ : ∃ u, u = bStr (d ++ 92 :: 117 :: (e4 ++ q)) := ⟨_, rfl⟩
          rw [← hu] at HTT HX4 HXq usz
          have vsz : (bStr (92 :: 117 :: (e4 ++ q))).size = 6 + q.length := by rw [bStr_size]; simp; omega
          have v0 : ∀ h : 0 < (bStr (92 :: 117 :: (e4 ++ q))).size, (bStr (92 :: 117 :: (e4 ++ q)))[0]'h = 92 := fun h => by rw [bStr_get]; rfl
          have v1 : ∀ h : 1 < (bStr (92 :: 117 :: (e4 ++ q))).size, (bStr (92 :: 117 :: (e4 ++ q)))[1]'h = 117 := fun h => by rw [bStr_get]; rfl
          have vx : (bStr (92 :: 117 :: (e4 ++ q))).extract 2 6 = bStr e4 := by
            rw [bStr_ext]
            congr 1
            show (((92 :: 117 :: (e4 ++ q)).take 6).drop 2) = e4
            simp only [List.take_succ_cons, List.drop_succ_cons, List.drop_zero]
            exact List.take_left' h4'
          have vq : (bStr (92 :: 117 :: (e4 ++ q))).extract 6 (bStr (92 :: 117 :: (e4 ++ q))).size = bStr q := by
            rw [bStr_drop]
            congr 1
            simp only [List.drop_succ_cons]
            exact List.drop_left' h4'
          obtain ⟨u4, hu4⟩ : ∃ u, u = bStr (92 :: 117 :: (e4 ++ q)) := ⟨_, rfl⟩
          rw [← hu4] at HXq vsz v0 v1 vx vq
          obtain ⟨ur, hur⟩ : ∃ u, u = bStr q := ⟨_, rfl⟩
          rw [← hur] at vq
          have HUR := Aside0.mk hur
          have HXQ := Aside0.mk vq
          rw [← HX4] at HP
          rw [← vx] at HP2
          have uge : ¬ ((u.size : Int) < 4) := by omega
          have uge2 : 4 ≤ u.size := by omega
          have ub : u.size ≤ 900000000000 := by omega
          have vge : ¬ ((u4.size : Int) < 6) := by omega
          have vge2 : 6 ≤ u4.size := by omega
          have vge3 : 0 < u4.size := by omega
          have vge4 : 1 < u4.size := by omega
          have v0 := v0 vge3
          have v1 := v1 vge4
          have vb : u4.size ≤ 900000000000 := by omega
          have HM : Aside0 (q.length < t1.size) := ⟨by have := HSz.out; omega⟩
          have HLE : Aside0 ((acc ++ utf8 z).length + q.length ≤ 900000000000) := ⟨by rw [List.length_append]; omega⟩
          have HLE0 : Aside0 (acc.length + (utf8 z).length ≤ 900000000000) := ⟨by omega⟩
          have hwx : IntKind.i32.wrap (x : Int) = (x : Int) := by rw [IntKind.wrap_i32]; omega
          have hwy : IntKind.i32.wrap (y : Int) = (y : Int) := by rw [IntKind.wrap_i32]; omega
          have HB := Aside0.mk (And.intro hB hb)
          have HL1 := Aside0.mk hl1
          rw [← hl1]
          have e1 : t1.extract 1 t1.size = u := HTT.out
          have e2 : u.extract 4 u.size = u4 := HXq
          clear hwt hT2 h4 hx h4' hx' hxx hyy hz hsn g1 g2 g3 g5 hlq hLe2 hu3 HX4 HXq usz vsz vx vq hu hu4 hur hB hb hl1 hok he HTT
          go_wp2_with fail
          refine (HP.out _).mono ?_
          rintro e w2 ⟨rfl, hbp⟩
          have HBp := Aside0.mk (And.intro (HB.out.1.on hbp) (HB.out.2.trans (hbp.mono HB.out.2.size)))
          clear hbp
          go_wp2_with fail
          refine (HSur.out _).mono ?_
          rintro e w4 ⟨rfl, rfl⟩
          go_wp2_with fail
          refine (HP2.out _).mono ?_
          rintro e w3 ⟨rfl, hbp⟩
          have HBq := Aside0.mk (And.intro (HBp.out.1.on hbp) (HBp.out.2.trans (hbp.mono HBp.out.2.size)))
          obtain ⟨g2, cap2, w5, hrun1, hB2, hb2⟩ := buf_str HBq.out.1 30 (utf8 z) (by have := HLE0.out; omega) HBq.out.2.size
          rw [← encode_utf8] at hrun1
          obtain ⟨l2, hl2⟩ : ∃ l, l = (acc ++ utf8 z).length := ⟨_, rfl⟩
          rw [← hl2, ← HL1.out] at hrun1
          have HL2 := Aside0.mk hl2
          have HBL := Aside0.mk (HBq.out.2.trans hb2)
          have HB2 := Aside0.mk hB2
          have HR1 := Aside0.mk hrun1
          clear hbp hrun1 hB2 hb2 hl2
          go_wp2_with fail
          refine (HDR.out _).mono ?_
          rintro e w6 ⟨rfl, rfl⟩
          go_wp2_with ((with_reducible refine at_bi (b := .append) (xs := #[.tmp 142, .tmp 144]) rfl ?_); at_builtin; refine wpList_append_run rfl (.tmp 142) (.tmp 144) 30 9 rfl _ _ _ rfl rfl HR1.out ?_)
          rw [HXQ.out]

          rcases HTC.out with ⟨h92, hF⟩ | ⟨p2, r2, m2, hre, h92, hw2, hF⟩
          · obtain ⟨g3, cap3, w3, hrun2, hB3, hb3⟩ := buf_str HB2.out 30 (q) (by have := HLE.out; omega) HBL.out.size
            have HI := Aside0.mk (fun w => idx92_no (q) w h92)
            rw [← HUR.out] at hrun2 HI
            have HC := Aside0.mk (b2s_any w3 _ _ cap3 _ hB3.C)
            have Hb3 := Aside0.mk (HBL.out.trans hb3)
            have HF := Aside0.mk (show bStr target = bStr ((acc ++ utf8 z) ++ (q)) by rw [hF])
            obtain ⟨l3, hl3⟩ : ∃ l, l = ((acc ++ utf8 z) ++ (q)).length := ⟨_, rfl⟩
            rw [← hl3] at hrun2 HC
            obtain ⟨fr, hfr⟩ : ∃ f, f = bStr ((acc ++ utf8 z) ++ (q)) := ⟨_, rfl⟩
            rw [← hfr] at HC HF
            rw [← HL2.out] at hrun2
            have HR2 := Aside0.mk hrun2
            clear h92 hF hrun2 hB3 hb3 hl3 hfr
            refine (HI.out _).mono ?_
            rintro e w4 ⟨rfl, rfl⟩
            go_wp2_with ((with_reducible refine at_bi (b := .append) (xs := #[.tmp 152, .tmp 153]) rfl ?_); at_builtin; refine wpList_append_run rfl (.tmp 152) (.tmp 153) 30 9 rfl _ _ _ rfl rfl HR2.out ?_)
            refine HC.out.mono ?_
            rintro e w5 ⟨rfl, rfl⟩
            go_wp2
            go_ret
            exact ⟨by rw [HF.out]; rfl, Hb3.out⟩
          · obtain ⟨g3, cap3, w3, hrun2, hB3, hb3⟩ := buf_str HB2.out 30 p2 (by have := HLE.out; have e := congrArg List.length hre; simp at e; omega) HBL.out.size
            have HI := Aside0.mk (fun w => idx92_at p2 r2 w h92)
            have hcut := cut92 p2 r2
            rw [← hre, ← HUR.out] at HI hcut
            obtain ⟨hc1, hc2, hc3⟩ := hcut
            obtain ⟨l3, hl3⟩ : ∃ l, l = ((acc ++ utf8 z) ++ p2).length := ⟨_, rfl⟩
            rw [← hl3] at hrun2
            rw [← HL2.out, ← hc2] at hrun2
            have HL3 := Aside0.mk hl3
            have HLE3 : Aside0 (((acc ++ utf8 z) ++ p2).length + r2.length ≤ 900000000000) := ⟨by have := HLE.out; have e := congrArg List.length hre; simp at e; rw [List.length_append]; omega⟩
            obtain ⟨k, hk⟩ : ∃ k, k = p2.length := ⟨_, rfl⟩
            rw [← hk] at hrun2 hc1 hc2 hc3 HI
            have HM3 : Aside0 (r2.length < t1.size) := ⟨by have := HM.out; have e := congrArg List.length hre; simp at e; omega⟩
            have HX1 := Aside0.mk hc1
            have b8 : k < ur.size := by omega
            have b9 : ur.size ≤ 900000000001 := by have := HLE.out; have e := congrArg List.length hre; simp at e; omega
            have Hb3 := Aside0.mk (HBL.out.trans hb3)
            have HF := Aside0.mk (And.intro hw2 hF)
            have HB3 := Aside0.mk hB3
            have HR2 := Aside0.mk hrun2
            clear h92 hF hw2 hrun2 hB3 hb3 hl3 hc1 hc2 hc3 hk hre
            refine (HI.out _).mono ?_
            rintro e w4 ⟨rfl, rfl⟩
            go_wp2_with ((with_reducible refine at_bi (b := .append) (xs := #[.tmp 155, .tmp 158]) rfl ?_); at_builtin; refine wpList_append_run rfl (.tmp 155) (.tmp 158) 30 9 rfl _ _ _ rfl rfl HR2.out ?_)
            go_roundw
            case rel => exact ⟨m2, (acc ++ utf8 z) ++ p2, r2, g3, cap3, by rw [HX1.out], by rw [HL3.out], HF.out.1, HF.out.2, HLE3.out, HB3.out, Hb3.out⟩
            case measure =>
              show szOf (.string (ur.extract (k + 1) ur.size)) < szOf (.string t1)
              rw [HX1.out]
              show (bStr r2).size < t1.size
              rw [bStr_size]
              exact HM3.out
end Go.Proofs.YtgldcjmdjhghpaaGreatDoor
