/-
  FnHeadCut: its walk.
-/
import Derived.Test.YtdldblfklalaeaaGreatDoorCx
namespace Go.Proofs.YtdldblfklalaeaaGreatDoor
open Go.RowKit Go.Proofs.YtdldblfklalaeaaGreatDoorW.PrintWords Go.ChangeShapes Go.WideShapes
set_option linter.unusedVariables false
set_option linter.unusedSimpArgs false
set_option maxRecDepth 100000
theorem ev_some {o : Option Value} {b : Bool} (h : o.getD undef = .bool b) : o = some (.bool b) := by
  cases o with
  | none => cases h
  | some v => exact congrArg some h
/-- What holds between the calls of a region: the cut text's copy, ahead of its reader. -/
def CtWI (Wr : World) (cut : Bs) (k : Nat) (t : Value) (w : World) : Prop := Below Wr.heap.size Wr w ∧ (k = 1 → ∃ A c, t = .slice A cut.length c ∧ kB.C w A cut.length cut)
def ct11Val (cv : Value) (ga : Nat) (nm : ByteArray) (t : Value) (d : Nat) : Value :=
  match d with
  | 47 => cv
  | 48 => t
  | 49 => .pointer (some ⟨ga, 0, none⟩)
  | 50 => .string nm
  | 51 => .tuple #[.string (bStr []), .bool false]
  | 46 => .tuple #[.string (bStr []), .bool false]
  | 52 => .string (bStr [])
  | 53 => .bool false
  | 12 => .string (bStr [])
  | 13 => .bool false
  | _ => undef
def ct11Dp (i : Nat) : List (Nat × Nat) :=
  match i with
  | 1 => [(0, 47)]
  | 3 => [(2, 49)]
  | 4 => [(1, 48), (3, 50)]
  | 5 => [(4, 51)]
  | 6 => [(5, 46)]
  | 7 => [(5, 46)]
  | 8 => [(6, 52)]
  | 9 => [(7, 53)]
  | _ => []
theorem ct11Val_ne (cv : Value) (ga : Nat) (nm : ByteArray) (t t' : Value) (d : Nat) (h : d ≠ 48) : ct11Val cv ga nm t' d = ct11Val cv ga nm t d := by
  unfold ct11Val
  split <;> first | rfl | exact absurd rfl h
def ct12Val (cv : Value) (ga : Nat) (nm : ByteArray) (t : Value) (d : Nat) : Value :=
  match d with
  | 55 => cv
  | 56 => t
  | 57 => .pointer (some ⟨ga, 0, none⟩)
  | 58 => .string nm
  | 59 => .tuple #[.int .i64 0, .bool false]
  | 54 => .tuple #[.int .i64 0, .bool false]
  | 60 => .int .i64 0
  | 61 => .bool false
  | 14 => .int .i64 0
  | 15 => .bool false
  | _ => undef
def ct12Dp (i : Nat) : List (Nat × Nat) :=
  match i with
  | 1 => [(0, 55)]
  | 3 => [(2, 57)]
  | 4 => [(1, 56), (3, 58)]
  | 5 => [(4, 59)]
  | 6 => [(5, 54)]
  | 7 => [(5, 54)]
  | 8 => [(6, 60)]
  | 9 => [(7, 61)]
  | _ => []
theorem ct12Val_ne (cv : Value) (ga : Nat) (nm : ByteArray) (t t' : Value) (d : Nat) (h : d ≠ 56) : ct12Val cv ga nm t' d = ct12Val cv ga nm t d := by
  unfold ct12Val
  split <;> first | rfl | exact absurd rfl h
def ct13Val (cv : Value) (ga : Nat) (nm : ByteArray) (t : Value) (d : Nat) : Value :=
  match d with
  | 63 => cv
  | 64 => t
  | 65 => .pointer (some ⟨ga, 0, none⟩)
  | 66 => .string nm
  | 67 => .tuple #[.bool false, .bool false]
  | 62 => .tuple #[.bool false, .bool false]
  | 68 => .bool false
  | 69 => .bool false
  | 16 => .bool false
  | 17 => .bool false
  | _ => undef
def ct13Dp (i : Nat) : List (Nat × Nat) :=
  match i with
  | 1 => [(0, 63)]
  | 3 => [(2, 65)]
  | 4 => [(1, 64), (3, 66)]
  | 5 => [(4, 67)]
  | 6 => [(5, 62)]
  | 7 => [(5, 62)]
  | 8 => [(6, 68)]
  | 9 => [(7, 69)]
  | _ => []
theorem ct13Val_ne (cv : Value) (ga : Nat) (nm : ByteArray) (t t' : Value) (d : Nat) (h : d ≠ 64) : ct13Val cv ga nm t' d = ct13Val cv ga nm t d := by
  unfold ct13Val
  split <;> first | rfl | exact absurd rfl h
def ct14Val (cv : Value) (ga : Nat) (nm : ByteArray) (t : Value) (d : Nat) : Value :=
  match d with
  | 71 => cv
  | 72 => t
  | 73 => .pointer (some ⟨ga, 0, none⟩)
  | 74 => .string nm
  | 75 => .tuple #[.slice none 0 0, .bool false]
  | 70 => .tuple #[.slice none 0 0, .bool false]
  | 76 => .slice none 0 0
  | 77 => .bool false
  | 18 => .slice none 0 0
  | 19 => .bool false
  | _ => undef
def ct14Dp (i : Nat) : List (Nat × Nat) :=
  match i with
  | 1 => [(0, 71)]
  | 3 => [(2, 73)]
  | 4 => [(1, 72), (3, 74)]
  | 5 => [(4, 75)]
  | 6 => [(5, 70)]
  | 7 => [(5, 70)]
  | 8 => [(6, 76)]
  | 9 => [(7, 77)]
  | _ => []
theorem ct14Val_ne (cv : Value) (ga : Nat) (nm : ByteArray) (t t' : Value) (d : Nat) (h : d ≠ 72) : ct14Val cv ga nm t' d = ct14Val cv ga nm t d := by
  unfold ct14Val
  split <;> first | rfl | exact absurd rfl h
def ct15Val (cv : Value) (ga : Nat) (nm : ByteArray) (t : Value) (d : Nat) : Value :=
  match d with
  | 78 => .bool false
  | 79 => .bool false
  | 80 => .bool false
  | 81 => .bool false
  | 82 => .bool false
  | 83 => .bool false
  | 84 => .bool false
  | 85 => .bool false
  | 86 => .bool false
  | 87 => .bool false
  | 88 => .bool false
  | 89 => cv
  | 90 => t
  | 91 => .pointer (some ⟨ga, 0, none⟩)
  | 92 => .string nm
  | 93 => .bool false
  | 94 => .bool false
  | _ => undef
def ct15Dp (i : Nat) : List (Nat × Nat) :=
  match i with
  | 1 => [(0, 78)]
  | 2 => [(1, 79)]
  | 3 => [(1, 79), (2, 80)]
  | 4 => [(3, 81)]
  | 5 => [(4, 82)]
  | 6 => [(4, 82), (5, 83)]
  | 7 => [(6, 84)]
  | 8 => [(7, 85)]
  | 9 => [(7, 85), (8, 86)]
  | 10 => [(9, 87)]
  | 11 => [(10, 88)]
  | 12 => [(11, 89), (10, 88)]
  | 13 => [(10, 88)]
  | 14 => [(13, 91), (10, 88)]
  | 15 => [(12, 90), (14, 92), (10, 88)]
  | 16 => [(10, 88), (15, 93)]
  | _ => []
theorem ct15Val_ne (cv : Value) (ga : Nat) (nm : ByteArray) (t t' : Value) (d : Nat) (h : d ≠ 90) : ct15Val cv ga nm t' d = ct15Val cv ga nm t d := by
  unfold ct15Val
  split <;> first | rfl | exact absurd rfl h
/-- A header's text, cut ahead of its end, is no header. -/
theorem cut_told (l : List Hf) (x : Nat) (k e : Nat) (he : (headF l x)[e]? = some 125) (hk : k ≤ e) : pTop ((headF l x).take k) = none := by
  obtain ⟨kvs, a, q, b, e1, ha, hb, hr, _, _, _⟩ := headF_reads l x
  refine pTop_cut ha hb hr (by decide) (p := (headF l x).take k) (x := (headF l x).drop k) (by rw [List.take_append_drop, e1]) ?_
  have : ((headF l x).drop k)[e - k]? = some 125 := by rw [List.getElem?_drop, show k + (e - k) = e by omega]; exact he
  exact List.mem_of_getElem? this
theorem end_told (l : List Hf) (x : Nat) : (125 : UInt8) ∈ headF l x := by
  obtain ⟨kvs, a, q, b, e1, _, _, _, _, _, q', hq⟩ := headF_reads l x
  rw [e1, hq]
  simp
set_option maxHeartbeats 16000000 in
theorem headCut_any (w : World) (A : Option Addr) (n c : Nat) (l : List Hf) (x at' : Nat) (hC : kHf.C w A n l) (hW : ∀ f ∈ l, FWf f) (hT : Tabs w) (hx : x < 18446744073709551616) (hat : at' < 65536) :
    Calls Tryz.prog 4 #[.slice A n c, .int .u64 (x : Int), .int .u16 (at' : Int)] w fun e w' => e = .returned (.bool true) ∧ Below w.heap.size w w' := by
  have hu2 := Tryz.underlying45
  obtain rfl : n = l.length := hC.1.symm
  have HLv := Aside0.mk (fun w => headLive_any w)
  have HT := Aside0.mk (fun (wz : World) (hb : Below w.heap.size w wz) => hT.on hb)
  have HC := Aside0.mk (fun (wz : World) (hb : Below w.heap.size w wz) => Kd.C_below hC hb)
  have HW := Aside0.mk hW
  have F9 := Aside0.mk (fz9_any w A l.length c l hC)
  clear hT hC hW
  go_enter Tryz.func4, Tryz.ntmps4
  go_wp2_with fail
  refine F9.out.mono ?_
  rintro e w1 ⟨⟨b, rfl⟩, h1⟩
  have H1 := Aside0.mk h1
  clear h1 F9
  cases b with
  | false =>
    go_wp2
    go_ret
    exact ⟨rfl, H1.out.below⟩
  | true =>
    go_wp2_with fail
    refine (headFits_any w1 A l.length c l (HC.out _ H1.out.below) HW.out (HT.out _ H1.out.below)).mono ?_
    rintro e w2 ⟨b2, rfl, hg, h2⟩
    have HG := Aside0.mk hg
    have H2 := Aside0.mk (H1.out.of_below h2.below)
    clear h2 hg H1
    cases b2 with
    | false =>
      go_wp2_with fail
      refine (HLv.out _).mono ?_
      rintro e w3 ⟨rfl, hb⟩
      have H3 := Aside0.mk (H2.out.of_below hb)
      clear hb
      go_wp2
      go_ret
      exact ⟨rfl, H3.out.below⟩
    | true =>
      replace HG := Aside0.mk (HG.out rfl)
      have hll : l.length ≤ 30 := HG.out.1
      go_wp2_with fail
      refine (headText_any w2 A l.length c x l (HC.out _ H2.out.below) HG.out.1 HG.out.2.1 hx).mono ?_
      rintro e w4 ⟨rfl, hb⟩
      have H4 := Aside0.mk (H2.out.of_below hb)
      clear hb H2
      have hen := end_told l x
      have hcutA := cut_told l x
      obtain ⟨t, ht⟩ : ∃ t, t = headF l x := ⟨_, rfl⟩
      have htl : t.length ≤ 200000000 := ht ▸ headF_len l x HG.out.1 HG.out.2.1
      rw [← ht] at hen hcutA
      obtain ⟨W, g, cap, hcv, hB, hb⟩ := conv_s2b w4 t (by omega)
      have H5 := Aside0.mk (H4.out.of_below hb)
      have HBt := Aside0.mk (fun (wz : World) (h : Below W.heap.size W wz) (K : Nat) => Kd.C_below (hB.take K).C h)
      have hcap : t.length ≤ cap := hB.len
      have HLb := Aside0.mk (lastI_any W _ _ cap t 125 hB.C hen)
      have HCa := Aside0.mk hcutA
      rw [← ht]
      clear hb hB H4 hen hcutA ht
      go_wp2_with fail
      refine HLb.out.mono ?_
      rintro e w5 ⟨⟨ke, rfl, hke⟩, rfl⟩
      have hkl : ke < t.length := (List.getElem?_eq_some_iff.1 hke).1
      obtain ⟨K, hK⟩ : ∃ K : Nat, K = at' % (ke + 1) := ⟨_, rfl⟩
      have hKe : K ≤ ke := by have := Nat.mod_lt at' (show 0 < ke + 1 by omega); omega
      have hrem : Int.tmod (at' : Int) ((ke : Int) + 1) = (K : Int) := by rw [hK]; exact (Int.ofNat_tmod at' (ke + 1)).symm
      obtain ⟨cut, hcut0⟩ : ∃ cut, cut = t.take K := ⟨_, rfl⟩
      have hcl : cut.length = K := by rw [hcut0, List.length_take]; omega
      have hp0 : pTop cut = none := hcut0 ▸ HCa.out K ke hke hKe
      have HBc := Aside0.mk (fun (wz : World) (h : Below w5.heap.size w5 wz) => (show kB.C wz (some ⟨g, 0, none⟩) cut.length cut from (by rw [hcut0]; exact HBt.out wz h K)))
      clear hcut0 hK hke HLb hcv HBt HCa
      go_wp2
      go_loopw [42] (fun i wr => ∃ k : Nat, k ≤ l.length ∧ i = .int .i64 k ∧ Below w5.heap.size w5 wr) (fun i _ => l.length - (intOf i).toNat)
      case atStart => exact ⟨0, Nat.zero_le _, rfl, Below.refl _ _⟩
      case round =>
        obtain ⟨k, hk, rfl, hRb⟩ := hrel
        have HRb := Aside0.mk hRb
        have HR := Aside0.mk (H5.out.of_below hRb)
        clear hRb
        by_cases hlt : k < l.length
        · obtain ⟨ad, A6, c6, rfl, hf0⟩ := HcIs.get (HC.out _ HR.out.below) k hlt
          obtain ⟨_, hle, e0, e1, e2, e3, e4, e5, e6⟩ := hf0
          have hlt2 : k + 1 ≤ l.length := hlt
          generalize hf : l[k] = f at *
          clear hf
          obtain ⟨Wr, hWr⟩ : ∃ Wr, Wr = wr.alloc (.cells #[.string f.1, .int .u8 f.2.1, .bool f.2.2.1, .bool f.2.2.2.1, .int .u64 f.2.2.2.2.1, .string f.2.2.2.2.2.1, .slice A6 f.2.2.2.2.2.2.length c6] 45) := ⟨_, rfl⟩
          obtain ⟨ga, hga⟩ : ∃ ga, ga = wr.heap.size := ⟨_, rfl⟩
          obtain ⟨nm, hnm⟩ : ∃ nm, nm = f.1 := ⟨_, rfl⟩
          have HWb : Aside0 (Below w5.heap.size w5 Wr) := ⟨by rw [hWr]; exact HRb.out.alloc HRb.out.size _⟩
          have HN : Aside0 (∀ wz, Below Wr.heap.size Wr wz → wz.cell? ⟨ga, 0, none⟩ = some (.string nm)) := ⟨fun wz hb => by
            have h0 : Wr.cell? ⟨ga, 0, none⟩ = some (.string nm) := by rw [hWr, hga, hnm, World.cell?_alloc_new]; rfl
            exact (hb.cell (cell_lt h0)).trans h0⟩
          obtain ⟨cv, hcv⟩ : ∃ cv : Value, cv = .slice (some ⟨g, 0, none⟩) K cap := ⟨_, rfl⟩
          have HCV : Aside0 (cv = .slice (some ⟨g, 0, none⟩) cut.length cap) := ⟨by rw [hcv, hcl]⟩
          have HCl : Aside0 (∀ wz, Below Wr.heap.size Wr wz → Calls Tryz.prog 14 #[.slice (some ⟨g, 0, none⟩) cut.length cap] wz fun e w' => ∃ v, e = .returned v ∧ Hold wz wz.heap.size w' [.row kB 5 v cut]) := ⟨fun wz hb => bcloneH_any wz _ _ cap cut (by omega) (HBc.out wz (HWb.out.trans (hb.mono HWb.out.size)))⟩
          have hcl9 : cut.length ≤ 900000000000 := by omega
          have HR11 : Aside0 (∀ (wz : World) (n c : Nat) (A : Option Addr), kB.C wz A n cut → Calls Tryz.prog 13 #[.slice A n c, .string nm] wz fun e w' => e = .returned (.tuple #[.string (bStr []), .bool false]) ∧ Below wz.heap.size wz w') := ⟨fun wz n c A h => by
            have := headString_none cut nm.data.toList wz n c A hcl9 (by rw [← h.1]; exact hcl9) h hp0
            rwa [bStr_data] at this⟩
          have HR12 : Aside0 (∀ (wz : World) (n c : Nat) (A : Option Addr), kB.C wz A n cut → Calls Tryz.prog 24 #[.slice A n c, .string nm] wz fun e w' => e = .returned (.tuple #[.int .i64 0, .bool false]) ∧ Below wz.heap.size wz w') := ⟨fun wz n c A h => by
            have := headInt64_none cut nm.data.toList wz n c A hcl9 (by rw [← h.1]; exact hcl9) h hp0
            rwa [bStr_data] at this⟩
          have HR13 : Aside0 (∀ (wz : World) (n c : Nat) (A : Option Addr), kB.C wz A n cut → Calls Tryz.prog 25 #[.slice A n c, .string nm] wz fun e w' => e = .returned (.tuple #[.bool false, .bool false]) ∧ Below wz.heap.size wz w') := ⟨fun wz n c A h => by
            have := headBool_none cut nm.data.toList wz n c A hcl9 (by rw [← h.1]; exact hcl9) h hp0
            rwa [bStr_data] at this⟩
          have HR14 : Aside0 (∀ (wz : World) (n c : Nat) (A : Option Addr), kB.C wz A n cut → Calls Tryz.prog 26 #[.slice A n c, .string nm] wz fun e w' => e = .returned (.tuple #[.slice none 0 0, .bool false]) ∧ Below wz.heap.size wz w') := ⟨fun wz n c A h => by
            have := headList_none cut nm.data.toList wz n c A hcl9 (by rw [← h.1]; exact hcl9) h hp0
            rwa [bStr_data] at this⟩
          have HR15 : Aside0 (∀ (wz : World) (n c : Nat) (A : Option Addr), kB.C wz A n cut → Calls Tryz.prog 18 #[.slice A n c, .string nm] wz fun e w' => e = .returned (.bool false) ∧ Below wz.heap.size wz w') := ⟨fun wz n c A h => by
            have := headHas_none cut nm.data.toList wz n c A hcl9 (by rw [← h.1]; exact hcl9) h hp0
            rwa [bStr_data] at this⟩
          have HWr := Aside0.mk hWr
          have HGa := Aside0.mk hga
          have HCv0 := Aside0.mk hcv
          have HB : Aside0 (Below Wr.heap.size Wr Wr) := ⟨Below.refl _ _⟩
          clear hWr hga hnm hcv hcl9 hp0 hcl HR HRb
          go_upto_region 11 with (fail)
          rw [← HWr.out, ← HGa.out, ← HCv0.out]
          go_cut [13] from 46 to 53 (fun x13 wx => x13 = .bool false ∧ Below Wr.heap.size Wr wx)
          case first =>
            rename_i J K1 hJ hK1
            refine wp_region_any (by kernel_rfl) ?_
            change wpAny _ _ _ _ _ _ _ (World.drew _)
            refine region_chainT _ _ [47, 48, 49, 50, 51, 46, 52, 53, 12, 13] (ct11Val cv ga nm) ct11Dp (fun _ => []) [1, 4] (CtWI Wr cut) (by kernel_rfl) (by kernel_rfl) (by kernel_rfl) (by kernel_rfl) undef ?_ ?_ ?_
            case' refine_1 => exact ⟨HB.out.drew, fun h => by cases h⟩
            refine StepsT.quiet (by decide) (fun k t a wc hI hc hp hr K hK => ?_) ?_
            · -- slot 47
              have q9 : a.tmps[9]?.getD undef = cv := ev_get (hc 9 (by decide))
              have HI := Aside0.mk hI
              clear hp hc hr hI
              go_simp
              exact hK _ HI.out
            refine StepsT.call 0 rfl (fun t a wc hI hc hp hr K hK => ?_) ?_
            · -- slot 48
              have q47 : a.tmps[47]?.getD undef = cv := ev_get (hp (0, 47) (by simp [ct11Dp]))
              have HQ := Aside0.mk (HCl.out wc hI.1)
              have HI := Aside0.mk hI.1
              clear hp hc hr hI
              rw [HCV.out] at q47
              go_simp
              refine HQ.out.mono ?_
              rintro e w2 ⟨v2, rfl, hS⟩
              obtain ⟨A2, c2, rfl, hle2, hC2⟩ := hS.reads 0 rfl
              exact hK _ _ ⟨HI.out.trans (hS.below.mono HI.out.size), fun _ => ⟨A2, c2, rfl, hC2⟩⟩ (fun d' hd' => ct11Val_ne _ _ _ _ _ d' hd')
            refine StepsT.quiet (by decide) (fun k t a wc hI hc hp hr K hK => ?_) ?_
            · -- slot 49
              have q11 : a.tmps[11]?.getD undef = .pointer (some ⟨ga, 0, none⟩) := ev_get (hc 11 (by decide))
              have HI := Aside0.mk hI
              clear hp hc hr hI
              go_simp
              exact hK _ HI.out
            refine StepsT.quiet (by decide) (fun k t a wc hI hc hp hr K hK => ?_) ?_
            · -- slot 50
              have q49 : a.tmps[49]?.getD undef = .pointer (some ⟨ga, 0, none⟩) := ev_get (hp (2, 49) (by simp [ct11Dp]))
              have kl : wc.cell? ⟨ga, 0, none⟩ = some (.string nm) := HN.out _ hI.1
              have HI := Aside0.mk hI
              clear hp hc hr hI
              go_simp
              exact hK _ HI.out
            refine StepsT.call 1 rfl (fun t a wc hI hc hp hr K hK => ?_) ?_
            · -- slot 51
              have q48 : a.tmps[48]?.getD undef = t := ev_get (hp (1, 48) (by simp [ct11Dp]))
              have q50 : a.tmps[50]?.getD undef = .string nm := ev_get (hp (3, 50) (by simp [ct11Dp]))
              obtain ⟨hIb, hIc⟩ := hI
              obtain ⟨A2, c2, rfl, hC2⟩ := hIc rfl
              have HQ := Aside0.mk (HR11.out wc cut.length c2 A2 hC2)
              have HI := Aside0.mk hIb
              clear hp hc hr hIb hIc hC2
              go_simp
              refine HQ.out.mono ?_
              rintro e w2 ⟨rfl, hS⟩
              exact hK _ _ ⟨HI.out.trans (hS.mono HI.out.size), fun h => by cases h⟩ (fun _ _ => rfl)
            refine StepsT.quiet (by decide) (fun k t a wc hI hc hp hr K hK => ?_) ?_
            · -- slot 46
              have q51 : a.tmps[51]?.getD undef = .tuple #[.string (bStr []), .bool false] := ev_get (hp (4, 51) (by simp [ct11Dp]))
              have HI := Aside0.mk hI
              clear hp hc hr hI
              go_simp
              exact hK _ HI.out
            refine StepsT.quiet (by decide) (fun k t a wc hI hc hp hr K hK => ?_) ?_
            · -- slot 52
              have q46 : a.tmps[46]?.getD undef = .tuple #[.string (bStr []), .bool false] := ev_get (hp (5, 46) (by simp [ct11Dp]))
              have HI := Aside0.mk hI
              clear hp hc hr hI
              go_simp
              exact hK _ HI.out
            refine StepsT.quiet (by decide) (fun k t a wc hI hc hp hr K hK => ?_) ?_
            · -- slot 53
              have q46 : a.tmps[46]?.getD undef = .tuple #[.string (bStr []), .bool false] := ev_get (hp (5, 46) (by simp [ct11Dp]))
              have HI := Aside0.mk hI
              clear hp hc hr hI
              go_simp
              exact hK _ HI.out
            refine StepsT.quiet (by decide) (fun k t a wc hI hc hp hr K hK => ?_) ?_
            · -- slot 12
              have q52 : a.tmps[52]?.getD undef = .string (bStr []) := ev_get (hp (6, 52) (by simp [ct11Dp]))
              have HI := Aside0.mk hI
              clear hp hc hr hI
              go_simp
              exact hK _ HI.out
            refine StepsT.quiet (by decide) (fun k t a wc hI hc hp hr K hK => ?_) ?_
            · -- slot 13
              have q53 : a.tmps[53]?.getD undef = .bool false := ev_get (hp (7, 53) (by simp [ct11Dp]))
              have HI := Aside0.mk hI
              clear hp hc hr hI
              go_simp
              exact hK _ HI.out
            exact StepsT.nil _
            · intro t wz hI
              exact hK1 _ _ (Met.intro (hJ _ _ ⟨(.string (bStr [])), (.bool false), (.tuple #[.string (bStr []), .bool false]), (cv), (t), (.pointer (some ⟨ga, 0, none⟩)), (.string nm), (.tuple #[.string (bStr []), .bool false]), (.string (bStr [])), (.bool false), ⟨rfl, hI.1⟩, by kernel_rfl⟩))
          case rest =>
            obtain ⟨rfl, hb⟩ := hcut
            replace HB := Aside0.mk hb
            clear hb
            go_upto_region 12 with (fail)
            go_cut [15] from 54 to 61 (fun x15 wx => x15 = .bool false ∧ Below Wr.heap.size Wr wx)
            case first =>
              rename_i J K1 hJ hK1
              refine wp_region_any (by kernel_rfl) ?_
              change wpAny _ _ _ _ _ _ _ (World.drew _)
              refine region_chainT _ _ [55, 56, 57, 58, 59, 54, 60, 61, 14, 15] (ct12Val cv ga nm) ct12Dp (fun _ => []) [1, 4] (CtWI Wr cut) (by kernel_rfl) (by kernel_rfl) (by kernel_rfl) (by kernel_rfl) undef ?_ ?_ ?_
              case' refine_1 => exact ⟨HB.out.drew, fun h => by cases h⟩
              refine StepsT.quiet (by decide) (fun k t a wc hI hc hp hr K hK => ?_) ?_
              · -- slot 55
                have q9 : a.tmps[9]?.getD undef = cv := ev_get (hc 9 (by decide))
                have HI := Aside0.mk hI
                clear hp hc hr hI
                go_simp
                exact hK _ HI.out
              refine StepsT.call 0 rfl (fun t a wc hI hc hp hr K hK => ?_) ?_
              · -- slot 56
                have q55 : a.tmps[55]?.getD undef = cv := ev_get (hp (0, 55) (by simp [ct12Dp]))
                have HQ := Aside0.mk (HCl.out wc hI.1)
                have HI := Aside0.mk hI.1
                clear hp hc hr hI
                rw [HCV.out] at q55
                go_simp
                refine HQ.out.mono ?_
                rintro e w2 ⟨v2, rfl, hS⟩
                obtain ⟨A2, c2, rfl, hle2, hC2⟩ := hS.reads 0 rfl
                exact hK _ _ ⟨HI.out.trans (hS.below.mono HI.out.size), fun _ => ⟨A2, c2, rfl, hC2⟩⟩ (fun d' hd' => ct12Val_ne _ _ _ _ _ d' hd')
              refine StepsT.quiet (by decide) (fun k t a wc hI hc hp hr K hK => ?_) ?_
              · -- slot 57
                have q11 : a.tmps[11]?.getD undef = .pointer (some ⟨ga, 0, none⟩) := ev_get (hc 11 (by decide))
                have HI := Aside0.mk hI
                clear hp hc hr hI
                go_simp
                exact hK _ HI.out
              refine StepsT.quiet (by decide) (fun k t a wc hI hc hp hr K hK => ?_) ?_
              · -- slot 58
                have q57 : a.tmps[57]?.getD undef = .pointer (some ⟨ga, 0, none⟩) := ev_get (hp (2, 57) (by simp [ct12Dp]))
                have kl : wc.cell? ⟨ga, 0, none⟩ = some (.string nm) := HN.out _ hI.1
                have HI := Aside0.mk hI
                clear hp hc hr hI
                go_simp
                exact hK _ HI.out
              refine StepsT.call 1 rfl (fun t a wc hI hc hp hr K hK => ?_) ?_
              · -- slot 59
                have q56 : a.tmps[56]?.getD undef = t := ev_get (hp (1, 56) (by simp [ct12Dp]))
                have q58 : a.tmps[58]?.getD undef = .string nm := ev_get (hp (3, 58) (by simp [ct12Dp]))
                obtain ⟨hIb, hIc⟩ := hI
                obtain ⟨A2, c2, rfl, hC2⟩ := hIc rfl
                have HQ := Aside0.mk (HR12.out wc cut.length c2 A2 hC2)
                have HI := Aside0.mk hIb
                clear hp hc hr hIb hIc hC2
                go_simp
                refine HQ.out.mono ?_
                rintro e w2 ⟨rfl, hS⟩
                exact hK _ _ ⟨HI.out.trans (hS.mono HI.out.size), fun h => by cases h⟩ (fun _ _ => rfl)
              refine StepsT.quiet (by decide) (fun k t a wc hI hc hp hr K hK => ?_) ?_
              · -- slot 54
                have q59 : a.tmps[59]?.getD undef = .tuple #[.int .i64 0, .bool false] := ev_get (hp (4, 59) (by simp [ct12Dp]))
                have HI := Aside0.mk hI
                clear hp hc hr hI
                go_simp
                exact hK _ HI.out
              refine StepsT.quiet (by decide) (fun k t a wc hI hc hp hr K hK => ?_) ?_
              · -- slot 60
                have q54 : a.tmps[54]?.getD undef = .tuple #[.int .i64 0, .bool false] := ev_get (hp (5, 54) (by simp [ct12Dp]))
                have HI := Aside0.mk hI
                clear hp hc hr hI
                go_simp
                exact hK _ HI.out
              refine StepsT.quiet (by decide) (fun k t a wc hI hc hp hr K hK => ?_) ?_
              · -- slot 61
                have q54 : a.tmps[54]?.getD undef = .tuple #[.int .i64 0, .bool false] := ev_get (hp (5, 54) (by simp [ct12Dp]))
                have HI := Aside0.mk hI
                clear hp hc hr hI
                go_simp
                exact hK _ HI.out
              refine StepsT.quiet (by decide) (fun k t a wc hI hc hp hr K hK => ?_) ?_
              · -- slot 14
                have q60 : a.tmps[60]?.getD undef = .int .i64 0 := ev_get (hp (6, 60) (by simp [ct12Dp]))
                have HI := Aside0.mk hI
                clear hp hc hr hI
                go_simp
                exact hK _ HI.out
              refine StepsT.quiet (by decide) (fun k t a wc hI hc hp hr K hK => ?_) ?_
              · -- slot 15
                have q61 : a.tmps[61]?.getD undef = .bool false := ev_get (hp (7, 61) (by simp [ct12Dp]))
                have HI := Aside0.mk hI
                clear hp hc hr hI
                go_simp
                exact hK _ HI.out
              exact StepsT.nil _
              · intro t wz hI
                exact hK1 _ _ (Met.intro (hJ _ _ ⟨(.int .i64 0), (.bool false), (.tuple #[.int .i64 0, .bool false]), (cv), (t), (.pointer (some ⟨ga, 0, none⟩)), (.string nm), (.tuple #[.int .i64 0, .bool false]), (.int .i64 0), (.bool false), ⟨rfl, hI.1⟩, by kernel_rfl⟩))
            case rest =>
              obtain ⟨rfl, hb⟩ := hcut
              replace HB := Aside0.mk hb
              clear hb
              go_upto_region 13 with (fail)
              go_cut [17] from 62 to 69 (fun x17 wx => x17 = .bool false ∧ Below Wr.heap.size Wr wx)
              case first =>
                rename_i J K1 hJ hK1
                refine wp_region_any (by kernel_rfl) ?_
                change wpAny _ _ _ _ _ _ _ (World.drew _)
                refine region_chainT _ _ [63, 64, 65, 66, 67, 62, 68, 69, 16, 17] (ct13Val cv ga nm) ct13Dp (fun _ => []) [1, 4] (CtWI Wr cut) (by kernel_rfl) (by kernel_rfl) (by kernel_rfl) (by kernel_rfl) undef ?_ ?_ ?_
                case' refine_1 => exact ⟨HB.out.drew, fun h => by cases h⟩
                refine StepsT.quiet (by decide) (fun k t a wc hI hc hp hr K hK => ?_) ?_
                · -- slot 63
                  have q9 : a.tmps[9]?.getD undef = cv := ev_get (hc 9 (by decide))
                  have HI := Aside0.mk hI
                  clear hp hc hr hI
                  go_simp
                  exact hK _ HI.out
                refine StepsT.call 0 rfl (fun t a wc hI hc hp hr K hK => ?_) ?_
                · -- slot 64
                  have q63 : a.tmps[63]?.getD undef = cv := ev_get (hp (0, 63) (by simp [ct13Dp]))
                  have HQ := Aside0.mk (HCl.out wc hI.1)
                  have HI := Aside0.mk hI.1
                  clear hp hc hr hI
                  rw [HCV.out] at q63
                  go_simp
                  refine HQ.out.mono ?_
                  rintro e w2 ⟨v2, rfl, hS⟩
                  obtain ⟨A2, c2, rfl, hle2, hC2⟩ := hS.reads 0 rfl
                  exact hK _ _ ⟨HI.out.trans (hS.below.mono HI.out.size), fun _ => ⟨A2, c2, rfl, hC2⟩⟩ (fun d' hd' => ct13Val_ne _ _ _ _ _ d' hd')
                refine StepsT.quiet (by decide) (fun k t a wc hI hc hp hr K hK => ?_) ?_
                · -- slot 65
                  have q11 : a.tmps[11]?.getD undef = .pointer (some ⟨ga, 0, none⟩) := ev_get (hc 11 (by decide))
                  have HI := Aside0.mk hI
                  clear hp hc hr hI
                  go_simp
                  exact hK _ HI.out
                refine StepsT.quiet (by decide) (fun k t a wc hI hc hp hr K hK => ?_) ?_
                · -- slot 66
                  have q65 : a.tmps[65]?.getD undef = .pointer (some ⟨ga, 0, none⟩) := ev_get (hp (2, 65) (by simp [ct13Dp]))
                  have kl : wc.cell? ⟨ga, 0, none⟩ = some (.string nm) := HN.out _ hI.1
                  have HI := Aside0.mk hI
                  clear hp hc hr hI
                  go_simp
                  exact hK _ HI.out
                refine StepsT.call 1 rfl (fun t a wc hI hc hp hr K hK => ?_) ?_
                · -- slot 67
                  have q64 : a.tmps[64]?.getD undef = t := ev_get (hp (1, 64) (by simp [ct13Dp]))
                  have q66 : a.tmps[66]?.getD undef = .string nm := ev_get (hp (3, 66) (by simp [ct13Dp]))
                  obtain ⟨hIb, hIc⟩ := hI
                  obtain ⟨A2, c2, rfl, hC2⟩ := hIc rfl
                  have HQ := Aside0.mk (HR13.out wc cut.length c2 A2 hC2)
                  have HI := Aside0.mk hIb
                  clear hp hc hr hIb hIc hC2
                  go_simp
                  refine HQ.out.mono ?_
                  rintro e w2 ⟨rfl, hS⟩
                  exact hK _ _ ⟨HI.out.trans (hS.mono HI.out.size), fun h => by cases h⟩ (fun _ _ => rfl)
                refine StepsT.quiet (by decide) (fun k t a wc hI hc hp hr K hK => ?_) ?_
                · -- slot 62
                  have q67 : a.tmps[67]?.getD undef = .tuple #[.bool false, .bool false] := ev_get (hp (4, 67) (by simp [ct13Dp]))
                  have HI := Aside0.mk hI
                  clear hp hc hr hI
                  go_simp
                  exact hK _ HI.out
                refine StepsT.quiet (by decide) (fun k t a wc hI hc hp hr K hK => ?_) ?_
                · -- slot 68
                  have q62 : a.tmps[62]?.getD undef = .tuple #[.bool false, .bool false] := ev_get (hp (5, 62) (by simp [ct13Dp]))
                  have HI := Aside0.mk hI
                  clear hp hc hr hI
                  go_simp
                  exact hK _ HI.out
                refine StepsT.quiet (by decide) (fun k t a wc hI hc hp hr K hK => ?_) ?_
                · -- slot 69
                  have q62 : a.tmps[62]?.getD undef = .tuple #[.bool false, .bool false] := ev_get (hp (5, 62) (by simp [ct13Dp]))
                  have HI := Aside0.mk hI
                  clear hp hc hr hI
                  go_simp
                  exact hK _ HI.out
                refine StepsT.quiet (by decide) (fun k t a wc hI hc hp hr K hK => ?_) ?_
                · -- slot 16
                  have q68 : a.tmps[68]?.getD undef = .bool false := ev_get (hp (6, 68) (by simp [ct13Dp]))
                  have HI := Aside0.mk hI
                  clear hp hc hr hI
                  go_simp
                  exact hK _ HI.out
                refine StepsT.quiet (by decide) (fun k t a wc hI hc hp hr K hK => ?_) ?_
                · -- slot 17
                  have q69 : a.tmps[69]?.getD undef = .bool false := ev_get (hp (7, 69) (by simp [ct13Dp]))
                  have HI := Aside0.mk hI
                  clear hp hc hr hI
                  go_simp
                  exact hK _ HI.out
                exact StepsT.nil _
                · intro t wz hI
                  exact hK1 _ _ (Met.intro (hJ _ _ ⟨(.bool false), (.bool false), (.tuple #[.bool false, .bool false]), (cv), (t), (.pointer (some ⟨ga, 0, none⟩)), (.string nm), (.tuple #[.bool false, .bool false]), (.bool false), (.bool false), ⟨rfl, hI.1⟩, by kernel_rfl⟩))
              case rest =>
                obtain ⟨rfl, hb⟩ := hcut
                replace HB := Aside0.mk hb
                clear hb
                go_upto_region 14 with (fail)
                go_cut [19] from 70 to 77 (fun x19 wx => x19 = .bool false ∧ Below Wr.heap.size Wr wx)
                case first =>
                  rename_i J K1 hJ hK1
                  refine wp_region_any (by kernel_rfl) ?_
                  change wpAny _ _ _ _ _ _ _ (World.drew _)
                  refine region_chainT _ _ [71, 72, 73, 74, 75, 70, 76, 77, 18, 19] (ct14Val cv ga nm) ct14Dp (fun _ => []) [1, 4] (CtWI Wr cut) (by kernel_rfl) (by kernel_rfl) (by kernel_rfl) (by kernel_rfl) undef ?_ ?_ ?_
                  case' refine_1 => exact ⟨HB.out.drew, fun h => by cases h⟩
                  refine StepsT.quiet (by decide) (fun k t a wc hI hc hp hr K hK => ?_) ?_
                  · -- slot 71
                    have q9 : a.tmps[9]?.getD undef = cv := ev_get (hc 9 (by decide))
                    have HI := Aside0.mk hI
                    clear hp hc hr hI
                    go_simp
                    exact hK _ HI.out
                  refine StepsT.call 0 rfl (fun t a wc hI hc hp hr K hK => ?_) ?_
                  · -- slot 72
                    have q71 : a.tmps[71]?.getD undef = cv := ev_get (hp (0, 71) (by simp [ct14Dp]))
                    have HQ := Aside0.mk (HCl.out wc hI.1)
                    have HI := Aside0.mk hI.1
                    clear hp hc hr hI
                    rw [HCV.out] at q71
                    go_simp
                    refine HQ.out.mono ?_
                    rintro e w2 ⟨v2, rfl, hS⟩
                    obtain ⟨A2, c2, rfl, hle2, hC2⟩ := hS.reads 0 rfl
                    exact hK _ _ ⟨HI.out.trans (hS.below.mono HI.out.size), fun _ => ⟨A2, c2, rfl, hC2⟩⟩ (fun d' hd' => ct14Val_ne _ _ _ _ _ d' hd')
                  refine StepsT.quiet (by decide) (fun k t a wc hI hc hp hr K hK => ?_) ?_
                  · -- slot 73
                    have q11 : a.tmps[11]?.getD undef = .pointer (some ⟨ga, 0, none⟩) := ev_get (hc 11 (by decide))
                    have HI := Aside0.mk hI
                    clear hp hc hr hI
                    go_simp
                    exact hK _ HI.out
                  refine StepsT.quiet (by decide) (fun k t a wc hI hc hp hr K hK => ?_) ?_
                  · -- slot 74
                    have q73 : a.tmps[73]?.getD undef = .pointer (some ⟨ga, 0, none⟩) := ev_get (hp (2, 73) (by simp [ct14Dp]))
                    have kl : wc.cell? ⟨ga, 0, none⟩ = some (.string nm) := HN.out _ hI.1
                    have HI := Aside0.mk hI
                    clear hp hc hr hI
                    go_simp
                    exact hK _ HI.out
                  refine StepsT.call 1 rfl (fun t a wc hI hc hp hr K hK => ?_) ?_
                  · -- slot 75
                    have q72 : a.tmps[72]?.getD undef = t := ev_get (hp (1, 72) (by simp [ct14Dp]))
                    have q74 : a.tmps[74]?.getD undef = .string nm := ev_get (hp (3, 74) (by simp [ct14Dp]))
                    obtain ⟨hIb, hIc⟩ := hI
                    obtain ⟨A2, c2, rfl, hC2⟩ := hIc rfl
                    have HQ := Aside0.mk (HR14.out wc cut.length c2 A2 hC2)
                    have HI := Aside0.mk hIb
                    clear hp hc hr hIb hIc hC2
                    go_simp
                    refine HQ.out.mono ?_
                    rintro e w2 ⟨rfl, hS⟩
                    exact hK _ _ ⟨HI.out.trans (hS.mono HI.out.size), fun h => by cases h⟩ (fun _ _ => rfl)
                  refine StepsT.quiet (by decide) (fun k t a wc hI hc hp hr K hK => ?_) ?_
                  · -- slot 70
                    have q75 : a.tmps[75]?.getD undef = .tuple #[.slice none 0 0, .bool false] := ev_get (hp (4, 75) (by simp [ct14Dp]))
                    have HI := Aside0.mk hI
                    clear hp hc hr hI
                    go_simp
                    exact hK _ HI.out
                  refine StepsT.quiet (by decide) (fun k t a wc hI hc hp hr K hK => ?_) ?_
                  · -- slot 76
                    have q70 : a.tmps[70]?.getD undef = .tuple #[.slice none 0 0, .bool false] := ev_get (hp (5, 70) (by simp [ct14Dp]))
                    have HI := Aside0.mk hI
                    clear hp hc hr hI
                    go_simp
                    exact hK _ HI.out
                  refine StepsT.quiet (by decide) (fun k t a wc hI hc hp hr K hK => ?_) ?_
                  · -- slot 77
                    have q70 : a.tmps[70]?.getD undef = .tuple #[.slice none 0 0, .bool false] := ev_get (hp (5, 70) (by simp [ct14Dp]))
                    have HI := Aside0.mk hI
                    clear hp hc hr hI
                    go_simp
                    exact hK _ HI.out
                  refine StepsT.quiet (by decide) (fun k t a wc hI hc hp hr K hK => ?_) ?_
                  · -- slot 18
                    have q76 : a.tmps[76]?.getD undef = .slice none 0 0 := ev_get (hp (6, 76) (by simp [ct14Dp]))
                    have HI := Aside0.mk hI
                    clear hp hc hr hI
                    go_simp
                    exact hK _ HI.out
                  refine StepsT.quiet (by decide) (fun k t a wc hI hc hp hr K hK => ?_) ?_
                  · -- slot 19
                    have q77 : a.tmps[77]?.getD undef = .bool false := ev_get (hp (7, 77) (by simp [ct14Dp]))
                    have HI := Aside0.mk hI
                    clear hp hc hr hI
                    go_simp
                    exact hK _ HI.out
                  exact StepsT.nil _
                  · intro t wz hI
                    exact hK1 _ _ (Met.intro (hJ _ _ ⟨(.slice none 0 0), (.bool false), (.tuple #[.slice none 0 0, .bool false]), (cv), (t), (.pointer (some ⟨ga, 0, none⟩)), (.string nm), (.tuple #[.slice none 0 0, .bool false]), (.slice none 0 0), (.bool false), ⟨rfl, hI.1⟩, by kernel_rfl⟩))
                case rest =>
                  obtain ⟨rfl, hb⟩ := hcut
                  replace HB := Aside0.mk hb
                  clear hb
                  go_upto_region 15 with (fail)
                  go_cut [94] from 78 to 94 (fun x94 wx => x94 = .bool false ∧ Below Wr.heap.size Wr wx)
                  case first =>
                    rename_i J K1 hJ hK1
                    refine wp_region_any (by kernel_rfl) ?_
                    change wpAny _ _ _ _ _ _ _ (World.drew _)
                    refine region_chainT _ _ [78, 79, 80, 81, 82, 83, 84, 85, 86, 87, 88, 89, 90, 91, 92, 93, 94] (ct15Val cv ga nm) ct15Dp (fun _ => []) [12, 15] (CtWI Wr cut) (by kernel_rfl) (by kernel_rfl) (by kernel_rfl) (by kernel_rfl) undef ?_ ?_ ?_
                    case' refine_1 => exact ⟨HB.out.drew, fun h => by cases h⟩
                    refine StepsT.quiet (by decide) (fun k t a wc hI hc hp hr K hK => ?_) ?_
                    · -- slot 78
                      have q13 : a.tmps[13]?.getD undef = .bool false := ev_get (hc 13 (by decide))
                      have HI := Aside0.mk hI
                      clear hp hc hr hI
                      go_simp
                      exact hK _ HI.out
                    refine StepsT.quiet (by decide) (fun k t a wc hI hc hp hr K hK => ?_) ?_
                    · -- slot 79
                      have q78 : a.tmps[78]?.getD undef = .bool false := ev_get (hp (0, 78) (by simp [ct15Dp]))
                      have HI := Aside0.mk hI
                      clear hp hc hr hI
                      go_simp
                      exact hK _ HI.out
                    refine StepsT.quiet (by decide) (fun k t a wc hI hc hp hr K hK => ?_) ?_
                    · -- slot 80
                      have q15 : a.tmps[15]?.getD undef = .bool false := ev_get (hc 15 (by decide))
                      have g79 : a.tmps[79]? = some (.bool false) := ev_some (ev_get (hp (1, 79) (by simp [ct15Dp])))
                      rw [if_pos (by simp [Region.wanted, yielded, g79])]
                      clear g79
                      have HI := Aside0.mk hI
                      clear hp hc hr hI
                      go_simp
                      exact hK _ HI.out
                    refine StepsT.quiet (by decide) (fun k t a wc hI hc hp hr K hK => ?_) ?_
                    · -- slot 81
                      have q79 : a.tmps[79]?.getD undef = .bool false := ev_get (hp (1, 79) (by simp [ct15Dp]))
                      have q80 : a.tmps[80]?.getD undef = .bool false := ev_get (hp (2, 80) (by simp [ct15Dp]))
                      have HI := Aside0.mk hI
                      clear hp hc hr hI
                      go_simp
                      exact hK _ HI.out
                    refine StepsT.quiet (by decide) (fun k t a wc hI hc hp hr K hK => ?_) ?_
                    · -- slot 82
                      have q81 : a.tmps[81]?.getD undef = .bool false := ev_get (hp (3, 81) (by simp [ct15Dp]))
                      have HI := Aside0.mk hI
                      clear hp hc hr hI
                      go_simp
                      exact hK _ HI.out
                    refine StepsT.quiet (by decide) (fun k t a wc hI hc hp hr K hK => ?_) ?_
                    · -- slot 83
                      have q17 : a.tmps[17]?.getD undef = .bool false := ev_get (hc 17 (by decide))
                      have g82 : a.tmps[82]? = some (.bool false) := ev_some (ev_get (hp (4, 82) (by simp [ct15Dp])))
                      rw [if_pos (by simp [Region.wanted, yielded, g82])]
                      clear g82
                      have HI := Aside0.mk hI
                      clear hp hc hr hI
                      go_simp
                      exact hK _ HI.out
                    refine StepsT.quiet (by decide) (fun k t a wc hI hc hp hr K hK => ?_) ?_
                    · -- slot 84
                      have q82 : a.tmps[82]?.getD undef = .bool false := ev_get (hp (4, 82) (by simp [ct15Dp]))
                      have q83 : a.tmps[83]?.getD undef = .bool false := ev_get (hp (5, 83) (by simp [ct15Dp]))
                      have HI := Aside0.mk hI
                      clear hp hc hr hI
                      go_simp
                      exact hK _ HI.out
                    refine StepsT.quiet (by decide) (fun k t a wc hI hc hp hr K hK => ?_) ?_
                    · -- slot 85
                      have q84 : a.tmps[84]?.getD undef = .bool false := ev_get (hp (6, 84) (by simp [ct15Dp]))
                      have HI := Aside0.mk hI
                      clear hp hc hr hI
                      go_simp
                      exact hK _ HI.out
                    refine StepsT.quiet (by decide) (fun k t a wc hI hc hp hr K hK => ?_) ?_
                    · -- slot 86
                      have q19 : a.tmps[19]?.getD undef = .bool false := ev_get (hc 19 (by decide))
                      have g85 : a.tmps[85]? = some (.bool false) := ev_some (ev_get (hp (7, 85) (by simp [ct15Dp])))
                      rw [if_pos (by simp [Region.wanted, yielded, g85])]
                      clear g85
                      have HI := Aside0.mk hI
                      clear hp hc hr hI
                      go_simp
                      exact hK _ HI.out
                    refine StepsT.quiet (by decide) (fun k t a wc hI hc hp hr K hK => ?_) ?_
                    · -- slot 87
                      have q85 : a.tmps[85]?.getD undef = .bool false := ev_get (hp (7, 85) (by simp [ct15Dp]))
                      have q86 : a.tmps[86]?.getD undef = .bool false := ev_get (hp (8, 86) (by simp [ct15Dp]))
                      have HI := Aside0.mk hI
                      clear hp hc hr hI
                      go_simp
                      exact hK _ HI.out
                    refine StepsT.quiet (by decide) (fun k t a wc hI hc hp hr K hK => ?_) ?_
                    · -- slot 88
                      have q87 : a.tmps[87]?.getD undef = .bool false := ev_get (hp (9, 87) (by simp [ct15Dp]))
                      have HI := Aside0.mk hI
                      clear hp hc hr hI
                      go_simp
                      exact hK _ HI.out
                    refine StepsT.quiet (by decide) (fun k t a wc hI hc hp hr K hK => ?_) ?_
                    · -- slot 89
                      have q9 : a.tmps[9]?.getD undef = cv := ev_get (hc 9 (by decide))
                      have g88 : a.tmps[88]? = some (.bool false) := ev_some (ev_get (hp (10, 88) (by simp [ct15Dp])))
                      rw [if_pos (by simp [Region.wanted, yielded, g88])]
                      clear g88
                      have HI := Aside0.mk hI
                      clear hp hc hr hI
                      go_simp
                      exact hK _ HI.out
                    refine StepsT.call 0 rfl (fun t a wc hI hc hp hr K hK => ?_) ?_
                    · -- slot 90
                      have q89 : a.tmps[89]?.getD undef = cv := ev_get (hp (11, 89) (by simp [ct15Dp]))
                      have g88 : a.tmps[88]? = some (.bool false) := ev_some (ev_get (hp (10, 88) (by simp [ct15Dp])))
                      rw [if_pos (by simp [Region.wanted, yielded, g88])]
                      clear g88
                      have HQ := Aside0.mk (HCl.out wc hI.1)
                      have HI := Aside0.mk hI.1
                      clear hp hc hr hI
                      rw [HCV.out] at q89
                      go_simp
                      refine HQ.out.mono ?_
                      rintro e w2 ⟨v2, rfl, hS⟩
                      obtain ⟨A2, c2, rfl, hle2, hC2⟩ := hS.reads 0 rfl
                      exact hK _ _ ⟨HI.out.trans (hS.below.mono HI.out.size), fun _ => ⟨A2, c2, rfl, hC2⟩⟩ (fun d' hd' => ct15Val_ne _ _ _ _ _ d' hd')
                    refine StepsT.quiet (by decide) (fun k t a wc hI hc hp hr K hK => ?_) ?_
                    · -- slot 91
                      have q11 : a.tmps[11]?.getD undef = .pointer (some ⟨ga, 0, none⟩) := ev_get (hc 11 (by decide))
                      have g88 : a.tmps[88]? = some (.bool false) := ev_some (ev_get (hp (10, 88) (by simp [ct15Dp])))
                      rw [if_pos (by simp [Region.wanted, yielded, g88])]
                      clear g88
                      have HI := Aside0.mk hI
                      clear hp hc hr hI
                      go_simp
                      exact hK _ HI.out
                    refine StepsT.quiet (by decide) (fun k t a wc hI hc hp hr K hK => ?_) ?_
                    · -- slot 92
                      have q91 : a.tmps[91]?.getD undef = .pointer (some ⟨ga, 0, none⟩) := ev_get (hp (13, 91) (by simp [ct15Dp]))
                      have g88 : a.tmps[88]? = some (.bool false) := ev_some (ev_get (hp (10, 88) (by simp [ct15Dp])))
                      rw [if_pos (by simp [Region.wanted, yielded, g88])]
                      clear g88
                      have kl : wc.cell? ⟨ga, 0, none⟩ = some (.string nm) := HN.out _ hI.1
                      have HI := Aside0.mk hI
                      clear hp hc hr hI
                      go_simp
                      exact hK _ HI.out
                    refine StepsT.call 1 rfl (fun t a wc hI hc hp hr K hK => ?_) ?_
                    · -- slot 93
                      have q90 : a.tmps[90]?.getD undef = t := ev_get (hp (12, 90) (by simp [ct15Dp]))
                      have q92 : a.tmps[92]?.getD undef = .string nm := ev_get (hp (14, 92) (by simp [ct15Dp]))
                      have g88 : a.tmps[88]? = some (.bool false) := ev_some (ev_get (hp (10, 88) (by simp [ct15Dp])))
                      rw [if_pos (by simp [Region.wanted, yielded, g88])]
                      clear g88
                      obtain ⟨hIb, hIc⟩ := hI
                      obtain ⟨A2, c2, rfl, hC2⟩ := hIc rfl
                      have HQ := Aside0.mk (HR15.out wc cut.length c2 A2 hC2)
                      have HI := Aside0.mk hIb
                      clear hp hc hr hIb hIc hC2
                      go_simp
                      refine HQ.out.mono ?_
                      rintro e w2 ⟨rfl, hS⟩
                      exact hK _ _ ⟨HI.out.trans (hS.mono HI.out.size), fun h => by cases h⟩ (fun _ _ => rfl)
                    refine StepsT.quiet (by decide) (fun k t a wc hI hc hp hr K hK => ?_) ?_
                    · -- slot 94
                      have q88 : a.tmps[88]?.getD undef = .bool false := ev_get (hp (10, 88) (by simp [ct15Dp]))
                      have q93 : a.tmps[93]?.getD undef = .bool false := ev_get (hp (15, 93) (by simp [ct15Dp]))
                      have HI := Aside0.mk hI
                      clear hp hc hr hI
                      go_simp
                      exact hK _ HI.out
                    exact StepsT.nil _
                    · intro t wz hI
                      exact hK1 _ _ (Met.intro (hJ _ _ ⟨(.bool false), (.bool false), (.bool false), (.bool false), (.bool false), (.bool false), (.bool false), (.bool false), (.bool false), (.bool false), (.bool false), (cv), (t), (.pointer (some ⟨ga, 0, none⟩)), (.string nm), (.bool false), (.bool false), ⟨rfl, hI.1⟩, by kernel_rfl⟩))
                  case rest =>
                    obtain ⟨rfl, hb⟩ := hcut
                    replace HB := Aside0.mk hb
                    clear hb
                    have hcv := HCv0.out
                    clear HCv0 HCV
                    subst hcv
                    go_wp2
                    go_roundw
                    case rel => exact ⟨k + 1, hlt2, by go_num, HWb.out.trans (HB.out.mono HWb.out.size)⟩
                    case measure => simp [intOf]; omega
        · go_wp2_with fail
          refine (HLv.out _).mono ?_
          rintro e w7 ⟨rfl, hb⟩
          have H7 := Aside0.mk ((H5.out.of_below HRb.out).of_below hb)
          clear hb
          go_wp2
          go_ret
          exact ⟨rfl, H7.out.below⟩
theorem headCut_row (A : Option Addr) (n c : Nat) (l : List Hf) (x a2 : Int) (W : World) (hC : kHf.C W A n l) (hok : AllOk OkHf l) (_hs : l.length * 72 ≤ 140737488351232 ∧ n ≤ c) (hx : (Lit.int .u64 x).wf = true) (ha : (Lit.int .u16 a2).wf = true) (hT : Tabs W) :
    Calls Tryz.prog 4 #[.slice A n c, .int .u64 x, .int .u16 a2] W fun e w' => e = .returned (.bool true) ∧ Below W.heap.size W w' := by
  simp [Lit.wf, IntKind.min, IntKind.max, IntKind.bits, IntKind.signed] at hx ha
  obtain ⟨k, rfl⟩ : ∃ k : Nat, x = (k : Int) := ⟨x.toNat, by omega⟩
  obtain ⟨j, rfl⟩ : ∃ k : Nat, a2 = (k : Int) := ⟨a2.toNat, by omega⟩
  exact headCut_any W A n c l k j hC (fwf_of hok) hT (by omega) (by omega)
end Go.Proofs.YtdldblfklalaeaaGreatDoor
