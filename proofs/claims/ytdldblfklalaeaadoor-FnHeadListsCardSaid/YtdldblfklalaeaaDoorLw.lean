/-
  FnHeadLists: its walk.
-/
import Derived.Test.YtdldblfklalaeaaDoorLl
namespace Go.Proofs.YtdldblfklalaeaaDoor
open Go.RowKit Go.Proofs.YtdldblfklalaeaaDoorW.PrintWords Go.ChangeShapes Go.WideShapes
set_option linter.unusedVariables false
set_option linter.unusedSimpArgs false
set_option maxRecDepth 100000
set_option maxHeartbeats 8000000 in
theorem headLists_any (w : World) (A : Option Addr) (n c : Nat) (l : List Hf) (x : Nat) (nm : ByteArray) (hC : kHf.C w A n l) (hW : ∀ f ∈ l, FWf f) (hT : Tabs w) (hx : x < 18446744073709551616) (hnm : nm.size ≤ 9223372036854775807) :
    Calls Tryd.prog 5 #[.slice A n c, .int .u64 (x : Int), .string nm] w fun e w' => e = .returned (.bool true) ∧ Below w.heap.size w w' := by
  have hu2 := Tryd.underlying37
  have HLv := Aside0.mk (fun w => headLive_any w)
  have HT := Aside0.mk (fun (wz : World) (hb : Below w.heap.size w wz) => hT.on hb)
  have HC := Aside0.mk (fun (wz : World) (hb : Below w.heap.size w wz) => Kd.C_below hC hb)
  have HW := Aside0.mk hW
  have F9 := Aside0.mk (fz9_any w A n c l hC)
  clear hT hC hW
  go_enter Tryd.func5, Tryd.ntmps5
  go_wp2_with fail
  refine F9.out.mono ?_
  rintro e w1 ⟨⟨b, rfl⟩, h1⟩
  have H1 := Aside0.mk h1
  clear h1 F9
  cases b with
  | false =>
    go_wp2
    go_ret
    exact ⟨rfl, H1.out.below⟩
  | true =>
    by_cases hs : 2147483647 < nm.size
    · go_wp2
      go_ret
      exact ⟨rfl, H1.out.below⟩
    replace hs : nm.size ≤ 2147483647 := by omega
    go_wp2_with fail
    refine (headFits_any w1 A n c l (HC.out _ H1.out.below) HW.out (HT.out _ H1.out.below)).mono ?_
    rintro e w2 ⟨b2, rfl, hg, h2⟩
    have HG := Aside0.mk hg
    have H2 := Aside0.mk (H1.out.of_below h2.below)
    clear h2 hg H1
    cases b2 with
    | false =>
      go_wp2_with fail
      refine (HLv.out _).mono ?_
      rintro e w3 ⟨rfl, hb⟩
      have H3 := Aside0.mk (H2.out.of_below hb)
      clear hb
      go_wp2
      go_ret
      exact ⟨rfl, H3.out.below⟩
    | true =>
      replace HG := Aside0.mk (HG.out rfl)
      by_cases hs2 : 200 < nm.size
      · go_wp2_with fail
        refine (HLv.out _).mono ?_
        rintro e w3 ⟨rfl, hb⟩
        have H3 := Aside0.mk (H2.out.of_below hb)
        clear hb
        go_wp2
        go_ret
        exact ⟨rfl, H3.out.below⟩
      replace hs2 : nm.size ≤ 200 := by omega
      go_wp2_with fail
      refine (valid_any nm _ (by omega) (HT.out _ H2.out.below)).mono ?_
      rintro e w3 ⟨rfl, hb⟩
      have H3 := Aside0.mk (H2.out.of_below hb)
      clear hb H2
      cases hv : Lib.validD nm.data.toList with
      | false =>
        clear hv
        go_wp2_with fail
        refine (HLv.out _).mono ?_
        rintro e w4 ⟨rfl, hb⟩
        have H4 := Aside0.mk (H3.out.of_below hb)
        clear hb
        go_wp2
        go_ret
        exact ⟨rfl, H4.out.below⟩
      | true =>
        have HV := Aside0.mk hv
        clear hv
        go_wp2_with fail
        refine (headText_any w3 A n c x l (HC.out _ H3.out.below) HG.out.1 HG.out.2.1 hx).mono ?_
        rintro e w4 ⟨rfl, hb⟩
        have H4 := Aside0.mk (H3.out.of_below hb)
        clear hb H3
        obtain ⟨t, ht⟩ : ∃ t, t = headF l x := ⟨_, rfl⟩
        have htl : t.length ≤ 200000000 := ht ▸ headF_len l x HG.out.1 HG.out.2.1
        obtain ⟨W, g, cap, hcv, hB, hb⟩ := conv_s2b w4 t (by omega)
        have H5 := Aside0.mk (H4.out.of_below hb)
        have HBt := Aside0.mk (fun (wz : World) (h : Below W.heap.size W wz) => Kd.C_below hB.C h)
        have HTe := Aside0.mk ht
        rw [← ht]
        clear hb hB ht H4
        go_wp2_with fail
        refine (headNames_any W A n c l nm HG.out.1 (HC.out _ H5.out.below)).mono ?_
        rintro e w6 ⟨vn, rfl, h6⟩
        have H6 := Aside0.mk (H5.out.app h6)
        have H6b := Aside0.mk h6.below
        obtain ⟨An, cn, rfl, hln, hCn⟩ := h6.reads 0 rfl
        have hnl : (nm :: l.map (·.1)).length ≤ 31 := by have := HG.out.1; simp; omega
        clear h6 hcv hCn
        have H6' : Aside0 (Hold w w.heap.size w6 [.row Kd.string 9 (.slice An (nm :: l.map (·.1)).length cn) (nm :: l.map (·.1))]) := ⟨H6.out⟩
        clear H6
        generalize hns : nm :: l.map (·.1) = ns at *
        clear hns
        go_wp2
        go_loopw [44] (fun i wr => ∃ k : Nat, k ≤ ns.length ∧ i = .int .i64 k ∧ Below W.heap.size W wr ∧ Hold w w.heap.size wr [.row Kd.string 9 (.slice An ns.length cn) ns]) (fun i _ => ns.length - (intOf i).toNat)
        case atStart => exact ⟨0, Nat.zero_le _, rfl, H6b.out, H6'.out⟩
        case round =>
          obtain ⟨k, hk, rfl, hRb, hR⟩ := hrel
          have HR := Aside0.mk hR
          have HRb := Aside0.mk hRb
          clear hR hRb H6' H6b
          by_cases hlt : k < ns.length
          · obtain ⟨A9, c9, he, hc9, hC9⟩ := HR.out.reads 0 rfl
            injection he with he1 he2 he3
            subst he1 he3
            obtain ⟨a5, rfl, ej⟩ := C1_get hC9 k hlt
            clear hC9
            have hlt2 : k + 1 ≤ ns.length := hlt
            generalize hs : ns[k] = s at *
            clear hs
            go_wp2_with fail
            refine (headFind_any wr A n c l s (HC.out _ HR.out.below)).mono ?_
            rintro e w7 ⟨f, A6, c6, b3, rfl, hfi, hle6, hC6, h7⟩
            have H7 := Aside0.mk ((HR.out.of_below h7.below).alloc (.cells (hfCells f A6 c6) 37))
            have H7b := Aside0.mk ((HRb.out.trans (h7.below.mono HRb.out.size)).alloc (Nat.le_trans HRb.out.size h7.below.size) (.cells (hfCells f A6 c6) 37))
            have HFi := Aside0.mk hfi
            have HC6 := Aside0.mk (fun (wz : World) (h : Below w7.heap.size w7 wz) => Kd.C_below hC6 h)
            have HA7 := Aside0.mk ((Below.refl w7.heap.size w7).alloc (Nat.le_refl _) (.cells (hfCells f A6 c6) 37))
            clear h7 hfi hC6 HR HRb
            unfold hfCells
            go_wp2_with fail
            refine (bcloneH_any _ _ _ cap t (by omega) (HBt.out _ H7b.out)).mono ?_
            rintro e w8 ⟨vb, rfl, h8⟩
            have H8 := Aside0.mk (H7.out.of_below h8.below)
            have H8b := Aside0.mk (H7b.out.trans (h8.below.mono H7b.out.size))
            have HA8 := Aside0.mk (HA7.out.trans (h8.below.mono HA7.out.size))
            obtain ⟨Ab, cb, rfl, hlb, hCb⟩ := h8.reads 0 rfl
            have HH := headList_any t s.data.toList w8 t.length cb Ab (by omega) (by omega) hCb (by rw [HTe.out]; exact (head_told l x HG.out.2.1 HG.out.2.2).1)
            have hbt := list_told HG.out HFi.out (x := x)
            rw [← HTe.out] at hbt
            rw [bStr_data] at HH
            have hx6 : f.2.2.2.2.2.2.length ≤ 9223372036854775807 := (HC6.out w7 (Below.refl _ _)).2.1
            clear h8 hCb HFi HA7
            rcases hbt with ⟨rfl, hk1, hbo⟩ | ⟨hno, hbo⟩
            · rw [hbo] at HH
              have HH := Aside0.mk HH
              clear hbo
              go_wp2_with fail
              refine HH.out.mono ?_
              rintro e w9 ⟨⟨Aq, cq, rfl, hlq, hCq⟩, hb⟩
              have H9 := Aside0.mk (H8.out.of_below hb)
              have H9b := Aside0.mk (H8b.out.trans (hb.mono H8b.out.size))
              have HCq := Aside0.mk hCq
              have HC9 := Aside0.mk (HC6.out w9 (HA8.out.trans (hb.mono HA8.out.size)))
              clear hb HH hCq HA8
              have kc1 : w9.cell? ⟨w7.heap.size, 1, none⟩ = some (.int .u8 f.2.1) := (H9.out.cell 0 rfl 1 (by simp [hfCells])).1
              have kc6 : w9.cell? ⟨w7.heap.size, 6, none⟩ = some (.slice A6 f.2.2.2.2.2.2.length c6) := (H9.out.cell 0 rfl 6 (by simp [hfCells])).1
              simp only [Option.getD_some, Option.isSome_some] at HCq hlq ⊢
              have HE := Aside0.mk (equal_str w9 Aq A6 _ cq _ c6 _ _ HCq.out HC9.out)
              rw [decide_eq_true rfl] at HE
              rcases hk1 with hk1 | ⟨hk1, hz6⟩
              · rw [hk1] at kc1
                clear hk1
                go_wp2_with fail
                refine HE.out.mono ?_
                rintro e w10 ⟨rfl, m, rfl⟩
                have H10 := Aside0.mk (H9.out.tail.drewN m)
                have H10b := Aside0.mk (endB H9b.out m)
                clear kc1 kc6
                go_wp2
                go_roundw
                case rel => exact ⟨k + 1, hlt2, by go_num, H10b.out, H10.out⟩
                case measure => simp [intOf]; omega
              · rw [hk1] at kc1
                have hz7 : ((f.2.2.2.2.2.2.length : Int) == 0) = true := by rw [hz6]; rfl
                clear hz6 hk1
                go_wp2_with fail
                refine HE.out.mono ?_
                rintro e w10 ⟨rfl, m, rfl⟩
                have H10 := Aside0.mk (H9.out.tail.drewN m)
                have H10b := Aside0.mk (endB H9b.out m)
                clear kc1 kc6
                go_wp2
                go_roundw
                case rel => exact ⟨k + 1, hlt2, by go_num, H10b.out, H10.out⟩
                case measure => simp [intOf]; omega
            · rw [hbo] at HH
              have HH := Aside0.mk HH
              clear hbo
              go_wp2_with fail
              refine HH.out.mono ?_
              rintro e w9 ⟨⟨Aq, cq, rfl, hlq, hCq⟩, hb⟩
              have H9 := Aside0.mk (H8.out.of_below hb)
              have H9b := Aside0.mk (H8b.out.trans (hb.mono H8b.out.size))
              clear hb HH hCq HA8
              have kc1 : w9.cell? ⟨w7.heap.size, 1, none⟩ = some (.int .u8 f.2.1) := (H9.out.cell 0 rfl 1 (by simp [hfCells])).1
              have kc6 : w9.cell? ⟨w7.heap.size, 6, none⟩ = some (.slice A6 f.2.2.2.2.2.2.length c6) := (H9.out.cell 0 rfl 6 (by simp [hfCells])).1
              simp only [Option.getD_none, Option.isSome_none] at hlq ⊢
              rcases hno with rfl | ⟨rfl, hk4, hk6⟩
              · go_wp2
                go_roundw
                case rel => exact ⟨k + 1, hlt2, by go_num, H9b.out, H9.out.tail⟩
                case measure => simp [intOf]; omega
              · have e4 : (f.2.1 == 4) = false := by simpa using hk4
                by_cases h6 : f.2.1 = 6
                · have e6 : (f.2.1 == 6) = true := by simpa using h6
                  have e0 : ((f.2.2.2.2.2.2.length : Int) == 0) = false := by rw [beq_eq_false_iff_ne]; omega
                  clear hk4 hk6 h6
                  go_wp2
                  go_roundw
                  case rel => exact ⟨k + 1, hlt2, by go_num, H9b.out, H9.out.tail⟩
                  case measure => simp [intOf]; omega
                · have e6 : (f.2.1 == 6) = false := by simpa using h6
                  clear hk4 hk6 h6
                  go_wp2
                  go_roundw
                  case rel => exact ⟨k + 1, hlt2, by go_num, H9b.out, H9.out.tail⟩
                  case measure => simp [intOf]; omega
          · go_wp2_with fail
            refine (HLv.out _).mono ?_
            rintro e w7 ⟨rfl, hb⟩
            have H7 := Aside0.mk (HR.out.of_below hb)
            clear hb
            go_wp2
            go_ret
            exact ⟨rfl, H7.out.below⟩
theorem headLists_row (A : Option Addr) (n c : Nat) (l : List Hf) (x : Int) (nm : ByteArray) (W : World) (hC : kHf.C W A n l) (hok : AllOk OkHf l) (_hs : l.length * 72 ≤ 140737488351232 ∧ n ≤ c) (hx : (Lit.int .u64 x).wf = true) (hnm : nm.size ≤ 140737488351232) (hT : Tabs W) :
    Calls Tryd.prog 5 #[.slice A n c, .int .u64 x, .string nm] W fun e w' => e = .returned (.bool true) ∧ Below W.heap.size W w' := by
  simp [Lit.wf, IntKind.min, IntKind.max, IntKind.bits, IntKind.signed] at hx
  obtain ⟨k, rfl⟩ : ∃ k : Nat, x = (k : Int) := ⟨x.toNat, by omega⟩
  exact headLists_any W A n c l k nm hC (fwf_of hok) hT (by omega) (by omega)
end Go.Proofs.YtdldblfklalaeaaDoor
