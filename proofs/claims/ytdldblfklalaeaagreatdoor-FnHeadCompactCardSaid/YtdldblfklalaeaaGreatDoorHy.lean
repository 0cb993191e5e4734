/-
  FnHeadCompact: its walk.
-/
import Derived.Test.YtdldblfklalaeaaGreatDoorHz
namespace Go.Proofs.YtdldblfklalaeaaGreatDoor
open Go.RowKit Go.Proofs.YtdldblfklalaeaaGreatDoorW.PrintWords Go.ChangeShapes Go.WideShapes
set_option linter.unusedVariables false
set_option linter.unusedSimpArgs false
set_option maxRecDepth 100000
/-- What the reader says of a text, and what the law looks for. -/
theorem str_told {l : List Hf} {x : Nat} (hg : l.length ≤ 30 ∧ (∀ f ∈ l, FOk f) ∧ (l.map (·.1)).Nodup) {s : ByteArray} {f : Hf} {b : Bool} (h : FindIs l s f b) :
    (b = true ∧ f.2.1 = 3 ∧ strT (pTop (headF l x)) s.data.toList = some f.2.2.2.2.2.1.data.toList) ∨ ((b = false ∨ (b = true ∧ f.2.1 ≠ 3)) ∧ strT (pTop (headF l x)) s.data.toList = none) := by
  obtain ⟨h1, h2, h3⟩ := head_told l x hg.2.1 hg.2.2
  rcases h with ⟨rfl, hm, rfl⟩ | ⟨rfl, rfl, hno⟩
  · obtain ⟨v, hv, hi⟩ := h2 f hm
    have hok := hg.2.1 f hm
    unfold strT
    rw [hv]
    unfold IsVal at hi
    by_cases hk : f.2.1 = 3
    · rw [if_neg (by omega), if_neg (by omega), if_neg (by omega), if_pos hk] at hi
      obtain ⟨raw, rfl, hp, _⟩ := hi
      refine .inl ⟨rfl, hk, ?_⟩
      show some (unesc raw) = _
      rw [hp.unesc, ← runesOf_valid hok.text.valid]
    · refine .inr ⟨.inr ⟨rfl, hk⟩, ?_⟩
      by_cases k0 : f.2.1 = 0
      · rw [if_pos k0] at hi; subst hi; rfl
      rw [if_neg k0] at hi
      by_cases k1 : f.2.1 = 1
      · rw [if_pos k1] at hi; subst hi; cases f.2.2.1 <;> rfl
      rw [if_neg k1] at hi
      by_cases k2 : f.2.1 = 2
      · rw [if_pos k2] at hi; subst hi; rfl
      rw [if_neg k2, if_neg hk] at hi
      by_cases k5 : f.2.1 = 5
      · rw [if_pos k5] at hi; obtain ⟨_, hh⟩ := hi; subst hh; rfl
      rw [if_neg k5] at hi
      obtain ⟨_, hh, _⟩ := hi
      subst hh
      rfl
  · refine .inr ⟨.inl rfl, ?_⟩
    unfold strT
    rw [h3 s hno]
theorem fwf_zero : FWf hZero := ⟨by decide, by decide, by decide⟩
set_option maxHeartbeats 8000000 in
theorem headCompact_law (w : World) (A : Option Addr) (n c : Nat) (l : List Hf) (x : Nat) (nm : ByteArray) (hC : kHf.C w A n l) (hW : ∀ f ∈ l, FWf f) (hT : Tabs w) (hEr : ErrCell w) (hx : x < 18446744073709551616) (hnm : nm.size ≤ 9223372036854775807) :
    Calls Tryz.prog 8 #[.slice A n c, .int .u64 (x : Int), .string nm] w fun e w' => e = .returned (.bool true) ∧ Below w.heap.size w w' := by
  have hu2 := Tryz.underlying45
  have HLv := Aside0.mk (fun w => headLive_any w)
  have HT := Aside0.mk (fun (wz : World) (hb : Below w.heap.size w wz) => hT.on hb)
  have HC := Aside0.mk (fun (wz : World) (hb : Below w.heap.size w wz) => Kd.C_below hC hb)
  have HW := Aside0.mk hW
  have HEr := Aside0.mk (fun (wz : World) (hb : Below w.heap.size w wz) => hEr.on hb)
  have F9 := Aside0.mk (fz9_any w A n c l hC)
  clear hT hC hW hEr
  go_enter Tryz.func8, Tryz.ntmps8
  go_wp2_with fail
  refine F9.out.mono ?_
  rintro e w1 ⟨⟨b, rfl⟩, h1⟩
  have H1 := Aside0.mk h1
  clear h1 F9
  cases b with
  | false =>
    go_wp2
    go_ret
    exact ⟨rfl, H1.out.below⟩
  | true =>
    by_cases hs : 2147483647 < nm.size
    · go_wp2
      go_ret
      exact ⟨rfl, H1.out.below⟩
    replace hs : nm.size ≤ 2147483647 := by omega
    go_wp2_with fail
    refine (headFits_any w1 A n c l (HC.out _ H1.out.below) HW.out (HT.out _ H1.out.below)).mono ?_
    rintro e w2 ⟨b2, rfl, hg, h2⟩
    have HG := Aside0.mk hg
    have H2 := Aside0.mk (H1.out.of_below h2.below)
    clear h2 hg H1
    cases b2 with
    | false =>
      go_wp2_with fail
      refine (HLv.out _).mono ?_
      rintro e w3 ⟨rfl, hb⟩
      have H3 := Aside0.mk (H2.out.of_below hb)
      clear hb
      go_wp2
      go_ret
      exact ⟨rfl, H3.out.below⟩
    | true =>
      replace HG := Aside0.mk (HG.out rfl)
      by_cases hs2 : 200 < nm.size
      · go_wp2_with fail
        refine (HLv.out _).mono ?_
        rintro e w3 ⟨rfl, hb⟩
        have H3 := Aside0.mk (H2.out.of_below hb)
        clear hb
        go_wp2
        go_ret
        exact ⟨rfl, H3.out.below⟩
      replace hs2 : nm.size ≤ 200 := by omega
      go_wp2_with fail
      refine (valid_any nm _ (by omega) (HT.out _ H2.out.below)).mono ?_
      rintro e w3 ⟨rfl, hb⟩
      have H3 := Aside0.mk (H2.out.of_below hb)
      clear hb H2
      cases hv : Lib.validD nm.data.toList with
      | false =>
        clear hv
        go_wp2_with fail
        refine (HLv.out _).mono ?_
        rintro e w4 ⟨rfl, hb⟩
        have H4 := Aside0.mk (H3.out.of_below hb)
        clear hb
        go_wp2
        go_ret
        exact ⟨rfl, H4.out.below⟩
      | true =>
        have HV := Aside0.mk hv
        clear hv
        go_wp2_with fail
        refine (headText_any w3 A n c x l (HC.out _ H3.out.below) HG.out.1 HG.out.2.1 hx).mono ?_
        rintro e w4 ⟨rfl, hb⟩
        have H4 := Aside0.mk (H3.out.of_below hb)
        clear hb H3
        obtain ⟨t, ht⟩ : ∃ t, t = headF l x := ⟨_, rfl⟩
        have htl : t.length ≤ 200000000 := ht ▸ headF_len l x HG.out.1 HG.out.2.1
        obtain ⟨W, g, cap, hcv, hB, hb⟩ := conv_s2b w4 t (by omega)
        have H5 := Aside0.mk (H4.out.of_below hb)
        have HCo := Aside0.mk (headCoded_any W _ _ cap t (by omega) hB.C)
        have HTe := Aside0.mk ht
        rw [← ht]
        clear hb hB ht H4
        go_wp2_with fail
        refine HCo.out.mono ?_
        rintro e W5 ⟨vc, rfl, hco⟩
        obtain ⟨Ac, cc, rfl, hlc, hCc⟩ := hco.reads 0 rfl
        have H5 := Aside0.mk (H5.out.of_below hco.below)
        have HBt := Aside0.mk (fun (wz : World) (h : Below W5.heap.size W5 wz) => Kd.C_below hCc h)
        have hbl : (b64 true t).length ≤ 1000000000 := by rw [b64_len]; unfold encLen; omega
        clear hco hCc hcv HCo
        go_wp2_with fail
        refine (headNames_any W5 A n c l nm HG.out.1 (HC.out _ H5.out.below)).mono ?_
        rintro e w6 ⟨vn, rfl, h6⟩
        have H6 := Aside0.mk (H5.out.app h6)
        have H6b := Aside0.mk h6.below
        obtain ⟨An, cn, rfl, hln, hCn⟩ := h6.reads 0 rfl
        have hnl : (nm :: l.map (·.1)).length ≤ 31 := by have := HG.out.1; simp; omega
        clear h6 hCn
        have H6' : Aside0 (Hold w w.heap.size w6 [.row Kd.string 9 (.slice An (nm :: l.map (·.1)).length cn) (nm :: l.map (·.1))]) := ⟨H6.out⟩
        clear H6
        generalize hns : nm :: l.map (·.1) = ns at *
        clear hns
        go_wp2
        go_loopw [49] (fun i wr => ∃ k : Nat, k ≤ ns.length ∧ i = .int .i64 k ∧ Below W5.heap.size W5 wr ∧ Hold w w.heap.size wr [.row Kd.string 9 (.slice An ns.length cn) ns]) (fun i _ => ns.length - (intOf i).toNat)
        case atStart => exact ⟨0, Nat.zero_le _, rfl, H6b.out, H6'.out⟩
        case round =>
          obtain ⟨k, hk, rfl, hRb, hR⟩ := hrel
          have HR := Aside0.mk hR
          have HRb := Aside0.mk hRb
          clear hR hRb H6' H6b
          by_cases hlt : k < ns.length
          · obtain ⟨A9, c9, he, hc9, hC9⟩ := HR.out.reads 0 rfl
            injection he with he1 he2 he3
            subst he1 he3
            obtain ⟨a5, rfl, ej⟩ := C1_get hC9 k hlt
            clear hC9
            have hlt2 : k + 1 ≤ ns.length := hlt
            generalize hs : ns[k] = s at *
            clear hs
            go_wp2_with fail
            refine (headFind_any wr A n c l s (HC.out _ HR.out.below)).mono ?_
            rintro e w7 ⟨f, A6, c6, b3, rfl, hfi, hle6, hC6, h7⟩
            have H7 := Aside0.mk ((HR.out.of_below h7.below).alloc (.cells (hfCells f A6 c6) 45))
            have H7b := Aside0.mk ((HRb.out.trans (h7.below.mono HRb.out.size)).alloc (Nat.le_trans HRb.out.size h7.below.size) (.cells (hfCells f A6 c6) 45))
            have HFi := Aside0.mk hfi
            have HC6 := Aside0.mk (fun (wz : World) (h : Below w7.heap.size w7 wz) => Kd.C_below hC6 h)
            have HA7 := Aside0.mk ((Below.refl w7.heap.size w7).alloc (Nat.le_refl _) (.cells (hfCells f A6 c6) 45))
            clear h7 hfi hC6 HR HRb
            have hWf : FWf f := by
              rcases HFi.out with ⟨_, hm, _⟩ | ⟨_, hz, _⟩
              · exact HW.out f hm
              · rw [hz]; exact fwf_zero
            have HIn := Aside0.mk (fun wz => headInt_any wz f A6 c6 hWf)
            unfold hfCells at HIn ⊢
            clear hWf HC6 HA7
            go_wp2_with fail
            refine (HIn.out _).mono ?_
            rintro e w7a ⟨⟨ri, hri, rfl⟩, h7a⟩
            have H7a := Aside0.mk (H7.out.of_below h7a.below)
            have H7ab := Aside0.mk (H7b.out.trans (h7a.below.mono H7b.out.size))
            clear h7a HIn H7 H7b
            go_wp2_with fail
            refine (bcloneH_any _ _ _ cc (b64 true t) (by omega) (HBt.out _ H7ab.out)).mono ?_
            rintro e w8 ⟨vb, rfl, h8⟩
            have H8 := Aside0.mk (H7a.out.of_below h8.below)
            have H8b := Aside0.mk (H7ab.out.trans (h8.below.mono H7ab.out.size))
            obtain ⟨Ab, cb, rfl, hlb, hCb⟩ := h8.reads 0 rfl
            have hfit : FitO (pTop t) := by rw [HTe.out]; exact (head_told l x HG.out.2.1 HG.out.2.2).1
            have HH := Aside0.mk (headCompact_any t s.data.toList w8 (b64 true t).length cb Ab htl hCb hfit)
            have hbt := str_told HG.out HFi.out (x := x)
            have hit := int_told HG.out HFi.out (x := x) hri
            rw [← HTe.out] at hbt hit
            have HI2 := Aside0.mk (fun (wz : World) (A : Option Addr) (n c : Nat) (h : kB.C wz A n (b64 true t)) (hE : ErrCell wz) => headCompactInt_any t s.data.toList wz n c A _ htl h hfit hit hE)
            rw [bStr_data] at HH HI2
            clear h8 hCb HFi hfit hit H7a H7ab
            obtain ⟨q, hq⟩ : ∃ q, q = strT (pTop t) s.data.toList := ⟨_, rfl⟩
            rw [← hq] at HH hbt
            clear hq
            go_wp2_with fail
            refine HH.out.mono ?_
            rintro e w9 ⟨rfl, hb⟩
            have H9 := Aside0.mk (H8.out.of_below hb)
            have H9b := Aside0.mk (H8b.out.trans (hb.mono H8b.out.size))
            clear hb HH H8 H8b
            go_wp2_with fail
            refine (bcloneH_any _ _ _ cc (b64 true t) (by omega) (HBt.out _ H9b.out)).mono ?_
            rintro e wa ⟨vb2, rfl, h8⟩
            have Ha := Aside0.mk (H9.out.of_below h8.below)
            have Hab := Aside0.mk (H9b.out.trans (h8.below.mono H9b.out.size))
            obtain ⟨Ab2, cb2, rfl, hlb2, hCb2⟩ := h8.reads 0 rfl
            have HH2 := Aside0.mk (HI2.out wa Ab2 _ cb2 hCb2 (HEr.out _ Ha.out.below))
            clear h8 hCb2 HI2 H9 H9b
            go_wp2_with fail
            refine HH2.out.mono ?_
            rintro e wb ⟨rfl, hb⟩
            have H9 := Aside0.mk (Ha.out.of_below hb)
            have H9b := Aside0.mk (Hab.out.trans (hb.mono Hab.out.size))
            clear hb HH2 Ha Hab
            have kc1 : wb.cell? ⟨w7.heap.size, 1, none⟩ = some (.int .u8 f.2.1) := (H9.out.cell 0 rfl 1 (by simp [hfCells])).1
            have kc5 : wb.cell? ⟨w7.heap.size, 5, none⟩ = some (.string f.2.2.2.2.2.1) := (H9.out.cell 0 rfl 5 (by simp [hfCells])).1
            rcases hbt with ⟨rfl, hk1, rfl⟩ | ⟨hno, rfl⟩
            · obtain rfl : ri = none := by
                rcases hri with ⟨hF, _⟩ | ⟨_, h⟩
                · have := hF.kind; omega
                · exact h
              simp only [Option.getD_some, Option.isSome_some, bStr_data, if_true, Option.getD_none, Option.isSome_none]
              rw [hk1] at kc1
              clear hk1 hri
              go_wp2
              go_roundw
              case rel => exact ⟨k + 1, hlt2, by go_num, H9b.out, H9.out.tail⟩
              case measure => simp [intOf]; omega
            · rcases hno with rfl | ⟨rfl, hk3⟩
              · simp only [Option.getD_none, Option.isSome_none, Bool.false_eq_true, if_false]
                clear hri
                go_wp2
                go_roundw
                case rel => exact ⟨k + 1, hlt2, by go_num, H9b.out, H9.out.tail⟩
                case measure => simp [intOf]; omega
              · have e3 : (f.2.1 == 3) = false := by simpa using hk3
                simp only [if_true, Option.getD_none, Option.isSome_none]
                clear hk3 hri
                cases ri with
                | none =>
                  simp only [Option.getD_none, Option.isSome_none]
                  go_wp2
                  go_roundw
                  case rel => exact ⟨k + 1, hlt2, by go_num, H9b.out, H9.out.tail⟩
                  case measure => simp [intOf]; omega
                | some v =>
                  simp only [Option.getD_some, Option.isSome_some]
                  go_wp2
                  go_roundw
                  case rel => exact ⟨k + 1, hlt2, by go_num, H9b.out, H9.out.tail⟩
                  case measure => simp [intOf]; omega
          · go_wp2_with fail
            refine (HLv.out _).mono ?_
            rintro e w7 ⟨rfl, hb⟩
            have H7 := Aside0.mk (HR.out.of_below hb)
            clear hb
            go_wp2
            go_ret
            exact ⟨rfl, H7.out.below⟩
theorem headCompact_row (A : Option Addr) (n c : Nat) (l : List Hf) (x : Int) (nm : ByteArray) (W : World) (hC : kHf.C W A n l) (hok : AllOk OkHf l) (_hs : l.length * 72 ≤ 140737488351232 ∧ n ≤ c) (hx : (Lit.int .u64 x).wf = true) (hnm : nm.size ≤ 140737488351232) (hT : Tabs W) (hEr : ErrCell W) :
    Calls Tryz.prog 8 #[.slice A n c, .int .u64 x, .string nm] W fun e w' => e = .returned (.bool true) ∧ Below W.heap.size W w' := by
  simp [Lit.wf, IntKind.min, IntKind.max, IntKind.bits, IntKind.signed] at hx
  obtain ⟨k, rfl⟩ : ∃ k : Nat, x = (k : Int) := ⟨x.toNat, by omega⟩
  exact headCompact_law W A n c l k nm hC (fwf_of hok) hT hEr (by omega) (by omega)
end Go.Proofs.YtdldblfklalaeaaGreatDoor
