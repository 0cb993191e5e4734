/-
  fastjson's parseArray: its contract, given that of a value.
-/
import Derived.Test.YtgldcjmdjhghpaaGreatDoorQe
namespace Go.Proofs.YtgldcjmdjhghpaaGreatDoor
open Go.RowKit Go.Proofs.YtgldcjmdjhghpaaGreatDoorW.PrintWords Go.ChangeShapes Go.WideShapes
set_option linter.unusedVariables false
set_option linter.unusedSimpArgs false
set_option maxRecDepth 100000
set_option maxHeartbeats 8000000 in
theorem parseArr_of (L : Nat) (hL : L ≤ 9223372036854775800) (IH : ∀ s : Bs, s.length < L → PV s) (s : Bs) (hs : s.length < L) : PA s := by
  intro w pb n c d f vb hC hb hf hd
  have HIH := Aside0.mk IH
  have HC := Aside0.mk hC
  have HSt := Aside0.mk (St.start hC)
  have HSk := Aside0.mk (fun w => skipWS_any s w (by omega))
  clear IH hC
  have hmax : n < 1000000000000 := by unfold MaxV at hb; omega
  obtain ⟨res, hres⟩ : ∃ res, res = pArr0 f d s := ⟨_, rfl⟩
  rw [← hres]
  have HR := Aside0.mk hres
  clear hres
  cases hsk : skipWS s with
  | nil =>
    have HRN : Aside0 (res = none) := ⟨by rw [HR.out]; unfold pArr0; rw [hsk]⟩
    rw [hsk] at HSk
    clear hsk
    go_enter Tryz.func63, Tryz.ntmps63
    go_wp2_with fail
    refine (HSk.out _).mono ?_
    rintro e w1 ⟨rfl, rfl⟩
    rw [bStr_nil]
    go_wp2_with fail
    refine (errNew_b _ _).mono ?_
    rintro e w1 ⟨rfl, hE⟩
    have HE := Aside0.mk hE
    clear hE
    go_wp2
    go_ret3
    rw [HRN.out]
    exact VRes.no (Upd.of_below HE.out _) rfl
  | cons c0 r0 =>
    have hnb : nb (c0 :: r0) = nb s := by rw [← hsk, nb_skip]
    have hln : (c0 :: r0).length ≤ s.length := by rw [← hsk]; exact skip_len s
    have hw0 := skip_head hsk
    have hnb2 := nb_no r0 hw0
    have hln2 : (c0 :: r0).length = r0.length + 1 := by simp
    have HRS : Aside0 (res = if c0 = 93 then some (.arr [], r0) else pArr f d [] (c0 :: r0)) := ⟨by rw [HR.out]; unfold pArr0; rw [hsk]⟩
    rw [hsk] at HSk
    clear hsk HR hw0
    by_cases h93 : c0 = 93
    · subst h93
      have HRES : Aside0 (res = some (.arr [], r0)) := ⟨by rw [HRS.out, if_pos rfl]⟩
      clear HRS
      have T := tcons 93 r0
      obtain ⟨t, ht⟩ : ∃ t, t = bStr (93 :: r0) := ⟨_, rfl⟩
      rw [← ht] at T HSk
      obtain ⟨-, tp, tn, tz, t0, tt⟩ := T
      have t0 := t0 tp
      have HTT := Aside0.mk tt
      have hb1 : (1 : Int) ≤ (t.size : Int) := by omega
      clear ht tt
      go_enter Tryz.func63, Tryz.ntmps63
      go_wp2_with fail
      refine (HSk.out _).mono ?_
      rintro e w1 ⟨rfl, rfl⟩
      go_wp2_with fail
      refine (getValue_any w pb n c vb HC.out hmax).mono ?_
      rintro e w1 ⟨g, c', rfl, hG⟩
      obtain ⟨o, ho⟩ : ∃ o, o = 5 * n := ⟨_, rfl⟩
      have hnv := hG.newV
      have z2 : w1.cell? ⟨g, o + 2, none⟩ = some (.slice none 0 0) := by rw [ho]; exact hG.zero 2 (by omega)
      have z4 : w1.cell? ⟨g, o + 4, none⟩ = some (.int .i64 0) := by rw [ho]; exact hG.zero 4 (by omega)
      rw [← ho] at hnv ⊢
      have f2 := hnv.fr 2 (by omega)
      have f4 := hnv.fr 4 (by omega)
      have hgl := hnv.lt
      have HG := Aside0.mk hG.st
      have HNV := Aside0.mk hnv
      clear hG hnv ho
      go_wp2
      have HS2 := Aside0.mk ((HG.out.set (HNV.out.fresh 4 (by omega)) (.int .i64 2)).set ((HNV.out.set _).fresh 2 (by omega)) (.slice none 0 0))
      have HN2 := Aside0.mk ((HNV.out.set (b := g) (p := o + 4) (.int .i64 2)).set (b := g) (p := o + 2) (.slice none 0 0))
      go_quiet (fail)
      go_wp2
      go_ret3
      have k4 : (((w1.setCell ⟨g, o + 4, none⟩ (.int .i64 2)).setCell ⟨g, o + 2, none⟩ (.slice none 0 0)).drewN nq).cell? ⟨g, o + 4, none⟩ = some (.int .i64 2) := (World.cell?_setCell_other _ ⟨g, o + 2, none⟩ ⟨g, o + 4, none⟩ _ (by simp)).trans (World.cell?_setCell_same w1 ⟨g, o + 4, none⟩ _ z4)
      have k2 : (((w1.setCell ⟨g, o + 4, none⟩ (.int .i64 2)).setCell ⟨g, o + 2, none⟩ (.slice none 0 0)).drewN nq).cell? ⟨g, o + 2, none⟩ = some (.slice none 0 0) := World.cell?_setCell_same _ ⟨g, o + 2, none⟩ _ ((World.cell?_setCell_other _ ⟨g, o + 4, none⟩ ⟨g, o + 2, none⟩ _ (by simp)).trans z2)
      have HA := ArrSt.start (s0 := s) (s := 93 :: r0) (HS2.out.on ((Hold.start _).drewN nq).below) (HN2.out.on ((Hold.start _).drewN nq).below) k4 k2 (by omega) hln (by omega)
      rw [HRES.out]
      exact VRes.yes (by rw [← HTT.out]; rfl) (HA.finish (by omega) (by omega))
    · have HRES : Aside0 (res = pArr f d [] (c0 :: r0)) := ⟨by rw [HRS.out, if_neg h93]⟩
      clear HRS
      have N93 : NeC c0 93 := neC 93 (toNat_ne h93)
      obtain ⟨q1, q2, q3⟩ := N93
      have T := tcons c0 r0
      obtain ⟨s1, hs1⟩ : ∃ s1, s1 = c0 :: r0 := ⟨_, rfl⟩
      rw [← hs1] at hnb hln HSk HRES T
      obtain ⟨t, ht⟩ : ∃ t, t = bStr s1 := ⟨_, rfl⟩
      have HT := Aside0.mk ht
      rw [← ht] at T HSk
      obtain ⟨-, tp, tn, tz, t0, tt⟩ := T
      have t0 := t0 tp
      clear ht tt h93 hnb2 hln2 hs1
      go_enter Tryz.func63, Tryz.ntmps63
      go_wp2_with fail
      refine (HSk.out _).mono ?_
      rintro e w1 ⟨rfl, rfl⟩
      go_wp2_with fail
      refine (getValue_any w pb n c vb HC.out hmax).mono ?_
      rintro e w1 ⟨g, c', rfl, hG⟩
      obtain ⟨o, ho⟩ : ∃ o, o = 5 * n := ⟨_, rfl⟩
      have hnv := hG.newV
      have z2 : w1.cell? ⟨g, o + 2, none⟩ = some (.slice none 0 0) := by rw [ho]; exact hG.zero 2 (by omega)
      have z4 : w1.cell? ⟨g, o + 4, none⟩ = some (.int .i64 0) := by rw [ho]; exact hG.zero 4 (by omega)
      rw [← ho] at hnv ⊢
      have f2 := hnv.fr 2 (by omega)
      have f4 := hnv.fr 4 (by omega)
      have hgl := hnv.lt
      have HG := Aside0.mk hG.st
      have HNV := Aside0.mk hnv
      clear hG hnv ho
      go_wp2
      have HS2 := (HG.out.set (HNV.out.fresh 4 (by omega)) (.int .i64 2)).set ((HNV.out.set _).fresh 2 (by omega)) (.slice none 0 0)
      have HN2 := (HNV.out.set (b := g) (p := o + 4) (.int .i64 2)).set (b := g) (p := o + 2) (.slice none 0 0)
      have k4 : ((w1.setCell ⟨g, o + 4, none⟩ (.int .i64 2)).setCell ⟨g, o + 2, none⟩ (.slice none 0 0)).cell? ⟨g, o + 4, none⟩ = some (.int .i64 2) := (World.cell?_setCell_other _ ⟨g, o + 2, none⟩ ⟨g, o + 4, none⟩ _ (by simp)).trans (World.cell?_setCell_same w1 ⟨g, o + 4, none⟩ _ z4)
      have k2 : ((w1.setCell ⟨g, o + 4, none⟩ (.int .i64 2)).setCell ⟨g, o + 2, none⟩ (.slice none 0 0)).cell? ⟨g, o + 2, none⟩ = some (.slice none 0 0) := World.cell?_setCell_same _ ⟨g, o + 2, none⟩ _ ((World.cell?_setCell_other _ ⟨g, o + 4, none⟩ ⟨g, o + 2, none⟩ _ (by simp)).trans z2)
      have HA := Aside0.mk (ArrSt.start (s0 := s) (s := s1) HS2 HN2 k4 k2 (by omega) hln (by omega))
      have HF := Aside0.mk (show 2 * s1.length + 1 < f by omega)
      clear HS2 HN2 k4 k2 HG HNV f2 f4 z2 z4 hgl
      go_loopw [1] (fun sv wr => ∃ (s1 : Bs) (vb' : Option Nat) (n' c' : Nat) (acc : List JV) (ps : List (Nat × Nat)) (kb : Option Nat) (ck f' : Nat), sv = .string (bStr s1) ∧ ArrSt w pb vb n s g o wr vb' n' c' acc ps kb ck s1 ∧ res = pArr f' d acc s1 ∧ 2 * s1.length + 1 < f') (fun sv _ => szOf sv)
      case atStart => exact ⟨s1, some g, n + 1, c', [], [], none, 0, f, by rw [HT.out], HA.out, HRES.out, HF.out⟩
      case round =>
        clear HA HF HRES HT HSk t0 tz tn tp q1 q2 q3
        obtain ⟨s1, vb', n', c', acc, ps, kb, ck, f', rfl, hA, hres, hf'⟩ := hrel
        obtain ⟨fk, rfl⟩ : ∃ fk, f' = fk + 1 := ⟨f' - 1, by omega⟩
        have hA2 := hA.skip
        have hsl := skip_len s1
        have hl1 : s1.length ≤ s.length := hA.sl
        have hcn := hA2.cnt
        have HSk1 := Aside0.mk (fun w => skipWS_any s1 w (by omega))
        obtain ⟨s2, hs2⟩ : ∃ s2, s2 = skipWS s1 := ⟨_, rfl⟩
        have hP0 : pVal fk d s2 = none → res = none := fun h => hres.trans (pArr_none acc (by rw [← hs2]; exact h))
        have hP1 : ∀ v r, pVal fk d s2 = some (v, r) → skipWS r = [] → res = none := fun v r h hr => hres.trans (pArr_nil acc (by rw [← hs2]; exact h) hr)
        have hP2 : ∀ v r c r', pVal fk d s2 = some (v, r) → skipWS r = c :: r' → res = if c = 44 then pArr fk d (acc ++ [v]) r' else if c = 93 then some (.arr (acc ++ [v]), r') else none := fun v r c r' h hr => hres.trans (pArr_cons acc (by rw [← hs2]; exact h) hr)
        rw [← hs2] at hA2 hsl hcn HSk1
        have HA2 := Aside0.mk hA2
        have HPV := Aside0.mk (HIH.out s2 (by omega) wr pb n' c' d fk vb' hA2.st.cache (by unfold MaxV at hb ⊢; omega) (by omega) hd)
        have HSz := Aside0.mk (show (bStr s1).size = s1.length from bStr_size s1)
        obtain ⟨t1, ht1⟩ : ∃ t1, t1 = bStr s1 := ⟨_, rfl⟩
        rw [← ht1] at HSk1 HSz ⊢
        have HRS := Aside0.mk (And.intro hP0 (And.intro hP1 hP2))
        have hfk : 2 * s2.length < fk := by omega
        clear hA hA2 hs2 ht1 hres hf' hP0 hP1 hP2
        go_wp2_with fail
        refine (HSk1.out _).mono ?_
        rintro e w2 ⟨rfl, rfl⟩
        go_wp2_with fail
        refine HPV.out.mono ?_
        rintro e w2 ⟨hU, hV⟩
        have HU := Aside0.mk hU
        clear hU
        cases hq : pVal fk d s2 with
        | none =>
          rw [hq] at hV
          obtain ⟨a, g2, rfl⟩ := hV
          have HRN : Aside0 (res = none) := ⟨HRS.out.1 hq⟩
          clear hq
          unfold errV
          go_wp2_with fail
          refine (errNew_b _ _).mono ?_
          rintro e w3 ⟨rfl, hE⟩
          have HE := Aside0.mk hE
          clear hE
          go_wp2
          go_ret3
          rw [HRN.out]
          exact VRes.no ((HA2.out.st.upd.trans HU.out (fun _ _ _ h => h) (fun b o hb hw => HA2.out.st.grew.writes hb hw)).trans (Upd.of_below HE.out (fun _ _ => False)) (fun _ _ _ h => h) (fun _ _ _ h => h.elim)) rfl
        | some q =>
          obtain ⟨v, r⟩ := q
          rw [hq] at hV
          obtain ⟨b2, o2, vb2, n2, c2, rfl, hK⟩ := hV
          replace hK : VOk wr pb vb' n' s2 v r b2 o2 w2 vb2 n2 c2 := hK
          obtain ⟨hA3, hT3, hnum⟩ := HA2.out.kid hK
          have HRS1 := Aside0.mk (HRS.out.2.1 v r hq)
          have HRS2 := Aside0.mk (fun c r' => HRS.out.2.2 v r c r' hq)
          have hrl := hK.len
          have hacc : acc.length < MaxV := by unfold MaxV at hb ⊢; omega
          obtain ⟨kb', ck', w4, hrun, hp4, hu4, hk4⟩ := run_appP hA3.pt (b2, o2) hacc 104
          have hA5 := hA3.push hT3 hnum hp4 hu4 hk4
          have j2 := hA3.c2
          have jf2 := hA3.nv.fr 2 (by omega)
          have hgl2 := hA3.nv.lt
          have hc2m := hA3.pt.cm
          have hu14 : Upd w2 w4 (fun b _ => kb = some b) := (Upd.alloc w2 _ _).trans hu4 (fun _ _ _ h => h) (fun _ _ _ h => h)
          have j24 : w4.cell? ⟨g, o + 2, none⟩ = some (vsV kb acc.length ck) := (hu14.cell g (o + 2) hgl2 (fun e => (hA3.kb_ne g e).2.2.1 rfl)).trans j2
          have jf24 : w4.frozen? ⟨g, o + 2, none⟩ = false := (frozen_upd hu14 0 (fun e => (hA3.kb_ne g e).2.2.1 rfl) hA3.nv.ty).trans jf2
          have HRun : Aside0 ((Builtin.append_ #[104, 104] 104 #[vsV kb acc.length ck, .slice (some ⟨w2.heap.size, 0, none⟩) 1 1]).run Tryz.prog (w2.alloc (.cells #[ptr (b2, o2)] 74)) = .ok (.slice (some ⟨kb', 0, none⟩) (acc.length + 1) ck') w4) := ⟨hrun⟩
          have HA5 : Aside0 (ArrSt w pb vb n s g o (w4.setCell ⟨g, o + 2, none⟩ (.slice (some ⟨kb', 0, none⟩) (acc.length + 1) ck')) vb2 n2 c2 (acc ++ [v]) (ps ++ [(b2, o2)]) (some kb') ck' r) := ⟨hA5⟩
          clear hq hK hA3 hT3 hrun hp4 hu4 hk4 hA5 HRS HPV hu14
          go_wp2_with ((with_reducible refine at_bi (b := .append) (xs := #[.tmp 70, .tmp 72]) rfl ?_); at_builtin; refine wpList_append_run rfl (.tmp 70) (.tmp 72) 104 104 rfl _ _ _ rfl rfl HRun.out ?_)
          generalize w4.setCell ⟨g, o + 2, none⟩ (.slice (some ⟨kb', 0, none⟩) (acc.length + 1) ck') = w5 at HA5 ⊢
          clear j2 jf2 hgl2 hc2m j24 jf24 HRun
          have HSk2 := Aside0.mk (fun w => skipWS_any r w (by omega))
          refine (HSk2.out _).mono ?_
          rintro e w6 ⟨rfl, rfl⟩
          have hA6 := HA5.out.skip
          have hrl2 := skip_len r
          cases hsr : skipWS r with
          | nil =>
            have HRN : Aside0 (res = none) := ⟨HRS1.out hsr⟩
            clear hsr
            rw [bStr_nil]
            go_wp2_with fail
            refine (errNew_b _ _).mono ?_
            rintro e w7 ⟨rfl, hE⟩
            have HE := Aside0.mk hE
            clear hE
            go_wp2
            go_ret3
            rw [HRN.out]
            exact VRes.no (HA5.out.st.on HE.out).upd rfl
          | cons c r2 =>
            rw [hsr] at hA6 hrl2
            have hcw := skip_head hsr
            have hnr := nb_no r2 hcw
            have HRS3 := Aside0.mk (HRS2.out c r2 hsr)
            have hl2 : (c :: r2).length = r2.length + 1 := by simp
            have HA6 := Aside0.mk hA6
            have T := tcons c r2
            obtain ⟨t2, ht2⟩ : ∃ t2, t2 = bStr (c :: r2) := ⟨_, rfl⟩
            have hz2 : t2.size = r2.length + 1 := by rw [ht2, bStr_size, hl2]
            rw [← ht2] at T ⊢
            obtain ⟨-, tp2, tn2, tz2, t02, tt2⟩ := T
            have t02 := t02 tp2
            have HTT := Aside0.mk tt2
            have hb1 : (1 : Int) ≤ (t2.size : Int) := by omega
            have HZ2 := Aside0.mk hz2
            clear hsr ht2 tt2 hA6 HRS2 HRS1 hcw hz2
            by_cases h44 : c = 44
            · subst h44
              have HRN : Aside0 (res = pArr fk d (acc ++ [v]) r2) := ⟨by rw [HRS3.out, if_pos rfl]⟩
              have HA7 := Aside0.mk (HA6.out.less (r := r2) (by omega) (by omega))
              have hfk2 : 2 * r2.length + 1 < fk := by omega
              have hlt2 : r2.length < s1.length := by omega
              clear HRS3
              go_wp2
              go_roundw
              case rel => exact ⟨r2, vb2, n2, c2, acc ++ [v], ps ++ [(b2, o2)], some kb', ck', fk, by rw [HTT.out], HA7.out, HRN.out, hfk2⟩
              case measure =>
                show szOf (.string (t2.extract 1 t2.size)) < szOf (.string t1)
                rw [HTT.out]
                show (bStr r2).size < t1.size
                rw [bStr_size, HSz.out]
                exact hlt2
            · have N44 : NeC c 44 := neC 44 (toNat_ne h44)
              obtain ⟨q1, q2, q3⟩ := N44
              by_cases h93 : c = 93
              · subst h93
                have HRN : Aside0 (res = some (.arr (acc ++ [v]), r2)) := ⟨by rw [HRS3.out, if_neg h44, if_pos rfl]⟩
                clear HRS3 h44
                have HV := Aside0.mk (HA6.out.finish (r := r2) (by omega) (by omega))
                go_wp2
                go_ret3
                rw [HRN.out]
                exact VRes.yes (by rw [← HTT.out]; rfl) HV.out
              · have N93 : NeC c 93 := neC 93 (toNat_ne h93)
                obtain ⟨p1, p2, p3⟩ := N93
                have HRN : Aside0 (res = none) := ⟨by rw [HRS3.out, if_neg h44, if_neg h93]⟩
                clear HRS3 h44 h93
                go_wp2_with fail
                refine (errNew_b _ _).mono ?_
                rintro e w7 ⟨rfl, hE⟩
                have HE := Aside0.mk hE
                clear hE
                go_wp2
                go_ret3
                rw [HRN.out]
                exact VRes.no (HA5.out.st.on HE.out).upd rfl
end Go.Proofs.YtgldcjmdjhghpaaGreatDoor
