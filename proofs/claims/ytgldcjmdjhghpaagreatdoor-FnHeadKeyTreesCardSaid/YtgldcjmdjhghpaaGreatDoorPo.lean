/-
  fastjson's parseObject: its contract, given that of a value.
-/
import Derived.Test.YtgldcjmdjhghpaaGreatDoorQe
namespace Go.Proofs.YtgldcjmdjhghpaaGreatDoor
open Go.RowKit Go.Proofs.YtgldcjmdjhghpaaGreatDoorW.PrintWords Go.ChangeShapes Go.WideShapes
set_option linter.unusedVariables false
set_option linter.unusedSimpArgs false
set_option maxRecDepth 100000
set_option maxHeartbeats 8000000 in
theorem parseObj_of (L : Nat) (hL : L ≤ 9223372036854775800) (IH : ∀ s : Bs, s.length < L → PV s) (s : Bs) (hs : s.length < L) : PO s := by
  intro w pb n c d f vb hC hb hf hd
  have HIH := Aside0.mk IH
  have HC := Aside0.mk hC
  have HSt := Aside0.mk (St.start hC)
  have HSk := Aside0.mk (fun w => skipWS_any s w (by omega))
  clear IH hC
  have hmax : n < 1000000000000 := by unfold MaxV at hb; omega
  obtain ⟨res, hres⟩ : ∃ res, res = pObj0 f d s := ⟨_, rfl⟩
  rw [← hres]
  have HR := Aside0.mk hres
  clear hres
  cases hsk : skipWS s with
  | nil =>
    have HRN : Aside0 (res = none) := ⟨by rw [HR.out]; unfold pObj0; rw [hsk]⟩
    rw [hsk] at HSk
    clear hsk
    go_enter Tryz.func62, Tryz.ntmps62
    go_wp2_with fail
    refine (HSk.out _).mono ?_
    rintro e w1 ⟨rfl, rfl⟩
    rw [bStr_nil]
    go_wp2_with fail
    refine (errNew_b _ _).mono ?_
    rintro e w1 ⟨rfl, hE⟩
    have HE := Aside0.mk hE
    clear hE
    go_wp2
    go_ret3
    rw [HRN.out]
    exact VRes.no (Upd.of_below HE.out _) rfl
  | cons c0 r0 =>
    have hnb : nb (c0 :: r0) = nb s := by rw [← hsk, nb_skip]
    have hln : (c0 :: r0).length ≤ s.length := by rw [← hsk]; exact skip_len s
    have hw0 := skip_head hsk
    have hnb2 := nb_no r0 hw0
    have hln2 : (c0 :: r0).length = r0.length + 1 := by simp
    have HRS : Aside0 (res = if c0 = 125 then some (.obj [], r0) else pObj f d [] (c0 :: r0)) := ⟨by rw [HR.out]; unfold pObj0; rw [hsk]⟩
    rw [hsk] at HSk
    clear hsk HR hw0
    by_cases h93 : c0 = 125
    · subst h93
      have HRES : Aside0 (res = some (.obj [], r0)) := ⟨by rw [HRS.out, if_pos rfl]⟩
      clear HRS
      have T := tcons 125 r0
      obtain ⟨t, ht⟩ : ∃ t, t = bStr (125 :: r0) := ⟨_, rfl⟩
      rw [← ht] at T HSk
      obtain ⟨-, tp, tn, tz, t0, tt⟩ := T
      have t0 := t0 tp
      have HTT := Aside0.mk tt
      have hb1 : (1 : Int) ≤ (t.size : Int) := by omega
      clear ht tt
      go_enter Tryz.func62, Tryz.ntmps62
      go_wp2_with fail
      refine (HSk.out _).mono ?_
      rintro e w1 ⟨rfl, rfl⟩
      go_wp2_with fail
      refine (getValue_any w pb n c vb HC.out hmax).mono ?_
      rintro e w1 ⟨g, c', rfl, hG⟩
      obtain ⟨o, ho⟩ : ∃ o, o = 5 * n := ⟨_, rfl⟩
      have hnv := hG.newV
      have z0 : w1.cell? ⟨g, o, none⟩ = some (.slice none 0 0) := by rw [ho]; exact hG.zero 0 (by omega)
      have z1 : w1.cell? ⟨g, o + 1, none⟩ = some (.bool false) := by rw [ho]; exact hG.zero 1 (by omega)
      have z4 : w1.cell? ⟨g, o + 4, none⟩ = some (.int .i64 0) := by rw [ho]; exact hG.zero 4 (by omega)
      rw [← ho] at hnv ⊢
      have f0 : w1.frozen? ⟨g, o, none⟩ = false := hnv.fr 0 (by omega)
      have f1 := hnv.fr 1 (by omega)
      have f4 := hnv.fr 4 (by omega)
      have hgl := hnv.lt
      have HG := Aside0.mk hG.st
      have HNV := Aside0.mk hnv
      clear hG hnv ho
      go_wp2_with fail
      refine (oreset_any (w1.setCell ⟨g, o + 4, none⟩ (.int .i64 1)) g o ((World.cell?_setCell_other _ ⟨g, o + 4, none⟩ ⟨g, o, none⟩ _ (by simp)).trans z0) ((World.cell?_setCell_other _ ⟨g, o + 4, none⟩ ⟨g, o + 1, none⟩ _ (by simp)).trans z1) (by rw [World.frozen?_setCell]; exact f0) (by rw [World.frozen?_setCell]; exact f1)).mono ?_
      rintro e w2 ⟨rfl, hw2⟩
      have hst2 := (((HG.out.set (HNV.out.fresh 4 (by omega)) (.int .i64 1)).set (b := g) (o := o) ((HNV.out.set _).fresh 0 (by omega)) (.slice none 0 0)).set (((HNV.out.set _).set _).fresh 1 (by omega)) (.bool false))
      have hnv2 := ((HNV.out.set (b := g) (p := o + 4) (.int .i64 1)).set (b := g) (p := o) (.slice none 0 0)).set (b := g) (p := o + 1) (.bool false)
      have k4 : (((w1.setCell ⟨g, o + 4, none⟩ (.int .i64 1)).setCell ⟨g, o, none⟩ (.slice none 0 0)).setCell ⟨g, o + 1, none⟩ (.bool false)).cell? ⟨g, o + 4, none⟩ = some (.int .i64 1) := (World.cell?_setCell_other _ ⟨g, o + 1, none⟩ ⟨g, o + 4, none⟩ _ (by simp)).trans ((World.cell?_setCell_other _ ⟨g, o, none⟩ ⟨g, o + 4, none⟩ _ (by simp)).trans (World.cell?_setCell_same w1 ⟨g, o + 4, none⟩ _ z4))
      have k0 : (((w1.setCell ⟨g, o + 4, none⟩ (.int .i64 1)).setCell ⟨g, o, none⟩ (.slice none 0 0)).setCell ⟨g, o + 1, none⟩ (.bool false)).cell? ⟨g, o, none⟩ = some (.slice none 0 0) := (World.cell?_setCell_other _ ⟨g, o + 1, none⟩ ⟨g, o, none⟩ _ (by simp)).trans (World.cell?_setCell_same _ ⟨g, o, none⟩ _ ((World.cell?_setCell_other _ ⟨g, o + 4, none⟩ ⟨g, o, none⟩ _ (by simp)).trans z0))
      have k1 : (((w1.setCell ⟨g, o + 4, none⟩ (.int .i64 1)).setCell ⟨g, o, none⟩ (.slice none 0 0)).setCell ⟨g, o + 1, none⟩ (.bool false)).cell? ⟨g, o + 1, none⟩ = some (.bool false) := World.cell?_setCell_same _ ⟨g, o + 1, none⟩ _ ((World.cell?_setCell_other _ ⟨g, o, none⟩ ⟨g, o + 1, none⟩ _ (by simp)).trans ((World.cell?_setCell_other _ ⟨g, o + 4, none⟩ ⟨g, o + 1, none⟩ _ (by simp)).trans z1))
      rw [← hw2] at hst2 hnv2 k4 k0 k1
      have HA0 := Aside0.mk (ObjSt.start (s0 := s) (s := 125 :: r0) hst2 hnv2 k4 k0 k1 (by omega) hln (by omega))
      clear hw2 hst2 hnv2 k4 k0 k1 z0 z1 z4 f0 f1 f4 hgl HG HNV
      go_wp2
      go_quiet (fail)
      go_wp2
      go_ret3
      have HA := HA0.out.on ((Hold.start w2).drewN nq).below
      rw [HRES.out]
      exact VRes.yes (by rw [← HTT.out]; rfl) (HA.finish (by omega) (by omega))
    · have HRES : Aside0 (res = pObj f d [] (c0 :: r0)) := ⟨by rw [HRS.out, if_neg h93]⟩
      clear HRS
      have N93 : NeC c0 125 := neC 125 (toNat_ne h93)
      obtain ⟨q1, q2, q3⟩ := N93
      have T := tcons c0 r0
      obtain ⟨s1, hs1⟩ : ∃ s1, s1 = c0 :: r0 := ⟨_, rfl⟩
      rw [← hs1] at hnb hln HSk HRES T
      obtain ⟨t, ht⟩ : ∃ t, t = bStr s1 := ⟨_, rfl⟩
      have HT := Aside0.mk ht
      rw [← ht] at T HSk
      obtain ⟨-, tp, tn, tz, t0, tt⟩ := T
      have t0 := t0 tp
      clear ht tt h93 hnb2 hln2 hs1
      go_enter Tryz.func62, Tryz.ntmps62
      go_wp2_with fail
      refine (HSk.out _).mono ?_
      rintro e w1 ⟨rfl, rfl⟩
      go_wp2_with fail
      refine (getValue_any w pb n c vb HC.out hmax).mono ?_
      rintro e w1 ⟨g, c', rfl, hG⟩
      obtain ⟨o, ho⟩ : ∃ o, o = 5 * n := ⟨_, rfl⟩
      have hnv := hG.newV
      have z0 : w1.cell? ⟨g, o, none⟩ = some (.slice none 0 0) := by rw [ho]; exact hG.zero 0 (by omega)
      have z1 : w1.cell? ⟨g, o + 1, none⟩ = some (.bool false) := by rw [ho]; exact hG.zero 1 (by omega)
      have z4 : w1.cell? ⟨g, o + 4, none⟩ = some (.int .i64 0) := by rw [ho]; exact hG.zero 4 (by omega)
      rw [← ho] at hnv ⊢
      have f0 : w1.frozen? ⟨g, o, none⟩ = false := hnv.fr 0 (by omega)
      have f1 := hnv.fr 1 (by omega)
      have f4 := hnv.fr 4 (by omega)
      have hgl := hnv.lt
      have HG := Aside0.mk hG.st
      have HNV := Aside0.mk hnv
      clear hG hnv ho
      go_wp2_with fail
      refine (oreset_any (w1.setCell ⟨g, o + 4, none⟩ (.int .i64 1)) g o ((World.cell?_setCell_other _ ⟨g, o + 4, none⟩ ⟨g, o, none⟩ _ (by simp)).trans z0) ((World.cell?_setCell_other _ ⟨g, o + 4, none⟩ ⟨g, o + 1, none⟩ _ (by simp)).trans z1) (by rw [World.frozen?_setCell]; exact f0) (by rw [World.frozen?_setCell]; exact f1)).mono ?_
      rintro e w2 ⟨rfl, hw2⟩
      have hst2 := (((HG.out.set (HNV.out.fresh 4 (by omega)) (.int .i64 1)).set (b := g) (o := o) ((HNV.out.set _).fresh 0 (by omega)) (.slice none 0 0)).set (((HNV.out.set _).set _).fresh 1 (by omega)) (.bool false))
      have hnv2 := ((HNV.out.set (b := g) (p := o + 4) (.int .i64 1)).set (b := g) (p := o) (.slice none 0 0)).set (b := g) (p := o + 1) (.bool false)
      have k4 : (((w1.setCell ⟨g, o + 4, none⟩ (.int .i64 1)).setCell ⟨g, o, none⟩ (.slice none 0 0)).setCell ⟨g, o + 1, none⟩ (.bool false)).cell? ⟨g, o + 4, none⟩ = some (.int .i64 1) := (World.cell?_setCell_other _ ⟨g, o + 1, none⟩ ⟨g, o + 4, none⟩ _ (by simp)).trans ((World.cell?_setCell_other _ ⟨g, o, none⟩ ⟨g, o + 4, none⟩ _ (by simp)).trans (World.cell?_setCell_same w1 ⟨g, o + 4, none⟩ _ z4))
      have k0 : (((w1.setCell ⟨g, o + 4, none⟩ (.int .i64 1)).setCell ⟨g, o, none⟩ (.slice none 0 0)).setCell ⟨g, o + 1, none⟩ (.bool false)).cell? ⟨g, o, none⟩ = some (.slice none 0 0) := (World.cell?_setCell_other _ ⟨g, o + 1, none⟩ ⟨g, o, none⟩ _ (by simp)).trans (World.cell?_setCell_same _ ⟨g, o, none⟩ _ ((World.cell?_setCell_other _ ⟨g, o + 4, none⟩ ⟨g, o, none⟩ _ (by simp)).trans z0))
      have k1 : (((w1.setCell ⟨g, o + 4, none⟩ (.int .i64 1)).setCell ⟨g, o, none⟩ (.slice none 0 0)).setCell ⟨g, o + 1, none⟩ (.bool false)).cell? ⟨g, o + 1, none⟩ = some (.bool false) := World.cell?_setCell_same _ ⟨g, o + 1, none⟩ _ ((World.cell?_setCell_other _ ⟨g, o, none⟩ ⟨g, o + 1, none⟩ _ (by simp)).trans ((World.cell?_setCell_other _ ⟨g, o + 4, none⟩ ⟨g, o + 1, none⟩ _ (by simp)).trans z1))
      rw [← hw2] at hst2 hnv2 k4 k0 k1
      have HA := Aside0.mk (ObjSt.start (s0 := s) (s := s1) hst2 hnv2 k4 k0 k1 (by omega) hln (by omega))
      have HF := Aside0.mk (show 2 * s1.length + 1 < f by omega)
      clear hw2 hst2 hnv2 k4 k0 k1 z0 z1 z4 f0 f1 f4 hgl HG HNV
      go_wp2
      go_loopw [1] (fun sv wr => ∃ (s1 : Bs) (vb' : Option Nat) (n' c' : Nat) (acc : List (Bs × JV)) (ps : List (Nat × Nat)) (kb : Option Nat) (ck f' : Nat), sv = .string (bStr s1) ∧ ObjSt w pb vb n s g o wr vb' n' c' acc ps kb acc.length ck none s1 ∧ res = pObj f' d acc s1 ∧ 2 * s1.length + 1 < f') (fun sv _ => szOf sv)
      case atStart => exact ⟨s1, some g, n + 1, c', [], [], none, 0, f, by rw [HT.out], HA.out, HRES.out, HF.out⟩
      case round =>
        clear HA HF HRES HT HSk t0 tz tn tp q1 q2 q3
        obtain ⟨s1, vb', n', c', acc, ps, kb, ck, f', rfl, hA, hres, hf'⟩ := hrel
        obtain ⟨fk, rfl⟩ : ∃ fk, f' = fk + 1 := ⟨f' - 1, by omega⟩
        have hl1 : s1.length ≤ s.length := hA.sl
        have hcn := hA.cnt
        have hacc : acc.length < 1000000000000 := by have := hA.num; unfold MaxV at hb; omega
        have HA := Aside0.mk hA
        have HRS := Aside0.mk hres
        have HSz := Aside0.mk (show (bStr s1).size = s1.length from bStr_size s1)
        have HSk1 := Aside0.mk (fun w => skipWS_any s1 w (by omega))
        obtain ⟨t1, ht1⟩ : ∃ t1, t1 = bStr s1 := ⟨_, rfl⟩
        rw [← ht1] at HSk1 HSz ⊢
        have HGK := Aside0.mk (getKV_any wr g o acc.length ck kb hA.kv hacc)
        clear hA hres ht1
        go_wp2_with fail
        refine HGK.out.mono ?_
        rintro e w2 ⟨kg, ck2, rfl, hGK⟩
        have HB := Aside0.mk (HA.out.getKV hGK)
        obtain ⟨an, han⟩ : ∃ an, an = 2 * acc.length := ⟨_, rfl⟩
        rw [← han]
        have HAN := Aside0.mk han
        clear hGK HGK han
        go_wp2_with fail
        refine (HSk1.out _).mono ?_
        rintro e w3 ⟨rfl, rfl⟩
        have hsl := skip_len s1
        cases hsk : skipWS s1 with
        | nil =>
          have HRN : Aside0 (res = none) := ⟨HRS.out.trans (pObj_nil acc hsk)⟩
          clear hsk hsl
          rw [bStr_nil]
          go_wp2_with fail
          refine (errNew_b _ _).mono ?_
          rintro e w7 ⟨rfl, hE⟩
          have HE := Aside0.mk hE
          clear hE
          go_wp2
          go_ret3
          rw [HRN.out]
          exact VRes.no (HB.out.st.on HE.out).upd rfl
        | cons c1 r1 =>
          have HB1 := Aside0.mk (show ObjSt w pb vb n s g o w2 vb' n' c' acc ps (some kg) (acc.length + 1) ck2 none (c1 :: r1) from hsk ▸ HB.out.skip)
          rw [hsk] at hsl
          have hl2 : (c1 :: r1).length = r1.length + 1 := by simp
          have hw1 := skip_head hsk
          have T := tcons c1 r1
          obtain ⟨t2, ht2⟩ : ∃ t2, t2 = bStr (c1 :: r1) := ⟨_, rfl⟩
          have hz2 : t2.size = r1.length + 1 := by rw [ht2, bStr_size, hl2]
          rw [← ht2] at T ⊢
          obtain ⟨-, tp2, tn2, tz2, t02, tt2⟩ := T
          have t02 := t02 tp2
          have HTT := Aside0.mk tt2
          have hb1 : (1 : Int) ≤ (t2.size : Int) := by omega
          have HZ2 := Aside0.mk hz2
          clear ht2 tt2 hz2
          by_cases h34 : c1 = 34
          · subst h34
            have HSK := Aside0.mk hsk
            have hnr1 := nb_no r1 hw1
            clear hsk hw1
            go_wp2_with fail
            rw [show t2.extract 1 t2.size = bStr r1 from HTT.out]
            refine (rawKey_any r1 _ (by omega)).mono ?_
            rintro e w3 ⟨hbl, he⟩
            have HB2 := Aside0.mk (HB1.out.on hbl)
            clear hbl
            have hle2 := HB2.out.kv.le
            obtain ⟨⟨x0, kc⟩, kf⟩ := HB2.out.kcell (2 * acc.length) (by omega)
            rw [← HAN.out] at kc kf
            have hkl := (HB2.out.kb_ne kg rfl).2.2.2
            clear hle2
            cases hk : rawKey r1 with
            | none =>
              rw [hk] at he
              obtain ⟨a, b, g3, rfl⟩ := he
              have HRN : Aside0 (res = none) := ⟨HRS.out.trans (pObj_nokey acc HSK.out hk)⟩
              have HB3 := Aside0.mk (HB2.out.setK (2 * acc.length) (Nat.le_refl _) (.inl rfl) (.string a))
              rw [← HAN.out] at HB3
              clear hk
              unfold errV
              go_wp2_with fail
              refine (errNew_b _ _).mono ?_
              rintro e w7 ⟨rfl, hE⟩
              have HE := Aside0.mk hE
              clear hE
              go_wp2
              go_ret3
              rw [HRN.out]
              exact VRes.no (HB3.out.st.on HE.out).upd rfl
            | some q =>
              obtain ⟨k, r2⟩ := q
              rw [hk] at he
              obtain rfl : e = .returned (.tuple #[.string (bStr k), .string (bStr r2), .nilIface]) := he
              obtain ⟨hq1, hq2⟩ := nb_quote (rawKey_eq hk)
              have HK := Aside0.mk hk
              have hB3 := (HB2.out.setKey k).less (r := r2) (by omega) (by omega)
              rw [← HAN.out] at hB3
              have HB3 := Aside0.mk hB3
              clear hk hB3
              go_wp2_with fail
              clear kc kf hkl
              generalize w3.setCell ⟨kg, an, none⟩ (.string (bStr k)) = w4 at HB3 ⊢
              refine (skipWS_any r2 _ (by omega)).mono ?_
              rintro e w5 ⟨rfl, rfl⟩
              have hsl2 := skip_len r2
              cases hsk2 : skipWS r2 with
              | nil =>
                have HRN : Aside0 (res = none) := ⟨HRS.out.trans (pObj_nocolon0 acc HSK.out HK.out hsk2)⟩
                clear hsk2 hsl2
                rw [bStr_nil]
                go_wp2_with fail
                refine (errNew_b _ _).mono ?_
                rintro e w7 ⟨rfl, hE⟩
                have HE := Aside0.mk hE
                clear hE
                go_wp2
                go_ret3
                rw [HRN.out]
                exact VRes.no (HB3.out.st.on HE.out).upd rfl
              | cons c3 r3 =>
                have HB4 := Aside0.mk (show ObjSt w pb vb n s g o w4 vb' n' c' acc ps (some kg) (acc.length + 1) ck2 (some k) (c3 :: r3) from hsk2 ▸ HB3.out.skip)
                rw [hsk2] at hsl2
                have hl3 : (c3 :: r3).length = r3.length + 1 := by simp
                have hw3 := skip_head hsk2
                have T := tcons c3 r3
                obtain ⟨t3, ht3⟩ : ∃ t3, t3 = bStr (c3 :: r3) := ⟨_, rfl⟩
                have hz3 : t3.size = r3.length + 1 := by rw [ht3, bStr_size, hl3]
                rw [← ht3] at T ⊢
                obtain ⟨-, tp3, tn3, tz3, t03, tt3⟩ := T
                have t03 := t03 tp3
                have HTT3 := Aside0.mk tt3
                have hb3 : (1 : Int) ≤ (t3.size : Int) := by omega
                clear ht3 tt3 hz3
                by_cases h58 : c3 = 58
                · subst h58
                  have HSK2 := Aside0.mk hsk2
                  have hnr3 := nb_no r3 hw3
                  clear hsk2 hw3
                  go_wp2_with fail
                  rw [show t3.extract 1 t3.size = bStr r3 from HTT3.out]
                  refine (skipWS_any r3 _ (by omega)).mono ?_
                  rintro e w5 ⟨rfl, rfl⟩
                  have hsl3 := skip_len r3
                  have HB5 := Aside0.mk ((HB4.out.less (r := r3) (by omega) (by omega)).skip)
                  have hcn5 := HB5.out.cnt
                  obtain ⟨s4, hs4⟩ : ∃ s4, s4 = skipWS r3 := ⟨_, rfl⟩
                  have HS4 := Aside0.mk hs4
                  rw [← hs4] at hsl3 HB5 hcn5 ⊢
                  clear hs4
                  have HPV := Aside0.mk (HIH.out s4 (by omega) w4 pb n' c' d fk vb' HB5.out.st.cache (by unfold MaxV at hb ⊢; omega) (by omega) hd)
                  go_wp2_with fail
                  refine HPV.out.mono ?_
                  rintro e w5 ⟨hU, hV⟩
                  cases hq : pVal fk d s4 with
                  | none =>
                    rw [hq] at hV
                    obtain ⟨a, g2, rfl⟩ := hV
                    have HRN : Aside0 (res = none) := ⟨HRS.out.trans (pObj_noval acc HSK.out HK.out HSK2.out (by rw [← HS4.out]; exact hq))⟩
                    clear hq
                    -- the fields' block is as it was
                    have hnk : ∀ o, ¬ Writes pb vb' n' kg o := fun o hw => by
                      obtain ⟨n1, n2, _⟩ := HB5.out.kb_ne kg rfl
                      rcases hw with ⟨h1, _⟩ | ⟨h1, _⟩
                      · exact n1 h1
                      · exact n2 h1
                    obtain ⟨n1, n2, n3, n4⟩ := HB5.out.kb_ne kg rfl
                    have hle5 := HB5.out.kv.le
                    obtain ⟨⟨x5, kc5⟩, kf5⟩ := HB5.out.kcell (2 * acc.length + 1) (by omega)
                    rw [← HAN.out] at kc5 kf5
                    have kc6 := (hU.cell kg (an + 1) n4 (hnk _)).trans kc5
                    obtain ⟨-, cs5, hg5, -⟩ := HB5.out.kv.sp kg rfl
                    have kf6 := (frozen_upd (o := an + 1) hU 0 (hnk 0) ⟨cs5, hg5⟩).trans kf5
                    have hkl6 : kg < w5.heap.size := Nat.lt_of_lt_of_le n4 hU.size
                    have HU := Aside0.mk ((HB5.out.st.upd.trans hU (fun _ _ _ h => h) (fun b o hb hw => HB5.out.st.grew.writes hb hw)).trans (Upd.setCell w5 kg (an + 1) (.pointer none) (C := fun b' o' => b' = kg ∧ o' = an + 1) ⟨rfl, rfl⟩) (fun _ _ _ h => h) (fun b o hb e => by have := HB5.out.base kg rfl; have := e.1; omega))
                    clear hnk n1 n2 n3 n4 hle5 kc5 kf5 cs5 hg5 hU
                    unfold errV
                    go_wp2_with fail
                    refine (errNew_b _ _).mono ?_
                    rintro e w7 ⟨rfl, hE⟩
                    have HE := Aside0.mk hE
                    clear hE
                    go_wp2
                    go_ret3
                    rw [HRN.out]
                    exact VRes.no (HU.out.trans (Upd.of_below HE.out (fun _ _ => False)) (fun _ _ _ h => h) (fun _ _ _ h => h.elim)) rfl
                  | some q =>
                    obtain ⟨v, r5⟩ := q
                    rw [hq] at hV
                    obtain ⟨b2, o2, vb2, n2, c2, rfl, hK⟩ := hV
                    replace hK : VOk w4 pb vb' n' s4 v r5 b2 o2 w5 vb2 n2 c2 := hK
                    obtain ⟨hB6, hT6, hnum6⟩ := HB5.out.kid hK
                    have hrl5 := hK.len
                    have HQ := Aside0.mk (show pVal fk d (skipWS r3) = some (v, r5) by rw [← HS4.out]; exact hq)
                    have hle6 := hB6.kv.le
                    obtain ⟨⟨x6, kc6⟩, kf6⟩ := hB6.kcell (2 * acc.length + 1) (by omega)
                    have hkl6 := (hB6.kb_ne kg rfl).2.2.2
                    have hB7 := hB6.setVal hT6 hnum6
                    rw [← HAN.out] at kc6 kf6 hB7
                    have HB7 : Aside0 (ObjSt w pb vb n s g o (w5.setCell ⟨kg, an + 1, none⟩ (.pointer (some ⟨b2, o2, none⟩))) vb2 n2 c2 (acc ++ [(k, v)]) (ps ++ [(b2, o2)]) (some kg) (acc ++ [(k, v)]).length ck2 none r5) := ⟨hB7⟩
                    clear hB7 hB6 hT6 hK hq hle6 hU HPV
                    go_wp2_with fail
                    clear kc6 kf6 hkl6
                    generalize w5.setCell ⟨kg, an + 1, none⟩ (.pointer (some ⟨b2, o2, none⟩)) = w6 at HB7 ⊢
                    refine (skipWS_any r5 _ (by omega)).mono ?_
                    rintro e w7 ⟨rfl, rfl⟩
                    have hsl5 := skip_len r5
                    cases hsk5 : skipWS r5 with
                    | nil =>
                      have HRN : Aside0 (res = none) := ⟨HRS.out.trans (pObj_end acc HSK.out HK.out HSK2.out HQ.out hsk5)⟩
                      clear hsk5 hsl5
                      rw [bStr_nil]
                      go_wp2_with fail
                      refine (errNew_b _ _).mono ?_
                      rintro e w7 ⟨rfl, hE⟩
                      have HE := Aside0.mk hE
                      clear hE
                      go_wp2
                      go_ret3
                      rw [HRN.out]
                      exact VRes.no (HB7.out.st.on HE.out).upd rfl
                    | cons c6 r6 =>
                      have HB8 := Aside0.mk (show ObjSt w pb vb n s g o w6 vb2 n2 c2 (acc ++ [(k, v)]) (ps ++ [(b2, o2)]) (some kg) (acc ++ [(k, v)]).length ck2 none (c6 :: r6) from hsk5 ▸ HB7.out.skip)
                      have HRS6 := Aside0.mk (HRS.out.trans (pObj_cons acc HSK.out HK.out HSK2.out HQ.out hsk5))
                      rw [hsk5] at hsl5
                      have hl6 : (c6 :: r6).length = r6.length + 1 := by simp
                      have hw6 := skip_head hsk5
                      have hnr6 := nb_no r6 hw6
                      have T := tcons c6 r6
                      obtain ⟨t6, ht6⟩ : ∃ t6, t6 = bStr (c6 :: r6) := ⟨_, rfl⟩
                      have hz6 : t6.size = r6.length + 1 := by rw [ht6, bStr_size, hl6]
                      rw [← ht6] at T ⊢
                      obtain ⟨-, tp6, tn6, tz6, t06, tt6⟩ := T
                      have t06 := t06 tp6
                      have HTT6 := Aside0.mk tt6
                      have hb6 : (1 : Int) ≤ (t6.size : Int) := by omega
                      clear hsk5 ht6 tt6 hw6 hz6
                      by_cases h44 : c6 = 44
                      · subst h44
                        have HRN : Aside0 (res = pObj fk d (acc ++ [(k, v)]) r6) := ⟨by rw [HRS6.out, if_pos rfl]⟩
                        have HB9 := Aside0.mk (HB8.out.less (r := r6) (by omega) (by omega))
                        have hfk2 : 2 * r6.length + 1 < fk := by omega
                        have hlt2 : r6.length < s1.length := by omega
                        clear HRS6
                        go_wp2
                        go_roundw
                        case rel => exact ⟨r6, vb2, n2, c2, acc ++ [(k, v)], ps ++ [(b2, o2)], some kg, ck2, fk, by rw [HTT6.out], HB9.out, HRN.out, hfk2⟩
                        case measure =>
                          show szOf (.string (t6.extract 1 t6.size)) < szOf (.string t1)
                          rw [HTT6.out]
                          show (bStr r6).size < t1.size
                          rw [bStr_size, HSz.out]
                          exact hlt2
                      · have N44 : NeC c6 44 := neC 44 (toNat_ne h44)
                        obtain ⟨q1, q2, q3⟩ := N44
                        by_cases h125 : c6 = 125
                        · subst h125
                          have HRN : Aside0 (res = some (.obj (acc ++ [(k, v)]), r6)) := ⟨by rw [HRS6.out, if_neg h44, if_pos rfl]⟩
                          clear HRS6 h44
                          go_wp2
                          go_quiet (fail)
                          go_wp2
                          go_ret3
                          rw [HRN.out]
                          exact VRes.yes (by rw [← HTT6.out]; rfl) ((HB8.out.on ((Hold.start _).drewN nq).below).finish (r := r6) (by omega) (by omega))
                        · have N125 : NeC c6 125 := neC 125 (toNat_ne h125)
                          obtain ⟨p1, p2, p3⟩ := N125
                          have HRN : Aside0 (res = none) := ⟨by rw [HRS6.out, if_neg h44, if_neg h125]⟩
                          clear HRS6 h44 h125
                          go_wp2_with fail
                          refine (errNew_b _ _).mono ?_
                          rintro e w7 ⟨rfl, hE⟩
                          have HE := Aside0.mk hE
                          clear hE
                          go_wp2
                          go_ret3
                          rw [HRN.out]
                          exact VRes.no (HB7.out.st.on HE.out).upd rfl
                · have N58 : NeC c3 58 := neC 58 (toNat_ne h58)
                  obtain ⟨q1, q2, q3⟩ := N58
                  have HRN : Aside0 (res = none) := ⟨HRS.out.trans (pObj_nocolon acc HSK.out HK.out hsk2 h58)⟩
                  clear hsk2 hsl2 h58 hw3
                  go_wp2_with fail
                  refine (errNew_b _ _).mono ?_
                  rintro e w7 ⟨rfl, hE⟩
                  have HE := Aside0.mk hE
                  clear hE
                  go_wp2
                  go_ret3
                  rw [HRN.out]
                  exact VRes.no (HB3.out.st.on HE.out).upd rfl
          · have N34 : NeC c1 34 := neC 34 (toNat_ne h34)
            obtain ⟨q1, q2, q3⟩ := N34
            have HRN : Aside0 (res = none) := ⟨HRS.out.trans (pObj_noq acc hsk h34)⟩
            clear hsk hsl h34 hw1
            go_wp2_with fail
            refine (errNew_b _ _).mono ?_
            rintro e w7 ⟨rfl, hE⟩
            have HE := Aside0.mk hE
            clear hE
            go_wp2
            go_ret3
            rw [HRN.out]
            exact VRes.no (HB.out.st.on HE.out).upd rfl
end Go.Proofs.YtgldcjmdjhghpaaGreatDoor
