/-
  jwkbb.HeaderGetStringBytes; impl.HeadKeyHas, HeadKeyString, HeadKeyBytes: their contracts.
-/
import Derived.Test.YtgldcjmdjhghpaaGreatDoorKh
import Derived.Deep.RegionWith
namespace Go.Proofs.YtgldcjmdjhghpaaGreatDoor
open Go.RowKit Go.Proofs.YtgldcjmdjhghpaaGreatDoorW.PrintWords Go.ChangeShapes Go.WideShapes
set_option linter.unusedVariables false
set_option linter.unusedSimpArgs false
set_option maxRecDepth 100000
/-- The bytes of a text that was asked for, or an error. -/
def RetBytes (w' : World) (r : Option Bs) (e : Ending) : Prop :=
  match r with
  | some s => ∃ A n c, e = .returned (.tuple #[.slice A n c, .nilIface]) ∧ kB.C w' A n s ∧ n ≤ 900000000000
  | none => ∃ T x, e = .returned (.tuple #[.slice none 0 0, .iface T x])
set_option maxHeartbeats 1000000 in
theorem kbytes_any (w : World) (g B : Nat) (t : Option JV) (key : Bs) (hH : KHdrAt B w g t) (hB : B ≤ w.heap.size) (hf : FitO t) :
    Calls Tryz.prog 23 #[khdrV g, .string (bStr key)] w fun e w' => RetBytes w' (strT t key) e ∧ Below B w w' := by
  have HG := Aside0.mk (khget_any w g B t key hH hB hf)
  have HSt : Aside0 (∀ r, r = tGet t key → strT t key = match r with | some (.str raw) => some (unesc raw) | _ => none) := ⟨fun r hr => by rw [hr]; rfl⟩
  obtain ⟨r, hr⟩ : ∃ r, r = tGet t key := ⟨_, rfl⟩
  rw [← hr] at HG
  have HS := Aside0.mk (HSt.out r hr)
  obtain ⟨s, hs⟩ : ∃ s, s = strT t key := ⟨_, rfl⟩
  rw [← hs] at HS ⊢
  obtain ⟨k, hk⟩ : ∃ k, k = bStr key := ⟨_, rfl⟩
  rw [← hk] at HG ⊢
  have HB0 := Aside0.mk hB
  clear hH hf hr hk hB HSt hs
  go_enter Tryz.func23, Tryz.ntmps23
  go_wp2_with fail
  refine HG.out.mono ?_
  cases r with
  | none =>
    rintro e w1 ⟨⟨T, x, rfl⟩, hb⟩
    have HB := Aside0.mk hb
    obtain rfl : s = none := HS.out
    clear hb
    go_wp2
    go_ret2
    exact ⟨⟨_, _, rfl⟩, HB.out⟩
  | some v =>
    rintro e w1 ⟨⟨b, o, rfl, hL, hfv⟩, hb⟩
    rcases strV_cases v with ⟨raw, rfl⟩ | hv
    · obtain rfl : s = some (unesc raw) := HS.out
      cases hL with
      | str hB1 hT al hStr =>
        have hl := unesc_len raw
        have HY := Aside0.mk (vbytes_yes w1 b o raw hT hfv.2 (by have := hfv.2; omega) hfv.1 hStr)
        have HB := Aside0.mk (And.intro hb hB1)
        have HLn : Aside0 ((unesc raw).length ≤ 900000000000) := ⟨by have := hfv.2; omega⟩
        obtain ⟨q, hq⟩ : ∃ q, q = unesc raw := ⟨_, rfl⟩
        rw [← hq] at HY HLn
        obtain ⟨l, hlq⟩ : ∃ l, l = q.length := ⟨_, rfl⟩
        rw [← hlq] at HY HLn
        have HL := Aside0.mk (And.intro hlq hq)
        clear hb hB1 hT al hStr hfv hq hl hlq HS
        go_wp2_with fail
        refine HY.out.mono ?_
        rintro e w2 ⟨g2, cap, rfl, hBuf, hD, hU⟩
        have HU := Aside0.mk (And.intro hU (by have := hBuf.C; rw [← HL.out.1] at this; exact this))
        clear hBuf hD hU
        go_wp2
        go_ret2
        exact ⟨⟨_, _, _, rfl, by rw [← HL.out.2]; exact HU.out.2, HLn.out⟩, HB.out.1.trans (HU.out.1.below B (Nat.le_trans HB0.out HB.out.1.size) (fun b' o' hb' hh => by have := hh.1; have := HB.out.2; omega))⟩
    · obtain ⟨k4, hk4, h4⟩ := hL.kind hv
      have HN := Aside0.mk (vbytes_no w1 b o k4 hk4 h4)
      obtain rfl : s = none := by
        rw [HS.out]
        cases v with
        | str raw => exact absurd rfl (hv raw)
        | _ => rfl
      have HB := Aside0.mk hb
      clear hb hL hfv hv h4 hk4
      go_wp2_with fail
      refine HN.out.mono ?_
      rintro e w2 ⟨g2, rfl, hb2⟩
      have HB2 := Aside0.mk hb2
      clear hb2
      unfold errP
      go_wp2
      go_ret2
      exact ⟨⟨_, _, rfl⟩, HB.out.trans (HB2.out.mono (Nat.le_trans HB0.out HB.out.size))⟩
set_option maxHeartbeats 1000000 in
theorem headKeyHas_any (s key : Bs) (w : World) (n c : Nat) (A : Option Addr) (hs : s.length ≤ 900000000000) (hn : n ≤ 900000000000) (hT : kB.C w A n s) (hf : FitO (pTop s)) :
    Calls Tryz.prog 12 #[.slice A n c, .string (bStr key)] w fun e w' => e = .returned (.bool (tGet (pTop s) key).isSome) ∧ Below w.heap.size w w' := by
  have HC := Aside0.mk (bcloneH_any w A n c s (by omega) hT)
  have HP := Aside0.mk (fun (w1 : World) (A1 : Option Addr) (c1 : Nat) (h : kB.C w1 A1 s.length s) => khparse_any s w1 s.length c1 A1 hs h)
  have HS := Aside0.mk (fun (B : Nat) (w1 : World) (g : Nat) (h : KHdrAt B w1 g (pTop s)) (hB : B ≤ w1.heap.size) => khhas_any w1 g B (pTop s) key h hB hf)
  obtain ⟨r, hr⟩ : ∃ r, r = (tGet (pTop s) key).isSome := ⟨_, rfl⟩
  rw [← hr] at HS ⊢
  obtain ⟨t, ht⟩ : ∃ t, t = pTop s := ⟨_, rfl⟩
  rw [← ht] at HP HS
  obtain ⟨k, hk⟩ : ∃ k, k = bStr key := ⟨_, rfl⟩
  rw [← hk] at HS ⊢
  clear hs hn hT hf hr ht hk
  go_enter Tryz.func12, Tryz.ntmps12
  go_wp2_with fail
  refine HC.out.mono ?_
  rintro e w1 ⟨v, rfl, hH⟩
  obtain ⟨A1, c1, rfl, _, hC1⟩ := hH.reads 0 rfl
  have HB1 := Aside0.mk hH.below
  have HC1 := Aside0.mk hC1
  clear hH hC1
  go_wp2_with fail
  refine (HP.out _ _ _ HC1.out).mono ?_
  rintro e w2 ⟨g, rfl, hb, hd⟩
  have HS1 := Aside0.mk (HS.out _ w2 g hd hb.size)
  have HB : Aside0 (Below w.heap.size w w2) := ⟨HB1.out.trans (hb.mono HB1.out.size)⟩
  have HW12 := Aside0.mk hb.size
  have HE : Aside0 (∀ w3, Below w1.heap.size w2 w3 → Below w.heap.size w w3) := ⟨fun w3 h => HB.out.trans (h.mono HB1.out.size)⟩
  clear hb hd
  go_wp2_with fail
  refine HS1.out.mono ?_
  rintro e w3 ⟨rfl, hb2⟩
  have HB2 := Aside0.mk hb2
  clear hb2
  go_wp2
  go_ret
  exact ⟨rfl, HE.out _ HB2.out⟩
set_option maxHeartbeats 1000000 in
theorem headKeyString_any (s key : Bs) (w : World) (n c : Nat) (A : Option Addr) (hs : s.length ≤ 900000000000) (hn : n ≤ 900000000000) (hT : kB.C w A n s) (hf : FitO (pTop s)) :
    Calls Tryz.prog 10 #[.slice A n c, .string (bStr key)] w fun e w' => e = .returned (.tuple #[.string (bStr ((strT (pTop s) key).getD [])), .bool (strT (pTop s) key).isSome]) ∧ Below w.heap.size w w' := by
  have HC := Aside0.mk (bcloneH_any w A n c s (by omega) hT)
  have HP := Aside0.mk (fun (w1 : World) (A1 : Option Addr) (c1 : Nat) (h : kB.C w1 A1 s.length s) => khparse_any s w1 s.length c1 A1 hs h)
  have HS := Aside0.mk (fun (B : Nat) (w1 : World) (g : Nat) (h : KHdrAt B w1 g (pTop s)) (hB : B ≤ w1.heap.size) => khstr_any w1 g B (pTop s) key h hB hf)
  obtain ⟨r, hr⟩ : ∃ r, r = strT (pTop s) key := ⟨_, rfl⟩
  rw [← hr] at HS ⊢
  obtain ⟨t, ht⟩ : ∃ t, t = pTop s := ⟨_, rfl⟩
  rw [← ht] at HP HS
  obtain ⟨k, hk⟩ : ∃ k, k = bStr key := ⟨_, rfl⟩
  rw [← hk] at HS ⊢
  clear hs hn hT hf hr ht hk
  go_enter Tryz.func10, Tryz.ntmps10
  go_wp2_with fail
  refine HC.out.mono ?_
  rintro e w1 ⟨v, rfl, hH⟩
  obtain ⟨A1, c1, rfl, _, hC1⟩ := hH.reads 0 rfl
  have HB1 := Aside0.mk hH.below
  have HC1 := Aside0.mk hC1
  clear hH hC1
  go_wp2_with fail
  refine (HP.out _ _ _ HC1.out).mono ?_
  rintro e w2 ⟨g, rfl, hb, hd⟩
  have HS1 := Aside0.mk (HS.out _ w2 g hd hb.size)
  have HB : Aside0 (Below w.heap.size w w2) := ⟨HB1.out.trans (hb.mono HB1.out.size)⟩
  have HW12 := Aside0.mk hb.size
  have HE : Aside0 (∀ w3, Below w1.heap.size w2 w3 → Below w.heap.size w w3) := ⟨fun w3 h => HB.out.trans (h.mono HB1.out.size)⟩
  clear hb hd
  go_wp2_with fail
  refine HS1.out.mono ?_
  cases r with
  | none =>
    rintro e w3 ⟨⟨T, x, rfl⟩, hb2⟩
    have HB2 := Aside0.mk hb2
    clear hb2
    go_wp2
    go_quiet (fail)
    go_wp2
    go_ret2
    exact ⟨rfl, endB (HE.out _ HB2.out) _⟩
  | some q =>
    rintro e w3 ⟨he, hb2⟩
    obtain rfl : e = .returned (.tuple #[.string (bStr q), .nilIface]) := he
    have HB2 := Aside0.mk hb2
    obtain ⟨u, hu⟩ : ∃ u, u = bStr q := ⟨_, rfl⟩
    rw [← hu]
    have HU := Aside0.mk hu
    clear hb2 hu
    go_wp2
    go_quiet (fail)
    go_wp2
    go_ret2
    exact ⟨by show _ = Ending.returned (.tuple #[.string (bStr q), _]); rw [← HU.out]; rfl, endB (HE.out _ HB2.out) _⟩
set_option maxHeartbeats 1000000 in
theorem headKeyBytes_any (s key : Bs) (w : World) (n c : Nat) (A : Option Addr) (hs : s.length ≤ 900000000000) (hn : n ≤ 900000000000) (hT : kB.C w A n s) (hf : FitO (pTop s)) :
    Calls Tryz.prog 11 #[.slice A n c, .string (bStr key)] w fun e w' => ∃ A2 n2 c2, e = .returned (.tuple #[.slice A2 n2 c2, .bool (strT (pTop s) key).isSome]) ∧ n2 ≤ 900000000000 ∧ kB.C w' A2 n2 ((strT (pTop s) key).getD []) ∧ Below w.heap.size w w' := by
  have HC := Aside0.mk (bcloneH_any w A n c s (by omega) hT)
  have HP := Aside0.mk (fun (w1 : World) (A1 : Option Addr) (c1 : Nat) (h : kB.C w1 A1 s.length s) => khparse_any s w1 s.length c1 A1 hs h)
  have HS := Aside0.mk (fun (B : Nat) (w1 : World) (g : Nat) (h : KHdrAt B w1 g (pTop s)) (hB : B ≤ w1.heap.size) => kbytes_any w1 g B (pTop s) key h hB hf)
  obtain ⟨r, hr⟩ : ∃ r, r = strT (pTop s) key := ⟨_, rfl⟩
  rw [← hr] at HS ⊢
  obtain ⟨t, ht⟩ : ∃ t, t = pTop s := ⟨_, rfl⟩
  rw [← ht] at HP HS
  obtain ⟨k, hk⟩ : ∃ k, k = bStr key := ⟨_, rfl⟩
  rw [← hk] at HS ⊢
  clear hs hn hT hf hr ht hk
  go_enter Tryz.func11, Tryz.ntmps11
  go_wp2_with fail
  refine HC.out.mono ?_
  rintro e w1 ⟨v, rfl, hH⟩
  obtain ⟨A1, c1, rfl, _, hC1⟩ := hH.reads 0 rfl
  have HB1 := Aside0.mk hH.below
  have HC1 := Aside0.mk hC1
  clear hH hC1
  go_wp2_with fail
  refine (HP.out _ _ _ HC1.out).mono ?_
  rintro e w2 ⟨g, rfl, hb, hd⟩
  have HS1 := Aside0.mk (HS.out _ w2 g hd hb.size)
  have HB : Aside0 (Below w.heap.size w w2) := ⟨HB1.out.trans (hb.mono HB1.out.size)⟩
  have HW12 := Aside0.mk hb.size
  have HE : Aside0 (∀ w3, Below w1.heap.size w2 w3 → Below w.heap.size w w3) := ⟨fun w3 h => HB.out.trans (h.mono HB1.out.size)⟩
  clear hb hd
  go_wp2_with fail
  refine HS1.out.mono ?_
  cases r with
  | none =>
    rintro e w3 ⟨⟨T, x, rfl⟩, hb2⟩
    have HX : w1.heap.size ≤ w3.heap.size := Nat.le_trans HW12.out hb2.size
    have HK : Aside0 (∀ wz, Below w3.heap.size w3 wz → Calls Tryz.prog 9 #[.slice none 0 0] wz fun e w' => ∃ A4 c4, e = .returned (.slice A4 0 c4) ∧ kB.C w' A4 0 ([] : Bs) ∧ Below w.heap.size w w') := ⟨fun wz h => (bcloneH_any wz none 0 0 [] (by omega) ⟨rfl, Nat.zero_le _, fun h => absurd h (Nat.lt_irrefl 0)⟩).mono (by
      rintro e w' ⟨v, rfl, hS⟩
      obtain ⟨A2, c2, rfl, _, hC2⟩ := hS.reads 0 rfl
      exact ⟨A2, c2, rfl, hC2, (HE.out _ (hb2.trans (h.mono HX))).trans (hS.below.mono (Nat.le_trans (Nat.le_trans HB1.out.size HX) h.size))⟩)⟩
    clear hb2 HX
    go_wp2_with fail
    go_region_with (go_at_call 9; refine (HK.out _ (Below.refl _ _).drew).mono ?_; rintro e w4 ⟨A4, c4, rfl, h4⟩; have H4 := Aside0.mk h4; clear h4)
    all_goals (go_wp2; go_ret2; exact ⟨_, _, _, rfl, Nat.zero_le _, H4.out⟩)
  | some q =>
    rintro e w3 ⟨⟨A3, n3, c3, rfl, hC3, hn3⟩, hb2⟩
    have HX : w1.heap.size ≤ w3.heap.size := Nat.le_trans HW12.out hb2.size
    have HK : Aside0 (∀ wz, Below w3.heap.size w3 wz → Calls Tryz.prog 9 #[.slice A3 n3 c3] wz fun e w' => ∃ A4 c4, e = .returned (.slice A4 n3 c4) ∧ kB.C w' A4 n3 q ∧ Below w.heap.size w w') := ⟨fun wz h => (bcloneH_any wz A3 n3 c3 q (by omega) (Kd.C_below hC3 h)).mono (by
      rintro e w' ⟨v, rfl, hS⟩
      obtain ⟨A2, c2, rfl, _, hC2⟩ := hS.reads 0 rfl
      rw [hC3.1] at hC2 ⊢
      exact ⟨A2, c2, rfl, hC2, (HE.out _ (hb2.trans (h.mono HX))).trans (hS.below.mono (Nat.le_trans (Nat.le_trans HB1.out.size HX) h.size))⟩)⟩
    have HL := Aside0.mk hn3
    clear hb2 HX hC3 hn3
    go_wp2_with fail
    go_region_with (go_at_call 9; refine (HK.out _ (Below.refl _ _).drew).mono ?_; rintro e w4 ⟨A4, c4, rfl, h4⟩; have H4 := Aside0.mk h4; clear h4)
    all_goals (go_wp2; go_ret2; exact ⟨_, _, _, rfl, HL.out, H4.out⟩)
end Go.Proofs.YtgldcjmdjhghpaaGreatDoor
