/-
  HeaderParseCompact, impl.HeadCompact, impl.HeadCompactInt64: their contracts.
-/
import Derived.Test.YtdldblfklalaeaaGreatDoorHo
import Derived.Test.YtdldblfklalaeaaGreatDoorSc
namespace Go.Proofs.YtdldblfklalaeaaGreatDoor
open Go.RowKit Go.Proofs.YtdldblfklalaeaaGreatDoorW.PrintWords Go.ChangeShapes Go.WideShapes
set_option linter.unusedVariables false
set_option linter.unusedSimpArgs false
set_option maxRecDepth 100000
theorem HdrAt.mono {B B' : Nat} {w : World} {g : Nat} {t : Option JV} (hB : B' ≤ B) (h : HdrAt B w g t) : HdrAt B' w g t := by
  cases t with
  | none => exact h
  | some v =>
    obtain ⟨b, o, h1, h2⟩ := h
    exact ⟨b, o, h1, h2.mono (fun b o hh => ⟨by have := hh.1; omega, hh.2⟩) (fun _ _ _ => rfl) (fun _ _ _ _ h => h)⟩
theorem hpc_any (xs : Bs) (w : World) (A : Option Addr) (b o c : Nat) (hl : xs.length ≤ 200000000) (hA : 0 < (b64 true xs).length → A = some ⟨b, o, none⟩) (hc : (b64 true xs).length ≤ c) (hC : kB.C w A (b64 true xs).length (b64 true xs)) :
    Calls Tryz.prog 75 #[.slice A (b64 true xs).length c] w fun e w' => ∃ g, e = .returned (hdrV g) ∧ Below w.heap.size w w' ∧ HdrAt w.heap.size w' g (pTop xs) := by
  obtain ⟨hok, hg⟩ := guess_raw (ts := b64 true xs) (fun k hk => b64_isL true xs k hk)
  have hlen : (b64 true xs).length ≤ 1000000000 := by rw [b64_len]; unfold encLen; omega
  have HD := Aside0.mk (dec64_any w true A b o c (b64 true xs) hlen hA hc hC hok (by rw [hg]))
  rw [decAll_b64] at HD
  have HP := Aside0.mk (fun (w1 : World) (A1 : Option Addr) (n1 c1 : Nat) (h : kB.C w1 A1 n1 xs) => hparse_any xs w1 n1 c1 A1 (by omega) h)
  obtain ⟨m, hm⟩ : ∃ m, m = (b64 true xs).length := ⟨_, rfl⟩
  rw [← hm] at HD ⊢
  obtain ⟨t, ht⟩ : ∃ t, t = pTop xs := ⟨_, rfl⟩
  rw [← ht] at HP ⊢
  clear hok hg hlen hA hc hC hm ht
  go_enter Tryz.func75, Tryz.ntmps75
  go_wp2_with fail
  refine HD.out.mono ?_
  rintro e w1 ⟨v, rfl, hH⟩
  obtain ⟨A1, c1, rfl, hle1, hC1⟩ := hH.reads 0 rfl
  have HP1 := Aside0.mk (HP.out w1 A1 _ c1 hC1)
  have HB := Aside0.mk hH.below
  clear hH hC1
  go_wp2_with fail
  refine HP1.out.mono ?_
  rintro e w2 ⟨g, rfl, hb, hd⟩
  have HE := Aside0.mk (And.intro hb hd)
  clear hb hd
  go_wp2
  go_ret
  exact ⟨g, rfl, HB.out.trans (HE.out.1.mono HB.out.size), HdrAt.mono HB.out.size HE.out.2⟩
theorem headCompact_any (s key : Bs) (w : World) (n c : Nat) (A : Option Addr) (hl : s.length ≤ 200000000) (hT : kB.C w A n (b64 true s)) (hf : FitO (pTop s)) :
    Calls Tryz.prog 46 #[.slice A n c, .string (bStr key)] w fun e w' => e = .returned (.tuple #[.string (bStr ((strT (pTop s) key).getD [])), .bool (strT (pTop s) key).isSome]) ∧ Below w.heap.size w w' := by
  have hn : n ≤ 140737488355328 := by rw [← hT.1, b64_len]; unfold encLen; omega
  have HCl := Aside0.mk (bcloneH_any w A n c (b64 true s) hn hT)
  have HH := Aside0.mk (fun (wz : World) (A1 : Option Addr) (b o c1 : Nat) h1 h2 h3 => hpc_any s wz A1 b o c1 hl h1 h2 h3)
  have HS := Aside0.mk (fun (w1 : World) (B g : Nat) (h : HdrAt B w1 g (pTop s)) (hB : B ≤ w1.heap.size) => hstr_any w1 g B (pTop s) key h hB hf)
  obtain ⟨r, hr⟩ : ∃ r, r = strT (pTop s) key := ⟨_, rfl⟩
  rw [← hr] at HS ⊢
  obtain ⟨t, ht⟩ : ∃ t, t = pTop s := ⟨_, rfl⟩
  rw [← ht] at HH HS
  obtain ⟨k, hk⟩ : ∃ k, k = bStr key := ⟨_, rfl⟩
  rw [← hk] at HS ⊢
  clear hn hT hf hr ht hk
  go_enter Tryz.func46, Tryz.ntmps46
  go_wp2_with fail
  refine HCl.out.mono ?_
  rintro e w0 ⟨v, rfl, hH⟩
  obtain ⟨b, c1, A1, rfl, hA1, hc1, hC1⟩ := hH.clone
  have HH1 := Aside0.mk (HH.out w0 A1 b 0 c1 hA1 hc1 hC1)
  have HB0 := Aside0.mk hH.below
  clear hH hA1 hc1 hC1
  go_wp2_with fail
  refine HH1.out.mono ?_
  rintro e w1 ⟨g, rfl, hb, hd⟩
  have HS1 := Aside0.mk (HS.out w1 w0.heap.size g hd hb.size)
  have HB := Aside0.mk (HB0.out.trans (hb.mono HB0.out.size))
  clear hb hd
  go_wp2_with fail
  refine HS1.out.mono ?_
  cases r with
  | none =>
    rintro e w2 ⟨⟨T, x, rfl⟩, hb2⟩
    have HB2 := Aside0.mk (hb2.mono HB0.out.size)
    clear hb2
    go_wp2
    go_quiet (fail)
    go_wp2
    go_ret2
    exact ⟨rfl, endB (HB.out.trans HB2.out) _⟩
  | some q =>
    rintro e w2 ⟨he, hb2⟩
    obtain rfl : e = .returned (.tuple #[.string (bStr q), .nilIface]) := he
    have HB2 := Aside0.mk (hb2.mono HB0.out.size)
    obtain ⟨u, hu⟩ : ∃ u, u = bStr q := ⟨_, rfl⟩
    rw [← hu]
    have HU := Aside0.mk hu
    clear hb2 hu
    go_wp2
    go_quiet (fail)
    go_wp2
    go_ret2
    exact ⟨by show _ = Ending.returned (.tuple #[.string (bStr q), _]); rw [← HU.out]; rfl, endB (HB.out.trans HB2.out) _⟩
theorem headCompactInt_any (s key : Bs) (w : World) (n c : Nat) (A : Option Addr) (r : Option Int) (hl : s.length ≤ 200000000) (hT : kB.C w A n (b64 true s)) (hf : FitO (pTop s)) (hr : IntT (tGet (pTop s) key) r) (hE : ErrCell w) :
    Calls Tryz.prog 47 #[.slice A n c, .string (bStr key)] w fun e w' => e = .returned (.tuple #[.int .i64 (r.getD 0), .bool r.isSome]) ∧ Below w.heap.size w w' := by
  have hn : n ≤ 140737488355328 := by rw [← hT.1, b64_len]; unfold encLen; omega
  have hEB : ErrB w.heap.size w := ⟨hE, by obtain ⟨te, pe, h⟩ := hE; exact cell_lt h⟩
  have HCl := Aside0.mk (bcloneH_any w A n c (b64 true s) hn hT)
  have HH := Aside0.mk (fun (wz : World) (A1 : Option Addr) (b o c1 : Nat) h1 h2 h3 => hpc_any s wz A1 b o c1 hl h1 h2 h3)
  have HS := Aside0.mk (fun (w1 : World) (B g : Nat) (h : HdrAt B w1 g (pTop s)) (hB : B ≤ w1.heap.size) (hE1 : ErrB B w1) => hint_any w1 g B (pTop s) key r h hB hf hr hE1)
  have HEr : Aside0 (∀ w1 B, Below w.heap.size w w1 → w.heap.size ≤ B → ErrB B w1) := ⟨fun w1 B hb hB => ⟨(hEB.on hb).is, Nat.lt_of_lt_of_le hEB.lt hB⟩⟩
  obtain ⟨t, ht⟩ : ∃ t, t = pTop s := ⟨_, rfl⟩
  rw [← ht] at HH HS
  obtain ⟨k, hk⟩ : ∃ k, k = bStr key := ⟨_, rfl⟩
  rw [← hk] at HS ⊢
  clear hn hT hf hr ht hk hE hEB
  go_enter Tryz.func47, Tryz.ntmps47
  go_wp2_with fail
  refine HCl.out.mono ?_
  rintro e w0 ⟨v, rfl, hH⟩
  obtain ⟨b, c1, A1, rfl, hA1, hc1, hC1⟩ := hH.clone
  have HH1 := Aside0.mk (HH.out w0 A1 b 0 c1 hA1 hc1 hC1)
  have HB0 := Aside0.mk hH.below
  clear hH hA1 hc1 hC1
  go_wp2_with fail
  refine HH1.out.mono ?_
  rintro e w1 ⟨g, rfl, hb, hd⟩
  have HS1 := Aside0.mk (HS.out w1 w0.heap.size g hd hb.size (HEr.out w1 w0.heap.size (HB0.out.trans (hb.mono HB0.out.size)) HB0.out.size))
  have HB := Aside0.mk (HB0.out.trans (hb.mono HB0.out.size))
  clear hb hd
  go_wp2_with fail
  refine HS1.out.mono ?_
  cases r with
  | none =>
    rintro e w2 ⟨⟨T, x, rfl⟩, hb2⟩
    have HB2 := Aside0.mk (hb2.mono HB0.out.size)
    clear hb2
    go_wp2
    go_quiet (fail)
    go_wp2
    go_ret2
    exact ⟨rfl, endB (HB.out.trans HB2.out) _⟩
  | some q =>
    rintro e w2 ⟨he, hb2⟩
    obtain rfl : e = .returned (.tuple #[.int .i64 q, .nilIface]) := he
    have HB2 := Aside0.mk (hb2.mono HB0.out.size)
    clear hb2
    go_wp2
    go_quiet (fail)
    go_wp2
    go_ret2
    exact ⟨rfl, endB (HB.out.trans HB2.out) _⟩
end Go.Proofs.YtdldblfklalaeaaGreatDoor
