/-
  jwkbb: HeaderParse, headerGet, HeaderHas, HeaderGetString: their contracts (the code is that of jwsbb's; GotH, RetStr, strT, tGet, FitO are those of Rd).
-/
import Derived.Test.YtgldcjmdjhghpaaGreatDoorQj
namespace Go.Proofs.YtgldcjmdjhghpaaGreatDoor
open Go.RowKit Go.Proofs.YtgldcjmdjhghpaaGreatDoorW.PrintWords Go.ChangeShapes Go.WideShapes
set_option linter.unusedVariables false
set_option linter.unusedSimpArgs false
set_option maxRecDepth 100000
/-- A header in memory: the tree that was read, or an error. -/
def KHdrAt (B : Nat) (w : World) (g : Nat) : Option JV → Prop
  | some v => ∃ b o, w.heap[g]? = some (.cells #[.pointer (some ⟨b, o, none⟩), .nilIface] 87) ∧ TreeAt w (fun b o => B ≤ b ∧ b < w.heap.size) b o v
  | none => ∃ k, w.heap[g]? = some (.cells #[.pointer none, errP k] 87)
def khdrV (g : Nat) : Value := .iface 85 (.pointer (some ⟨g, 0, none⟩))
theorem khparse_any (s : Bs) (w : World) (n c : Nat) (A : Option Addr) (hs : s.length ≤ 900000000000) (hT : kB.C w A n s) :
    Calls Tryz.prog 22 #[.slice A n c] w fun e w' => ∃ g, e = .returned (khdrV g) ∧ Below w.heap.size w w' ∧ KHdrAt w.heap.size w' g (pTop s) := by
  obtain ⟨W, hW⟩ : ∃ W, W = w.alloc (.cells #[.slice none 0 0, .slice none 0 0] 83) := ⟨_, rfl⟩
  have hat : W.heap[w.heap.size]? = some (.cells #[.slice none 0 0, .slice none 0 0] 83) := by rw [hW]; exact blk_new w _
  have hc : Cache W w.heap.size none 0 0 := ⟨⟨_, hat⟩, by rw [cell_of hat]; rfl, frozen_of hat _, Nat.le_refl _, Nat.zero_le _, fun _ => ⟨rfl, rfl⟩, fun g e => by cases e⟩
  have hb : Below w.heap.size w W := by rw [hW]; exact (Below.refl _ _).alloc (Nat.le_refl _) _
  have HP := Aside0.mk (parseBytes_any s W w.heap.size n c A hs hc (by rw [cell_of hat]; rfl) (frozen_of hat _) (Kd.C_below hT hb))
  have HS : Aside0 (w.heap.size < W.heap.size) := ⟨(Array.getElem?_eq_some_iff.1 hat).1⟩
  obtain ⟨res, hres⟩ : ∃ res, res = pTop s := ⟨_, rfl⟩
  rw [← hres] at HP ⊢
  have HB0 := Aside0.mk hb
  have HW := Aside0.mk hW
  clear hc hat hb hT hs hres hW
  go_enter Tryz.func22, Tryz.ntmps22
  go_wp2_with fail
  rw [← HW.out]
  refine HP.out.mono ?_
  cases res with
  | none =>
    rintro e w2 ⟨hU, g, rfl⟩
    unfold errP
    have HU := Aside0.mk (HB0.out.trans (hU.below w.heap.size (Nat.le_of_lt HS.out) (fun b o hb hh => by omega)))
    clear hU
    go_wp2
    go_ret
    exact ⟨_, rfl, HU.out.alloc HU.out.size _, _, blk_new w2 _⟩
  | some v =>
    rintro e w2 ⟨hU, b, o, rfl, hT⟩
    have HU := Aside0.mk (HB0.out.trans (hU.below w.heap.size (Nat.le_of_lt HS.out) (fun b o hb hh => by omega)))
    have HT := Aside0.mk hT
    clear hU hT
    go_wp2
    go_ret
    refine ⟨_, rfl, HU.out.alloc HU.out.size _, b, o, blk_new w2 _, ?_⟩
    exact (HT.out.mono (S' := fun b o => w.heap.size ≤ b ∧ b < w2.heap.size) (fun b o hh => ⟨by have := HS.out; omega, hh.2⟩) (fun _ _ _ => rfl) (fun _ _ _ _ h => h)).on ((Below.refl w2.heap.size w2).alloc (Nat.le_refl _) _)
theorem khget_err (w : World) (g k : Nat) (key : ByteArray) (hat : w.heap[g]? = some (.cells #[.pointer none, errP k] 87)) :
    Calls Tryz.prog 34 #[khdrV g, .string key] w fun e w' => e = .returned (.tuple #[.pointer none, errP k]) ∧ Below w.heap.size w w' := by
  have ht := fun (v : Value) (xT : TypeId) (w : World) => ta_one (P := Tryz.prog) Tryz.underlying85 (by simp) v xT w
  have h0 : w.cell? ⟨g, 0, none⟩ = some (.pointer none) := by rw [cell_of hat]; rfl
  have h1 : w.cell? ⟨g, 1, none⟩ = some (.iface 116 (.pointer (some ⟨k, 0, none⟩))) := by rw [cell_of hat]; rfl
  clear hat
  unfold khdrV errP
  go_enter Tryz.func34, Tryz.ntmps34
  go_wp2
  go_quiet (fail)
  go_wp2
  go_ret2
  exact ⟨rfl, ((Hold.start w).drewN _).below⟩
theorem khhas_err (w : World) (g k : Nat) (key : ByteArray) (hat : w.heap[g]? = some (.cells #[.pointer none, errP k] 87)) :
    Calls Tryz.prog 24 #[khdrV g, .string key] w fun e w' => e = .returned (.bool false) ∧ Below w.heap.size w w' := by
  have HG := Aside0.mk (khget_err w g k key hat)
  clear hat
  go_enter Tryz.func24, Tryz.ntmps24
  go_wp2_with fail
  refine HG.out.mono ?_
  rintro e w1 ⟨rfl, hb⟩
  have HB := Aside0.mk hb
  clear hb
  unfold errP
  go_wp2
  go_ret
  exact ⟨rfl, HB.out⟩
theorem khstr_err (w : World) (g k : Nat) (key : ByteArray) (hat : w.heap[g]? = some (.cells #[.pointer none, errP k] 87)) :
    Calls Tryz.prog 21 #[khdrV g, .string key] w fun e w' => e = .returned (.tuple #[.string ByteArray.empty, errP k]) ∧ Below w.heap.size w w' := by
  have HG := Aside0.mk (khget_err w g k key hat)
  clear hat
  go_enter Tryz.func21, Tryz.ntmps21
  go_wp2_with fail
  refine HG.out.mono ?_
  rintro e w1 ⟨rfl, hb⟩
  have HB := Aside0.mk hb
  clear hb
  unfold errP
  go_wp2
  go_ret2
  exact ⟨rfl, HB.out⟩
/-- What a header gives for a name. -/
def KGot (B : Nat) (w' : World) (r : Option JV) (e : Ending) : Prop :=
  match r with
  | some v => ∃ b o, e = .returned (.tuple #[.pointer (some ⟨b, o, none⟩), .nilIface]) ∧ Leaf w' B b o v
  | none => ∃ x, e = .returned (.tuple #[.pointer none, .iface 108 x])
theorem khget_tree (w : World) (g B : Nat) (kvs : List (Bs × JV)) (key : Bs) (hH : KHdrAt B w g (some (.obj kvs))) (hB : B ≤ w.heap.size) (hk : KeyFit (kvs.map (·.1))) :
    Calls Tryz.prog 34 #[khdrV g, .string (bStr key)] w fun e w' => KGot B w' (oGet kvs key) e ∧ Below B w w' := by
  obtain ⟨b, o, hat, hT⟩ := hH
  obtain ⟨al, h4, A, c, ps, hV, hS, hSg, hks⟩ := hT.kvs
  have hblt := hS.2
  obtain ⟨t, ht⟩ : ∃ t, t = bStr key := ⟨_, rfl⟩
  have hb0 : Below w.heap.size w (w.alloc (.cells #[.string t] 9)) := (Below.refl _ _).alloc (Nat.le_refl _) _
  have HV := Aside0.mk (vget_any (w.alloc (.cells #[.string t] 9)) b o kvs.length c w.heap.size A (kvs.map (·.1)) ps key (hV.on hb0) hk ((hb0.cell (p := ⟨b, o + 4, none⟩) hblt).trans h4) (by rw [← ht, World.cell?_alloc_new]; rfl))
  have HEnd : Aside0 (∀ e w', Found (oIdx (kvs.map (·.1)) key) ps e → Upd (w.alloc (.cells #[.string t] 9)) w' (KeyC A kvs.length b o) → Below B w w' ∧ ((oGet kvs key = none ∧ e = .returned (.pointer none)) ∨ ∃ b' o' v, oGet kvs key = some v ∧ e = .returned (.pointer (some ⟨b', o', none⟩)) ∧ Leaf w' B b' o' v)) := ⟨fun e w' hF hU => by
    have hU2 : Upd w w' (KeyC A kvs.length b o) := (Upd.of_below hb0 (fun _ _ => False)).trans hU (fun _ _ _ h => h.elim) (fun _ _ _ h => h)
    refine ⟨hU2.below B hB (fun b' o' hb' hh => ?_), ?_⟩
    · rcases hh with ⟨hn, hA, _⟩ | ⟨rfl, _⟩
      · have := (hSg b' hn hA).1
        omega
      · have := hS.1
        omega
    · rcases found_cases hV.pl hF with h | ⟨i, q, p, h1, h2, h3, h5⟩
      · exact .inl h
      · exact .inr ⟨q.1, q.2, p.2, h1, h5, (hks i q p h2 h3).leaf (fun b o h => h.1) (Calm.key al hV hU2)⟩⟩
  have ht1 := fun (v : Value) (xT : TypeId) (w : World) => ta_one (P := Tryz.prog) Tryz.underlying85 (by simp) v xT w
  have h0 : w.cell? ⟨g, 0, none⟩ = some (.pointer (some ⟨b, o, none⟩)) := by rw [cell_of hat]; rfl
  have h1 : w.cell? ⟨g, 1, none⟩ = some .nilIface := by rw [cell_of hat]; rfl
  obtain ⟨r, hr⟩ : ∃ r, r = oGet kvs key := ⟨_, rfl⟩
  rw [← hr] at HEnd ⊢
  rw [← ht]
  clear hat hT hV hS hSg hks hk ht hb0 hr h4
  unfold khdrV
  go_enter Tryz.func34, Tryz.ntmps34
  go_wp2_with fail
  refine HV.out.mono ?_
  rintro e w1 ⟨hF, hU⟩
  obtain ⟨hb, hc⟩ := HEnd.out e w1 hF hU
  have HB := Aside0.mk hb
  clear hF hU hb
  rcases hc with ⟨rfl, rfl⟩ | ⟨b', o', v, rfl, rfl, hL⟩
  · go_wp2
    go_ret2
    exact ⟨⟨_, rfl⟩, HB.out⟩
  · have HL := Aside0.mk hL
    clear hL
    go_wp2
    go_ret2
    exact ⟨⟨b', o', rfl, HL.out⟩, HB.out⟩
theorem khget_any (w : World) (g B : Nat) (t : Option JV) (key : Bs) (hH : KHdrAt B w g t) (hB : B ≤ w.heap.size) (hf : FitO t) :
    Calls Tryz.prog 34 #[khdrV g, .string (bStr key)] w fun e w' => GotH B w' (tGet t key) e ∧ Below B w w' := by
  cases t with
  | none =>
    obtain ⟨k, hat⟩ := hH
    refine (khget_err w g k (bStr key) hat).mono ?_
    rintro e w' ⟨rfl, hb⟩
    exact ⟨⟨_, _, rfl⟩, hb.mono hB⟩
  | some v =>
    obtain ⟨kvs, rfl, hk, hv⟩ := hf v rfl
    refine (khget_tree w g B kvs key hH hB hk).mono ?_
    rintro e w' ⟨hG, hb⟩
    refine ⟨?_, hb⟩
    show GotH B w' (oGet kvs key) e
    cases hr : oGet kvs key with
    | none =>
      rw [hr] at hG
      obtain ⟨x, rfl⟩ := hG
      exact ⟨_, x, rfl⟩
    | some v =>
      rw [hr] at hG
      obtain ⟨b, o, rfl, hL⟩ := hG
      obtain ⟨p, hp, rfl⟩ := oGet_mem hr
      exact ⟨b, o, rfl, hL, hv p hp⟩
theorem khhas_any (w : World) (g B : Nat) (t : Option JV) (key : Bs) (hH : KHdrAt B w g t) (hB : B ≤ w.heap.size) (hf : FitO t) :
    Calls Tryz.prog 24 #[khdrV g, .string (bStr key)] w fun e w' => e = .returned (.bool (tGet t key).isSome) ∧ Below B w w' := by
  have HG := Aside0.mk (khget_any w g B t key hH hB hf)
  obtain ⟨r, hr⟩ : ∃ r, r = tGet t key := ⟨_, rfl⟩
  rw [← hr] at HG ⊢
  obtain ⟨k, hk⟩ : ∃ k, k = bStr key := ⟨_, rfl⟩
  rw [← hk] at HG ⊢
  clear hH hf hr hk hB
  go_enter Tryz.func24, Tryz.ntmps24
  go_wp2_with fail
  refine HG.out.mono ?_
  cases r with
  | none =>
    rintro e w1 ⟨⟨T, x, rfl⟩, hb⟩
    have HB := Aside0.mk hb
    clear hb
    go_wp2
    go_ret
    exact ⟨rfl, HB.out⟩
  | some v =>
    rintro e w1 ⟨⟨b, o, rfl, hL⟩, hb⟩
    have HB := Aside0.mk hb
    clear hb hL
    go_wp2
    go_ret
    exact ⟨rfl, HB.out⟩
set_option maxHeartbeats 1000000 in
theorem khstr_any (w : World) (g B : Nat) (t : Option JV) (key : Bs) (hH : KHdrAt B w g t) (hB : B ≤ w.heap.size) (hf : FitO t) :
    Calls Tryz.prog 21 #[khdrV g, .string (bStr key)] w fun e w' => RetStr (strT t key) e ∧ Below B w w' := by
  have HG := Aside0.mk (khget_any w g B t key hH hB hf)
  have HSt : Aside0 (∀ r, r = tGet t key → strT t key = match r with | some (.str raw) => some (unesc raw) | _ => none) := ⟨fun r hr => by rw [hr]; rfl⟩
  obtain ⟨r, hr⟩ : ∃ r, r = tGet t key := ⟨_, rfl⟩
  rw [← hr] at HG
  have HS := Aside0.mk (HSt.out r hr)
  obtain ⟨s, hs⟩ : ∃ s, s = strT t key := ⟨_, rfl⟩
  rw [← hs] at HS ⊢
  obtain ⟨k, hk⟩ : ∃ k, k = bStr key := ⟨_, rfl⟩
  rw [← hk] at HG ⊢
  have HB0 := Aside0.mk hB
  clear hH hf hr hk hB HSt hs
  go_enter Tryz.func21, Tryz.ntmps21
  go_wp2_with fail
  refine HG.out.mono ?_
  cases r with
  | none =>
    rintro e w1 ⟨⟨T, x, rfl⟩, hb⟩
    have HB := Aside0.mk hb
    obtain rfl : s = none := HS.out
    clear hb
    go_wp2
    go_ret2
    exact ⟨⟨_, _, rfl⟩, HB.out⟩
  | some v =>
    rintro e w1 ⟨⟨b, o, rfl, hL, hfv⟩, hb⟩
    rcases strV_cases v with ⟨raw, rfl⟩ | hv
    · obtain rfl : s = some (unesc raw) := HS.out
      cases hL with
      | str hB1 hT al hStr =>
        have hl := unesc_len raw
        have HY := Aside0.mk (vbytes_yes w1 b o raw hT hfv.2 (by have := hfv.2; omega) hfv.1 hStr)
        have HB := Aside0.mk (And.intro hb hB1)
        obtain ⟨q, hq⟩ : ∃ q, q = unesc raw := ⟨_, rfl⟩
        rw [← hq] at HY
        obtain ⟨l, hlq⟩ : ∃ l, l = q.length := ⟨_, rfl⟩
        rw [← hlq] at HY
        have HL := Aside0.mk (And.intro hlq hq)
        clear hb hB1 hT al hStr hfv hq hl hlq HS
        go_wp2_with fail
        refine HY.out.mono ?_
        rintro e w2 ⟨g2, cap, rfl, hBuf, hD, hU⟩
        have hgk := kB_string (P := Tryz.prog) cap Tryz.underlying30 Tryz.underlying5 Tryz.underlying9 hBuf.C
        rw [← HL.out.1] at hgk
        obtain ⟨u, hu⟩ : ∃ u, u = bStr q := ⟨_, rfl⟩
        rw [← hu] at hgk
        have HU := Aside0.mk (And.intro hU hu)
        clear hBuf hD hU hu
        go_wp2
        go_ret2
        refine ⟨by show _ = Ending.returned (.tuple #[.string (bStr (unesc raw)), .nilIface]); rw [← HL.out.2, ← HU.out.2]; rfl, HB.out.1.trans (HU.out.1.below B (Nat.le_trans HB0.out HB.out.1.size) (fun b' o' hb' hh => by have := hh.1; have := HB.out.2; omega))⟩
    · obtain ⟨k4, hk4, h4⟩ := hL.kind hv
      have HN := Aside0.mk (vbytes_no w1 b o k4 hk4 h4)
      obtain rfl : s = none := by
        rw [HS.out]
        cases v with
        | str raw => exact absurd rfl (hv raw)
        | _ => rfl
      have HB := Aside0.mk hb
      clear hb hL hfv hv h4 hk4
      go_wp2_with fail
      refine HN.out.mono ?_
      rintro e w2 ⟨g2, rfl, hb2⟩
      have HB2 := Aside0.mk hb2
      clear hb2
      unfold errP
      go_wp2
      go_ret2
      exact ⟨⟨_, _, rfl⟩, HB.out.trans (HB2.out.mono (Nat.le_trans HB0.out HB.out.size))⟩
end Go.Proofs.YtgldcjmdjhghpaaGreatDoor
