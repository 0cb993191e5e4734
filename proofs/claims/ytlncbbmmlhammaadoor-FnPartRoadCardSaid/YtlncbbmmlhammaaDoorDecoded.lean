/-
  inner/base64: Decode with the letters of URLs, padded or not; impl.Decoded: their contracts.
-/
import Derived.Test.YtlncbbmmlhammaaDoorDecode
import Derived.Test.YtlncbbmmlhammaaDoorAwake
import Derived.Test.YtlncbbmmlhammaaDoorGrow
namespace Go.Proofs.YtlncbbmmlhammaaDoor
open Go.RowKit Go.Proofs.YtlncbbmmlhammaaDoorW.PrintWords Go.Lib
set_option linter.unusedVariables false
set_option linter.unusedSimpArgs false
theorem decStep_bs {url raw : Bool} {rs bs : List UInt8} {k : Nat} (h : decStep url raw rs = some (bs, k)) : k ≤ rs.length ∧ bs.length + decLen (padOf raw) (rs.length - k) ≤ decLen (padOf raw) rs.length := by
  obtain ⟨h1, h0, h2, h3, h4⟩ := decStep_facts h
  refine ⟨h1, ?_⟩
  rcases Nat.lt_or_ge k rs.length with hl | hl
  · obtain ⟨rfl, e⟩ := h2 hl
    have : rs.length = 4 * 1 + (rs.length - 4) := by omega
    rw [e]
    conv => rhs; rw [this, decLen_le rfl]
    omega
  · have : rs.length - k = 0 := by omega
    rw [this]
    have hz : decLen (padOf raw) 0 = 0 := by cases raw <;> rfl
    omega
theorem decAll_len (url raw : Bool) : ∀ (n : Nat) (rs bs : List UInt8), rs.length ≤ n → decAll url raw rs = some bs → bs.length ≤ decLen (padOf raw) rs.length
  | 0, rs, bs, hn, h => by
    obtain rfl := List.eq_nil_of_length_eq_zero (Nat.le_zero.1 hn)
    simp only [decAll, Option.some.injEq] at h
    subst h
    simp
  | n + 1, rs, bs, hn, h => by
    rcases rs.eq_nil_or_concat with rfl | hne
    · simp only [decAll, Option.some.injEq] at h
      subst h
      simp
    · have hne0 : rs ≠ [] := by
        obtain ⟨a, b, rfl⟩ := hne
        simp
      rw [decAll_step _ _ _ hne0] at h
      cases hs : decStep url raw rs with
      | none => rw [hs] at h; simp at h
      | some q =>
        obtain ⟨b1, k⟩ := q
        rw [hs] at h
        simp only [Option.bind_some, Option.map_eq_some_iff] at h
        obtain ⟨b2, h2, rfl⟩ := h
        obtain ⟨g1, g2⟩ := decStep_bs hs
        have hk := (decStep_facts hs).2.1
        have ih := decAll_len url raw n (rs.drop k) b2 (by rw [List.length_drop]; omega) h2
        rw [List.length_drop] at ih
        rw [List.length_append]
        omega
theorem errNew_any (w : World) (s : ByteArray) :
    Calls Tryd.prog 24 #[.string s] w fun e w' => (∃ t v, e = .returned (.iface t v)) ∧ Hold w w.heap.size w' [] := by
  have hu := Tryd.underlying60
  have H1 := Aside0.mk ((Hold.start w).alloc_ (.cells #[.string s] 60))
  go_enter Tryd.func24, Tryd.ntmps24
  go_wp2
  go_ret
  exact ⟨⟨_, _, rfl⟩, H1.out⟩
/-- What is read, or an error. -/
def RPost (w : World) (e : Ending) (w' : World) : Option (List UInt8) → Prop
  | some bs => ∃ v, e = .returned (.tuple #[v, .nilIface]) ∧ Hold w w.heap.size w' [.row kB 5 v bs]
  | none => (∃ t v, e = .returned (.tuple #[.slice none 0 0, .iface t v])) ∧ Hold w w.heap.size w' []
set_option maxRecDepth 100000 in
set_option maxHeartbeats 4000000 in
theorem defDec_any (w : World) (raw : Bool) (A : Option Addr) (b o c : Nat) (ts : List UInt8) (hn : ts.length ≤ 1000000000) (hA : 0 < ts.length → A = some ⟨b, o, none⟩) (hc : ts.length ≤ c) (hC : kB.C w A ts.length ts)
    (hok : ∀ k ∈ ts, okC true raw k = true) (hg : guessOf ts = if raw then 4 else 2) :
    Calls Tryd.prog 58 #[.agg #[], .slice A ts.length c] w fun e w' => RPost w e w' (decAll true raw ts) := by
  obtain ⟨r, hr⟩ : ∃ r, r = decAll true raw ts := ⟨_, rfl⟩
  rw [← hr]
  have HR := Aside0.mk hr
  have HC := Aside0.mk hC
  have HA := Aside0.mk hA
  have HOk := Aside0.mk hok
  have HG := Aside0.mk hg
  have H0 := Aside0.mk ((Hold.start w).alloc (.cells #[] 64))
  have hml : decLen (padOf raw) ts.length ≤ 1000000000 := by unfold decLen; split <;> omega
  clear hC hA hok hg hr
  go_enter Tryd.func58, Tryd.ntmps58
  go_wp2_with fail
  refine (guess_any _ A _ c ts hc (H0.out.C HC.out)).mono ?_
  rw [HG.out]
  rintro e w1 ⟨rfl, hH⟩
  have H1 := Aside0.mk (H0.out.of_below hH.below)
  clear hH H0 HG
  cases raw with
  | false =>
    simp only [if_true, if_false, Bool.false_eq_true]
    go_wp2_with fail
    refine (url_any _).mono ?_
    rintro e w2 ⟨g, rfl, hH⟩
    have H2 := Aside0.mk (H1.out.app hH)
    clear hH H1
    go_wp2_with fail
    refine (decodedLenM_any (L := [.blk w.heap.size (.cells #[] 64)]) _ true _ g ts.length hn H2.out).mono ?_
    rintro e w3 ⟨rfl, rfl⟩
    obtain ⟨m, hm⟩ : ∃ m, m = decLen 61 ts.length := ⟨_, rfl⟩
    have hm' : m = decLen (padOf false) ts.length := hm
    rw [← hm]
    rw [← hm'] at hml
    have HM := Aside0.mk hm'
    have HBl : Aside0 (∀ bs, r = some bs → bs.length ≤ m) := ⟨fun bs h => by rw [hm']; exact decAll_len true false ts.length ts bs (Nat.le_refl _) (by rw [← HR.out]; exact h)⟩
    clear hm hm'
    go_upto_region 13 with ((with_reducible refine at_dst (N := 29) rfl ?_); refine Hold.make (enc := bV) (h1 := fun _ => rfl) H2.out 5 rfl rfl 22 (.tmp 28) (.tmp 28) rfl ((m : Int)) rfl rfl Tryd.underlying22 (0 : UInt8) 1 infoB rfl (by omega) (by omega) (by omega) ?_; intro v_ _ H3'; have H3 := Aside0.mk H3'; clear H3' H2)
    rw [Int.toNat_natCast] at H3
    rcases Nat.eq_zero_or_pos m with h0 | h0
    · subst h0
      have H4 : Hold w w.heap.size _ [.row kB 5 v_ [], .blk g (.cells (encX true 61) 70), .blk w.heap.size (.cells #[] 64)] := H3.out
      obtain ⟨A3, c3, hv, hc3, _⟩ := H4.reads 0 rfl
      have hv' : v_ = .slice A3 0 c3 := hv
      subst hv'
      have HT := Aside0.mk (H4.pick [1, 2, 0] (by decide) (L' := [.blk g (.cells (encX true 61) 70), .blk w.heap.size (.cells #[] 64), .row kB 5 (.slice A3 0 c3) []]) rfl)
      have hne : g ≠ w.heap.size := HT.out.blk_ne 0 1 rfl rfl (by decide)
      clear H4 hv hc3
      go_wp2_with fail
      refine (decode_any (w0 := w) (B := w.heap.size) (L := [.row kB 5 (.slice A3 0 c3) []]) _ true false g w.heap.size b o c 0 c3 64 A A3 ts #[] hn HA.out hc HM.out (fun h => absurd h (by omega)) (by omega) (by decide) hne HT.out (fun w' cs' h => h.C HC.out) HOk.out).mono ?_
      rw [← HR.out]
      cases r with
      | none =>
        rintro e w4 ⟨⟨k, t', v', rfl⟩, cs', hH⟩
        have H5 := Aside0.mk (hH.pick [] (by decide) (L' := []) rfl)
        clear hH
        go_wp2_with fail
        refine (errNew_any _ _).mono ?_
        rintro e w5 ⟨⟨t2, v2, rfl⟩, hH⟩
        have H6 := Aside0.mk (H5.out.app hH)
        clear hH
        go_wp2
        go_ret2
        exact ⟨⟨_, _, rfl⟩, H6.out⟩
      | some bs =>
        have hb0 : bs = [] := List.eq_nil_of_length_eq_zero (Nat.le_zero.1 (HBl.out bs rfl))
        subst hb0
        rintro e w4 ⟨rfl, cs', hW, hH⟩
        have H5 := Aside0.mk (hH.pick [2] (by decide) (L' := [.row kB 5 (.slice A3 0 c3) []]) rfl)
        clear hW hH
        go_wp2
        all_goals
        go_ret2
        exact ⟨_, rfl, H5.out⟩
    · have H4 : Hold w w.heap.size _ [.row kB 5 v_ (List.replicate m 0), .blk g (.cells (encX true 61) 70), .blk w.heap.size (.cells #[] 64)] := H3.out
      obtain ⟨gd, cd, cs, rfl, hmc, hcm, hcs, _, hB⟩ := H4.toBlk 0 rfl (fun e => by have := congrArg List.length e; rw [List.length_replicate] at this; simp at this; omega)
      rw [List.length_replicate] at hmc
      have HB := Aside0.mk ((hB.pick [1, 0] (by decide) (L' := [.blk g (.cells (encX true 61) 70), .blk gd (.cells cs 5)]) rfl))
      have hne : g ≠ gd := HB.out.blk_ne 0 1 rfl rfl (by decide)
      have Hfit : Aside0 (m ≤ cs.size ∧ cs.size = cd ∧ cd ≤ maxLen) := ⟨by omega, hcs, hcm⟩
      clear hB H4 hcs
      rw [List.length_replicate]
      have hcd : cd ≤ 9223372036854775807 := by unfold maxLen at hcm; omega
      clear hcm
      go_wp2_with fail
      refine (decode_any (w0 := w) (B := w.heap.size) (L := []) _ true false g gd b o c m cd 5 A _ ts cs hn HA.out hc HM.out (fun _ => rfl) hmc Hfit.out.1 hne HB.out (fun w' cs' h => h.C HC.out) HOk.out).mono ?_
      rw [← HR.out]
      cases r with
      | none =>
        rintro e w4 ⟨⟨k, t', v', rfl⟩, cs', hH⟩
        have H5 := Aside0.mk (hH.pick [] (by decide) (L' := []) rfl)
        clear hH
        go_wp2_with fail
        refine (errNew_any _ _).mono ?_
        rintro e w5 ⟨⟨t2, v2, rfl⟩, hH⟩
        have H6 := Aside0.mk (H5.out.app hH)
        clear hH
        go_wp2
        go_ret2
        exact ⟨⟨_, _, rfl⟩, H6.out⟩
      | some bs =>
        have hbl := HBl.out bs rfl
        rintro e w4 ⟨rfl, cs', hW, hH⟩
        have h := hH.blkRow (enc := bV) (h1 := fun _ => rfl) 1 rfl (n := bs.length) (cap := cd) (xs := bs) (by rw [hW.size]; exact Hfit.out.2.1) (by omega) Hfit.out.2.2 (by
          have := hW.pre
          simpa using this) rfl
        have HH := Aside0.mk (h.pick [1] (by decide) (L' := [.row kB 5 (.slice (some ⟨gd, 0, none⟩) bs.length cd) bs]) rfl)
        clear hW hH h
        obtain ⟨bl, hbl2⟩ : ∃ bl, bl = bs.length := ⟨_, rfl⟩
        rw [← hbl2] at HH hbl ⊢
        have HBB := Aside0.mk hbl2
        clear hbl2
        go_wp2
        go_ret2
        exact ⟨_, rfl, HH.out⟩
  | true =>
    simp only [if_true, if_false, Bool.false_eq_true]
    go_wp2_with fail
    refine (rawURL_any _).mono ?_
    rintro e w2 ⟨g, rfl, hH⟩
    have H2 := Aside0.mk (H1.out.app hH)
    clear hH H1
    go_wp2_with fail
    refine (decodedLenM_any (L := [.blk w.heap.size (.cells #[] 64)]) _ true _ g ts.length hn H2.out).mono ?_
    rintro e w3 ⟨rfl, rfl⟩
    obtain ⟨m, hm⟩ : ∃ m, m = decLen (-1) ts.length := ⟨_, rfl⟩
    have hm' : m = decLen (padOf true) ts.length := hm
    rw [← hm]
    rw [← hm'] at hml
    have HM := Aside0.mk hm'
    have HBl : Aside0 (∀ bs, r = some bs → bs.length ≤ m) := ⟨fun bs h => by rw [hm']; exact decAll_len true true ts.length ts bs (Nat.le_refl _) (by rw [← HR.out]; exact h)⟩
    clear hm hm'
    go_upto_region 13 with ((with_reducible refine at_dst (N := 29) rfl ?_); refine Hold.make (enc := bV) (h1 := fun _ => rfl) H2.out 5 rfl rfl 22 (.tmp 28) (.tmp 28) rfl ((m : Int)) rfl rfl Tryd.underlying22 (0 : UInt8) 1 infoB rfl (by omega) (by omega) (by omega) ?_; intro v_ _ H3'; have H3 := Aside0.mk H3'; clear H3' H2)
    rw [Int.toNat_natCast] at H3
    rcases Nat.eq_zero_or_pos m with h0 | h0
    · subst h0
      have H4 : Hold w w.heap.size _ [.row kB 5 v_ [], .blk g (.cells (encX true (-1)) 70), .blk w.heap.size (.cells #[] 64)] := H3.out
      obtain ⟨A3, c3, hv, hc3, _⟩ := H4.reads 0 rfl
      have hv' : v_ = .slice A3 0 c3 := hv
      subst hv'
      have HT := Aside0.mk (H4.pick [1, 2, 0] (by decide) (L' := [.blk g (.cells (encX true (-1)) 70), .blk w.heap.size (.cells #[] 64), .row kB 5 (.slice A3 0 c3) []]) rfl)
      have hne : g ≠ w.heap.size := HT.out.blk_ne 0 1 rfl rfl (by decide)
      clear H4 hv hc3
      go_wp2_with fail
      refine (decode_any (w0 := w) (B := w.heap.size) (L := [.row kB 5 (.slice A3 0 c3) []]) _ true true g w.heap.size b o c 0 c3 64 A A3 ts #[] hn HA.out hc HM.out (fun h => absurd h (by omega)) (by omega) (by decide) hne HT.out (fun w' cs' h => h.C HC.out) HOk.out).mono ?_
      rw [← HR.out]
      cases r with
      | none =>
        rintro e w4 ⟨⟨k, t', v', rfl⟩, cs', hH⟩
        have H5 := Aside0.mk (hH.pick [] (by decide) (L' := []) rfl)
        clear hH
        go_wp2_with fail
        refine (errNew_any _ _).mono ?_
        rintro e w5 ⟨⟨t2, v2, rfl⟩, hH⟩
        have H6 := Aside0.mk (H5.out.app hH)
        clear hH
        go_wp2
        go_ret2
        exact ⟨⟨_, _, rfl⟩, H6.out⟩
      | some bs =>
        have hb0 : bs = [] := List.eq_nil_of_length_eq_zero (Nat.le_zero.1 (HBl.out bs rfl))
        subst hb0
        rintro e w4 ⟨rfl, cs', hW, hH⟩
        have H5 := Aside0.mk (hH.pick [2] (by decide) (L' := [.row kB 5 (.slice A3 0 c3) []]) rfl)
        clear hW hH
        go_wp2
        all_goals
        go_ret2
        exact ⟨_, rfl, H5.out⟩
    · have H4 : Hold w w.heap.size _ [.row kB 5 v_ (List.replicate m 0), .blk g (.cells (encX true (-1)) 70), .blk w.heap.size (.cells #[] 64)] := H3.out
      obtain ⟨gd, cd, cs, rfl, hmc, hcm, hcs, _, hB⟩ := H4.toBlk 0 rfl (fun e => by have := congrArg List.length e; rw [List.length_replicate] at this; simp at this; omega)
      rw [List.length_replicate] at hmc
      have HB := Aside0.mk ((hB.pick [1, 0] (by decide) (L' := [.blk g (.cells (encX true (-1)) 70), .blk gd (.cells cs 5)]) rfl))
      have hne : g ≠ gd := HB.out.blk_ne 0 1 rfl rfl (by decide)
      have Hfit : Aside0 (m ≤ cs.size ∧ cs.size = cd ∧ cd ≤ maxLen) := ⟨by omega, hcs, hcm⟩
      clear hB H4 hcs
      rw [List.length_replicate]
      have hcd : cd ≤ 9223372036854775807 := by unfold maxLen at hcm; omega
      clear hcm
      go_wp2_with fail
      refine (decode_any (w0 := w) (B := w.heap.size) (L := []) _ true true g gd b o c m cd 5 A _ ts cs hn HA.out hc HM.out (fun _ => rfl) hmc Hfit.out.1 hne HB.out (fun w' cs' h => h.C HC.out) HOk.out).mono ?_
      rw [← HR.out]
      cases r with
      | none =>
        rintro e w4 ⟨⟨k, t', v', rfl⟩, cs', hH⟩
        have H5 := Aside0.mk (hH.pick [] (by decide) (L' := []) rfl)
        clear hH
        go_wp2_with fail
        refine (errNew_any _ _).mono ?_
        rintro e w5 ⟨⟨t2, v2, rfl⟩, hH⟩
        have H6 := Aside0.mk (H5.out.app hH)
        clear hH
        go_wp2
        go_ret2
        exact ⟨⟨_, _, rfl⟩, H6.out⟩
      | some bs =>
        have hbl := HBl.out bs rfl
        rintro e w4 ⟨rfl, cs', hW, hH⟩
        have h := hH.blkRow (enc := bV) (h1 := fun _ => rfl) 1 rfl (n := bs.length) (cap := cd) (xs := bs) (by rw [hW.size]; exact Hfit.out.2.1) (by omega) Hfit.out.2.2 (by
          have := hW.pre
          simpa using this) rfl
        have HH := Aside0.mk (h.pick [1] (by decide) (L' := [.row kB 5 (.slice (some ⟨gd, 0, none⟩) bs.length cd) bs]) rfl)
        clear hW hH h
        obtain ⟨bl, hbl2⟩ : ∃ bl, bl = bs.length := ⟨_, rfl⟩
        rw [← hbl2] at HH hbl ⊢
        have HBB := Aside0.mk hbl2
        clear hbl2
        go_wp2
        go_ret2
        exact ⟨_, rfl, HH.out⟩
set_option maxHeartbeats 1000000 in
theorem dec64_any (w : World) (raw : Bool) (A : Option Addr) (b o c : Nat) (ts : List UInt8) (hn : ts.length ≤ 1000000000) (hA : 0 < ts.length → A = some ⟨b, o, none⟩) (hc : ts.length ≤ c) (hC : kB.C w A ts.length ts)
    (hok : ∀ k ∈ ts, okC true raw k = true) (hg : guessOf ts = if raw then 4 else 2) :
    Calls Tryd.prog 20 #[.slice A ts.length c] w fun e w' => RPost w e w' (decAll true raw ts) := by
  obtain ⟨r, hr⟩ : ∃ r, r = decAll true raw ts := ⟨_, rfl⟩
  have HD := Aside0.mk (defDec_any w raw A b o c ts hn hA hc hC hok hg)
  rw [← hr] at HD ⊢
  clear hr hok hg hA hC
  go_enter Tryd.func20, Tryd.ntmps20
  go_wp2_with fail
  refine (getDec_any _).mono ?_
  rintro e w1 ⟨rfl, rfl⟩
  go_wp2_with fail
  refine HD.out.mono ?_
  cases r with
  | none =>
    rintro e w2 ⟨⟨t, v, rfl⟩, hH⟩
    have HH := Aside0.mk hH
    clear hH
    go_wp2
    go_ret2
    exact ⟨⟨_, _, rfl⟩, HH.out⟩
  | some bs =>
    rintro e w2 ⟨v, rfl, hH⟩
    have HH := Aside0.mk hH
    clear hH
    go_wp2
    go_ret2
    exact ⟨_, rfl, HH.out⟩
/-- What impl.Decoded gives. -/
def IPost (w : World) (e : Ending) (w' : World) : Option (List UInt8) → Prop
  | some bs => ∃ v, e = .returned (.tuple #[v, .bool true]) ∧ Hold w w.heap.size w' [.row kB 5 v bs]
  | none => e = .returned (.tuple #[.slice none 0 0, .bool false]) ∧ Hold w w.heap.size w' []
set_option maxHeartbeats 1000000 in
theorem decoded_any (w : World) (raw : Bool) (A : Option Addr) (n c : Nat) (ts : List UInt8) (hn : n ≤ 1000000000) (hC : kB.C w A n ts)
    (hok : ∀ k ∈ ts, okC true raw k = true) (hg : guessOf ts = if raw then 4 else 2) :
    Calls Tryd.prog 13 #[.slice A n c] w fun e w' => IPost w e w' (decAll true raw ts) := by
  obtain rfl := hC.1
  obtain ⟨r, hr⟩ : ∃ r, r = decAll true raw ts := ⟨_, rfl⟩
  have HC := Aside0.mk hC
  have HOk := Aside0.mk hok
  have HG := Aside0.mk hg
  rw [← hr]
  have HR := Aside0.mk hr
  clear hC hok hg hr
  go_enter Tryd.func13, Tryd.ntmps13
  go_wp2_with fail
  refine (bclone_any _ A _ c ts (by omega) HC.out).mono ?_
  rintro e w1 ⟨v, rfl, hH⟩
  obtain ⟨b, c1, A1, rfl, hb, hc1, hC1⟩ := hH.clone
  have H1 := Aside0.mk hH
  have HC1 := Aside0.mk hC1
  have HB := Aside0.mk hb
  clear hH hb hC1
  go_wp2_with fail
  refine (dec64_any _ raw A1 b 0 c1 ts hn HB.out hc1 HC1.out HOk.out HG.out).mono ?_
  rw [← HR.out]
  cases r with
  | none =>
    rintro e w2 ⟨⟨t, v, rfl⟩, hH⟩
    have H2 := Aside0.mk ((H1.out.app hH).pick [] (by decide) (L' := []) rfl)
    clear hH
    go_wp2
    go_ret2
    exact ⟨rfl, H2.out⟩
  | some bs =>
    rintro e w2 ⟨v, rfl, hH⟩
    have H2 := Aside0.mk ((H1.out.app hH).pick [0] (by decide) (L' := [.row kB 5 v bs]) rfl)
    clear hH
    go_wp2
    go_ret2
    exact ⟨_, rfl, H2.out⟩
/-- Texts of the letters of URLs. -/
theorem hasStd_ok {ts : List UInt8} {raw : Bool} (h : ∀ k ∈ ts, okC true raw k = true) : hasStd ts = false := by
  unfold hasStd
  rw [List.any_eq_false]
  intro k hk
  rcases ok_cases (h k hk) with hl | ⟨_, rfl⟩
  · have h43 : isL true 43 = false := by decide +kernel
    have h47 : isL true 47 = false := by decide +kernel
    intro e
    rw [Bool.or_eq_true, beq_iff_eq, beq_iff_eq] at e
    rcases e with rfl | rfl
    · rw [h43] at hl; cases hl
    · rw [h47] at hl; cases hl
  · decide
theorem guess_raw {ts : List UInt8} (h : ∀ k ∈ ts, isL true k = true) : (∀ k ∈ ts, okC true true k = true) ∧ guessOf ts = if true then 4 else 2 := by
  have h1 : ∀ k ∈ ts, okC true true k = true := fun k hk => by unfold okC; rw [h k hk]; rfl
  refine ⟨h1, ?_⟩
  have hp : hasPad ts = false := by
    unfold hasPad
    rw [beq_eq_false_iff_ne]
    intro e
    have := List.mem_of_getLast? e
    have h2 := h 61 this
    rw [isL_61] at h2
    cases h2
  unfold guessOf
  rw [hp, hasStd_ok h1]
  rfl
theorem guess_pad {ts : List UInt8} (h : ∀ k ∈ ts, isL true k = true) (m : Nat) (hm : 0 < m) : (∀ k ∈ ts ++ List.replicate m 61, okC true false k = true) ∧ guessOf (ts ++ List.replicate m 61) = if false = true then 4 else 2 := by
  have h1 : ∀ k ∈ ts ++ List.replicate m 61, okC true false k = true := fun k hk => by
    rcases List.mem_append.1 hk with hk | hk
    · unfold okC; rw [h k hk]; rfl
    · rw [(List.mem_replicate.1 hk).2]
      decide +kernel
  refine ⟨h1, ?_⟩
  have hp : hasPad (ts ++ List.replicate m 61) = true := by
    unfold hasPad
    obtain ⟨k, rfl⟩ : ∃ k, m = k + 1 := ⟨m - 1, by omega⟩
    rw [List.replicate_succ', ← List.append_assoc, List.getLast?_concat]
    rfl
  unfold guessOf
  rw [hp, hasStd_ok h1]
  rfl
end Go.Proofs.YtlncbbmmlhammaaDoor
