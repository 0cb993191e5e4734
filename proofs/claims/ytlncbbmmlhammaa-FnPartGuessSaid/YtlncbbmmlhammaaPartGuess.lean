/-
  FnPartGuess: its walk. (Under way.)
-/
import Derived.Test.YtlncbbmmlhammaaGuessLaw
import Derived.Test.YtlncbbmmlhammaaShort
namespace Go.Proofs.Ytlncbbmmlhammaa
open Go.RowKit Go.Proofs.YtlncbbmmlhammaaW.PrintWords Go.Lib
set_option linter.unusedVariables false
set_option linter.unusedSimpArgs false
def gTxt (xs : List UInt8) : List UInt8 := [251] ++ xs.take (xs.length / 3 * 3) ++ [255, 255, 255]
def gWant (url padded : Bool) : Int := if padded then (if url then 2 else 1) else (if url then 4 else 3)
theorem gTxt_shape (xs : List UInt8) : ∃ (ys r : List UInt8) (y z : UInt8) (k : Nat), gTxt xs = ys ++ [255] ∧ ys.length = 3 * k ∧ gTxt xs = 251 :: y :: z :: r := by
  unfold gTxt
  have hl : (xs.take (xs.length / 3 * 3)).length = 3 * (xs.length / 3) := by rw [List.length_take]; omega
  generalize xs.take (xs.length / 3 * 3) = m at hl
  refine ⟨[251] ++ m ++ [255, 255], (m ++ [255, 255, 255]).drop 2, (m ++ [255, 255, 255]).getD 0 0, (m ++ [255, 255, 255]).getD 1 0, xs.length / 3 + 1, by simp, by simp; omega, ?_⟩
  match m with
  | [] => rfl
  | [a] => rfl
  | a :: b :: r => rfl
theorem guess_gTxt (url padded : Bool) (xs : List UInt8) : guessOf (b64p url padded (gTxt xs)) = gWant url padded := by
  obtain ⟨ys, r, y, z, k, h1, h2, h3⟩ := gTxt_shape xs
  have hp : hasPad (b64p url padded (gTxt xs)) = padded := by rw [h1]; exact hasPad_end url padded ys k h2
  have hs : hasStd (b64p url padded (gTxt xs)) = !url := by
    cases url
    · rw [h3]; exact hasStd_std padded r y z
    · exact hasStd_url padded _
  unfold guessOf
  rw [hp, hs]
  cases url <;> cases padded <;> rfl
theorem C_take {w : World} {A : Option Addr} {n : Nat} {xs : List UInt8} (h : kB.C w A n xs) (k : Nat) (hk : k ≤ n) : kB.C w A k (xs.take k) := by
  obtain ⟨h1, h2, h3⟩ := h
  refine ⟨by rw [List.length_take]; omega, by omega, fun hn => ?_⟩
  obtain ⟨ad, e, hc⟩ := h3 (by omega)
  refine ⟨ad, e, fun j p hj => ?_⟩
  have hjk : j < k := by
    have := (List.getElem?_eq_some_iff.1 hj).1
    rw [List.length_take] at this
    omega
  rw [List.getElem?_take, if_pos hjk] at hj
  exact hc j p hj
theorem b64p_len (url padded : Bool) : ∀ xs : List UInt8, (b64p url padded xs).length ≤ 2 * xs.length + 4
  | x :: y :: z :: r => by
    have := b64p_len url padded r
    simp only [b64p, List.length_cons]
    omega
  | [x, y] => by cases padded <;> simp [b64p]
  | [x] => by cases padded <;> simp [b64p]
  | [] => by simp [b64p]
theorem b64p_le (url padded : Bool) (xs : List UInt8) (h : xs.length ≤ 400000000) : (b64p url padded xs).length ≤ 1000000000 := by
  have := b64p_len url padded xs
  omega
theorem reps1 {α : Type} {R : α → List Value → Prop} {size : Nat} {x : α} {cs : List Value} (h : R x cs) (hl : cs.length = size) : Reps R size [x] cs := by
  have := (Reps.none R size).snoc h hl
  simpa using this
set_option maxRecDepth 100000 in
set_option maxHeartbeats 4000000 in
theorem partGuess_any (w : World) (A : Option Addr) (n c : Nat) (xs : List UInt8) (form : UInt8) (hnc : n ≤ c) (hC : kB.C w A n xs) :
    Calls Try.prog 5 #[.slice A n c, .int .u8 (form.toNat : Int)] w fun e w' => e = .returned (.bool true) ∧ Below w.heap.size w w' := by
  obtain rfl := hC.1
  have hx : xs.length ≤ 9223372036854775807 := hC.2.1
  have HC := Aside0.mk hC
  by_cases hl : 2147483647 < xs.length
  · clear hC
    go_enter Try.func5, Try.ntmps5
    go_wp2
    go_ret
    exact ⟨rfl, Below.refl _ _⟩
  · have hl' : xs.length ≤ 2147483647 := by omega
    have hCS := CS_lit w 22 _ rfl [.slice A xs.length c] [xs] rfl (by simp) (fun j hj => by
      obtain rfl : j = 0 := by simp at hj; omega
      exact RdS.mk' hC hnc)
    have HCS := Aside0.mk hCS
    have H1 := Aside0.mk ((Hold.start w).alloc_ (.cells #[.slice A xs.length c] 22))
    clear hC hCS
    go_enter Try.func5, Try.ntmps5
    go_wp2_with fail
    refine (short_any _ _ _ _ [xs] HCS.out).mono ?_
    rintro e w1 ⟨rfl, rfl⟩
    cases hb : shortOk [xs] with
    | false =>
      clear hb
      go_wp2_with fail
      refine (partAwake_any _).mono ?_
      rintro e w2 ⟨rfl, hM⟩
      have HZ := Aside0.mk (H1.out.of_below hM.below)
      clear hM
      go_wp2
      go_ret
      exact ⟨rfl, HZ.out.below⟩
    | true =>
      have hlen : xs.length ≤ 2000 := by
        unfold shortOk at hb
        simpa using hb
      clear hb
      have HA : Aside0 (Hold w w.heap.size ((w.alloc (.cells #[.slice A xs.length c] 22)).alloc (.cells #[.int .u8 251] 5)) [.row kB 5 (.slice (some ⟨w.heap.size + 1, 0, none⟩) 1 1) [251]]) := ⟨by
        have h := H1.out.alloc (.cells #[.int .u8 251] 5)
        rw [show (w.alloc (.cells #[.slice A xs.length c] 22)).heap.size = w.heap.size + 1 by simp] at h
        exact h.toRow 0 (d := kB) (n := 1) (c := 1) (xs := [251]) rfl (reps1 rfl rfl) rfl (Nat.le_refl _) (by decide) rfl⟩
      have HCm := Aside0.mk (C_take (HA.out.C HC.out) (xs.length / 3 * 3) (by omega))
      have Hl1 : Aside0 ((([251] : List UInt8).length + xs.length / 3 * 3) * 1 ≤ 140737488355328) := ⟨by simp; omega⟩
      have Hl2 : Aside0 ((([251] ++ xs.take (xs.length / 3 * 3) : List UInt8).length + 3) * 1 ≤ 140737488355328) := ⟨by simp; omega⟩
      cases hu : (bits .and .u8 (form.toNat : Int) 1 == 1) <;> cases hp : (bits .and .u8 (form.toNat : Int) 2 == 2)
      · go_upto_region 7 with (first
          | ((with_reducible refine at_bi (b := .append) (xs := #[.tmp 16, .tmp 22]) rfl ?_); at_builtin; refine Hold.appendRow 0 HA.out rfl rfl (.tmp 16) (.tmp 22) 22 (.int .u8 0) 1 rfl Try.underlying22 info5 rfl (by omega) (A) (xs.length / 3 * 3) (c) rfl rfl (HCm.out) Hl1.out ?_; intro _ _ HB'; have HB := Aside0.mk HB'; clear HB' HA)
          | ((with_reducible refine at_bi (b := .append) (xs := #[.tmp 23, .tmp 24]) rfl ?_); at_builtin; have HB2 := Aside0.mk (HB.out.alloc_ (.cells #[.int .u8 255, .int .u8 255, .int .u8 255] 5)); refine Hold.appendRow 0 HB2.out rfl rfl (.tmp 23) (.tmp 24) 22 (.int .u8 0) 1 rfl Try.underlying22 info5 rfl (by omega) (some ⟨_, 0, none⟩) 3 3 rfl rfl (C1_lit (enc := bV) (h1 := fun _ => rfl) _ 5 _ rfl [255, 255, 255] (by decide)) Hl2.out ?_; intro _ _ HD'; have HD := Aside0.mk HD'; clear HD' HB HB2))
        have HD2 : Hold w w.heap.size _ [.row kB 5 _ (gTxt xs)] := HD.out
        obtain ⟨A2, c2, rfl, hc2, hC2⟩ := HD2.reads 0 rfl
        have HE := Aside0.mk HD2
        have HC2 := Aside0.mk hC2
        have hgl : (gTxt xs).length ≤ 400000000 := by unfold gTxt; simp; omega
        have HG := Aside0.mk (guess_gTxt false false xs)
        clear HD HD2 hC2
        go_wp2_with fail
        refine (partEnc_any _ false false A2 _ c2 (gTxt xs) (Nat.le_trans hgl (by decide)) hc2 HC2.out).mono ?_
        rintro e w3 ⟨v3, rfl, hH⟩
        obtain ⟨A3, c3, rfl, hc3, hC3⟩ := hH.reads 0 rfl
        have H3 := Aside0.mk ((HE.out.app hH).pick [] (by decide) (L' := []) rfl)
        have HC3 := Aside0.mk hC3
        have hbl : (b64p false false (gTxt xs)).length ≤ 1000000000 := b64p_le _ _ _ hgl
        clear hH hC3
        go_wp2_with fail
        refine (guessed_any _ A3 _ c3 _ hbl HC3.out).mono ?_
        rw [HG.out]
        rintro e w4 ⟨rfl, hM⟩
        have H4 := Aside0.mk (H3.out.of_below hM.below)
        have hgw : gWant false false = 3 := rfl
        rw [hgw]
        clear hM hgw
        go_wp2_with fail
        refine (partAwake_any _).mono ?_
        rintro e w5 ⟨rfl, hM⟩
        have HZ := Aside0.mk (H4.out.of_below hM.below)
        clear hM
        go_wp2
        go_ret
        exact ⟨rfl, HZ.out.below⟩
      · go_upto_region 7 with (first
          | ((with_reducible refine at_bi (b := .append) (xs := #[.tmp 16, .tmp 22]) rfl ?_); at_builtin; refine Hold.appendRow 0 HA.out rfl rfl (.tmp 16) (.tmp 22) 22 (.int .u8 0) 1 rfl Try.underlying22 info5 rfl (by omega) (A) (xs.length / 3 * 3) (c) rfl rfl (HCm.out) Hl1.out ?_; intro _ _ HB'; have HB := Aside0.mk HB'; clear HB' HA)
          | ((with_reducible refine at_bi (b := .append) (xs := #[.tmp 23, .tmp 24]) rfl ?_); at_builtin; have HB2 := Aside0.mk (HB.out.alloc_ (.cells #[.int .u8 255, .int .u8 255, .int .u8 255] 5)); refine Hold.appendRow 0 HB2.out rfl rfl (.tmp 23) (.tmp 24) 22 (.int .u8 0) 1 rfl Try.underlying22 info5 rfl (by omega) (some ⟨_, 0, none⟩) 3 3 rfl rfl (C1_lit (enc := bV) (h1 := fun _ => rfl) _ 5 _ rfl [255, 255, 255] (by decide)) Hl2.out ?_; intro _ _ HD'; have HD := Aside0.mk HD'; clear HD' HB HB2))
        have HD2 : Hold w w.heap.size _ [.row kB 5 _ (gTxt xs)] := HD.out
        obtain ⟨A2, c2, rfl, hc2, hC2⟩ := HD2.reads 0 rfl
        have HE := Aside0.mk HD2
        have HC2 := Aside0.mk hC2
        have hgl : (gTxt xs).length ≤ 400000000 := by unfold gTxt; simp; omega
        have HG := Aside0.mk (guess_gTxt false true xs)
        clear HD HD2 hC2
        go_wp2_with fail
        refine (partEnc_any _ false true A2 _ c2 (gTxt xs) (Nat.le_trans hgl (by decide)) hc2 HC2.out).mono ?_
        rintro e w3 ⟨v3, rfl, hH⟩
        obtain ⟨A3, c3, rfl, hc3, hC3⟩ := hH.reads 0 rfl
        have H3 := Aside0.mk ((HE.out.app hH).pick [] (by decide) (L' := []) rfl)
        have HC3 := Aside0.mk hC3
        have hbl : (b64p false true (gTxt xs)).length ≤ 1000000000 := b64p_le _ _ _ hgl
        clear hH hC3
        go_wp2_with fail
        refine (guessed_any _ A3 _ c3 _ hbl HC3.out).mono ?_
        rw [HG.out]
        rintro e w4 ⟨rfl, hM⟩
        have H4 := Aside0.mk (H3.out.of_below hM.below)
        have hgw : gWant false true = 1 := rfl
        rw [hgw]
        clear hM hgw
        go_wp2_with fail
        refine (partAwake_any _).mono ?_
        rintro e w5 ⟨rfl, hM⟩
        have HZ := Aside0.mk (H4.out.of_below hM.below)
        clear hM
        go_wp2
        go_ret
        exact ⟨rfl, HZ.out.below⟩
      · go_upto_region 7 with (first
          | ((with_reducible refine at_bi (b := .append) (xs := #[.tmp 16, .tmp 22]) rfl ?_); at_builtin; refine Hold.appendRow 0 HA.out rfl rfl (.tmp 16) (.tmp 22) 22 (.int .u8 0) 1 rfl Try.underlying22 info5 rfl (by omega) (A) (xs.length / 3 * 3) (c) rfl rfl (HCm.out) Hl1.out ?_; intro _ _ HB'; have HB := Aside0.mk HB'; clear HB' HA)
          | ((with_reducible refine at_bi (b := .append) (xs := #[.tmp 23, .tmp 24]) rfl ?_); at_builtin; have HB2 := Aside0.mk (HB.out.alloc_ (.cells #[.int .u8 255, .int .u8 255, .int .u8 255] 5)); refine Hold.appendRow 0 HB2.out rfl rfl (.tmp 23) (.tmp 24) 22 (.int .u8 0) 1 rfl Try.underlying22 info5 rfl (by omega) (some ⟨_, 0, none⟩) 3 3 rfl rfl (C1_lit (enc := bV) (h1 := fun _ => rfl) _ 5 _ rfl [255, 255, 255] (by decide)) Hl2.out ?_; intro _ _ HD'; have HD := Aside0.mk HD'; clear HD' HB HB2))
        have HD2 : Hold w w.heap.size _ [.row kB 5 _ (gTxt xs)] := HD.out
        obtain ⟨A2, c2, rfl, hc2, hC2⟩ := HD2.reads 0 rfl
        have HE := Aside0.mk HD2
        have HC2 := Aside0.mk hC2
        have hgl : (gTxt xs).length ≤ 400000000 := by unfold gTxt; simp; omega
        have HG := Aside0.mk (guess_gTxt true false xs)
        clear HD HD2 hC2
        go_wp2_with fail
        refine (partEnc_any _ true false A2 _ c2 (gTxt xs) (Nat.le_trans hgl (by decide)) hc2 HC2.out).mono ?_
        rintro e w3 ⟨v3, rfl, hH⟩
        obtain ⟨A3, c3, rfl, hc3, hC3⟩ := hH.reads 0 rfl
        have H3 := Aside0.mk ((HE.out.app hH).pick [] (by decide) (L' := []) rfl)
        have HC3 := Aside0.mk hC3
        have hbl : (b64p true false (gTxt xs)).length ≤ 1000000000 := b64p_le _ _ _ hgl
        clear hH hC3
        go_wp2_with fail
        refine (guessed_any _ A3 _ c3 _ hbl HC3.out).mono ?_
        rw [HG.out]
        rintro e w4 ⟨rfl, hM⟩
        have H4 := Aside0.mk (H3.out.of_below hM.below)
        have hgw : gWant true false = 4 := rfl
        rw [hgw]
        clear hM hgw
        go_wp2_with fail
        refine (partAwake_any _).mono ?_
        rintro e w5 ⟨rfl, hM⟩
        have HZ := Aside0.mk (H4.out.of_below hM.below)
        clear hM
        go_wp2
        go_ret
        exact ⟨rfl, HZ.out.below⟩
      · go_upto_region 7 with (first
          | ((with_reducible refine at_bi (b := .append) (xs := #[.tmp 16, .tmp 22]) rfl ?_); at_builtin; refine Hold.appendRow 0 HA.out rfl rfl (.tmp 16) (.tmp 22) 22 (.int .u8 0) 1 rfl Try.underlying22 info5 rfl (by omega) (A) (xs.length / 3 * 3) (c) rfl rfl (HCm.out) Hl1.out ?_; intro _ _ HB'; have HB := Aside0.mk HB'; clear HB' HA)
          | ((with_reducible refine at_bi (b := .append) (xs := #[.tmp 23, .tmp 24]) rfl ?_); at_builtin; have HB2 := Aside0.mk (HB.out.alloc_ (.cells #[.int .u8 255, .int .u8 255, .int .u8 255] 5)); refine Hold.appendRow 0 HB2.out rfl rfl (.tmp 23) (.tmp 24) 22 (.int .u8 0) 1 rfl Try.underlying22 info5 rfl (by omega) (some ⟨_, 0, none⟩) 3 3 rfl rfl (C1_lit (enc := bV) (h1 := fun _ => rfl) _ 5 _ rfl [255, 255, 255] (by decide)) Hl2.out ?_; intro _ _ HD'; have HD := Aside0.mk HD'; clear HD' HB HB2))
        have HD2 : Hold w w.heap.size _ [.row kB 5 _ (gTxt xs)] := HD.out
        obtain ⟨A2, c2, rfl, hc2, hC2⟩ := HD2.reads 0 rfl
        have HE := Aside0.mk HD2
        have HC2 := Aside0.mk hC2
        have hgl : (gTxt xs).length ≤ 400000000 := by unfold gTxt; simp; omega
        have HG := Aside0.mk (guess_gTxt true true xs)
        clear HD HD2 hC2
        go_wp2_with fail
        refine (partEnc_any _ true true A2 _ c2 (gTxt xs) (Nat.le_trans hgl (by decide)) hc2 HC2.out).mono ?_
        rintro e w3 ⟨v3, rfl, hH⟩
        obtain ⟨A3, c3, rfl, hc3, hC3⟩ := hH.reads 0 rfl
        have H3 := Aside0.mk ((HE.out.app hH).pick [] (by decide) (L' := []) rfl)
        have HC3 := Aside0.mk hC3
        have hbl : (b64p true true (gTxt xs)).length ≤ 1000000000 := b64p_le _ _ _ hgl
        clear hH hC3
        go_wp2_with fail
        refine (guessed_any _ A3 _ c3 _ hbl HC3.out).mono ?_
        rw [HG.out]
        rintro e w4 ⟨rfl, hM⟩
        have H4 := Aside0.mk (H3.out.of_below hM.below)
        have hgw : gWant true true = 2 := rfl
        rw [hgw]
        clear hM hgw
        go_wp2_with fail
        refine (partAwake_any _).mono ?_
        rintro e w5 ⟨rfl, hM⟩
        have HZ := Aside0.mk (H4.out.of_below hM.below)
        clear hM
        go_wp2
        go_ret
        exact ⟨rfl, HZ.out.below⟩
theorem wf_u8 {n : Int} (h : WfI .u8 n) : 0 ≤ n ∧ n < 256 := by
  unfold WfI at h
  simp [Lit.wf, IntKind.min, IntKind.max, IntKind.bits, IntKind.signed] at h
  omega
theorem opens_byte : Opens Try.prog 5 kB AnyOk := Opens.byte Try.underlying5
theorem partGuess_row (A : Option Addr) (n c : Nat) (xs : List UInt8) (k : Int) (w : World) (hC : kB.C w A n xs) (_ : AllOk AnyOk xs) (hn : xs.length * 1 ≤ 140737488351232 ∧ n ≤ c) (hk : (Lit.int .u8 k).wf = true) :
    Calls Try.prog 5 #[.slice A n c, .int .u8 k] w fun e w' => e = .returned (.bool true) ∧ Below w.heap.size w w' := by
  obtain ⟨h0, h1⟩ := wf_u8 hk
  obtain ⟨k, rfl⟩ := Int.eq_ofNat_of_zero_le h0
  have hk : ((UInt8.ofNat k).toNat : Int) = (k : Int) := by rw [UInt8.toNat_ofNat', Nat.mod_eq_of_lt (by omega)]
  have := partGuess_any w A n c xs (UInt8.ofNat k) hn.2 hC
  rwa [hk] at this
end Go.Proofs.Ytlncbbmmlhammaa
