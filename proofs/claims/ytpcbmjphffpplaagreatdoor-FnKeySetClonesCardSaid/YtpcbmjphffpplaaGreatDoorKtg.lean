/-
  FnKeySetClones: its walk. Printed by ktggen.py.
-/
import Derived.Test.YtpcbmjphffpplaaGreatDoorKa6
namespace Go.Proofs.YtpcbmjphffpplaaGreatDoor
open Go.RowKit Go.Proofs.YtpcbmjphffpplaaGreatDoorW.PrintWords
set_option linter.unusedVariables false
set_option linter.unusedSimpArgs false
set_option maxRecDepth 100000
abbrev kI : Kd Nat := Kd.scalar iV iV_one
/-- The first loop: the steps with clones, and their places. -/
structure ClI (w1 : World) (n : Nat) (ss : List KStp) (j : Nat) (v9 v10 : Value) (w : World) : Prop where
  out : ∃ W P, WRel n (ss.take j) W P ∧ W.length ≤ 2 * j ∧ Hold w1 w1.heap.size w [.row kStp 32 v9 W, .row kI 3 v10 P]
theorem ClI.start (w : World) (n : Nat) (ss : List KStp) : ClI w n ss 0 (.slice none 0 0) (.slice none 0 0) w :=
  ⟨⟨[], [], WRel.nil n, Nat.le_refl _, ((Hold.start w).nil kI 3).nil kStp 32⟩⟩
theorem ClI.next {w1 w : World} {n : Nat} {ss W : List KStp} {P : List Nat} {j g : Nat} {v9 v10 : Value} {ob : Obj} (hj : j < ss.length) (h : WRel n (ss.take j) W P) (hx : StpOk n ss[j]) (hl : W.length ≤ 2 * j + 1) (hH : Hold w1 w1.heap.size w [.blk g ob, .row kStp 32 v9 (W ++ [ss[j]]), .row kI 3 v10 (P ++ [W.length])]) : ClI w1 n ss (j + 1) v9 v10 w :=
  ⟨⟨_, _, by rw [List.take_succ_eq_append_getElem hj]; exact h.take hx, by simp; omega, Hold.pickA (M := [_, _, _]) (hH : Hold w1 w1.heap.size w ([_, _, _] ++ [])) [1, 2] (by decide) (by simp) (M' := [_, _]) rfl⟩⟩
theorem ClI.next' {w1 w : World} {n : Nat} {ss W : List KStp} {P : List Nat} {j g m : Nat} {x : KStp} {v9 v10 : Value} {ob : Obj} (hj : j < ss.length) (h : WRel n (ss.take j) W P) (hx : StpOk n ss[j]) (hl : W.length ≤ 2 * j + 1) (ex : ss[j] = x) (em : W.length = m) (hH : Hold w1 w1.heap.size w [.blk g ob, .row kStp 32 v9 (W ++ [x]), .row kI 3 v10 (P ++ [m])]) : ClI w1 n ss (j + 1) v9 v10 w := by
  subst ex em
  exact ClI.next hj h hx hl hH
/-- The second loop: what is kept. -/
structure KpI (w1 : World) (P : List Nat) (rb : List KSn) (i : Nat) (v : Value) (w : World) : Prop where
  out : ∃ T : List Sn, T.length = i ∧ (∀ (k p : Nat), k < i → P[k]? = some p → (T.map Prod.fst)[k]? = rb[p]?) ∧ (∀ x ∈ T, InR w1 x) ∧ Hold w1 w1.heap.size w [.row kSn 37 v T]
theorem KpI.start (w : World) (P : List Nat) (rb : List KSn) : KpI w P rb 0 (.slice none 0 0) w :=
  ⟨⟨[], rfl, fun k p h => absurd h (Nat.not_lt_zero _), fun x hx => (by cases hx), (Hold.start w).nil kSn 37⟩⟩
theorem KpI.next {w1 w : World} {P : List Nat} {rb : List KSn} {T : List Sn} {i p : Nat} {x : Sn} {v : Value} (h1 : T.length = i) (h2 : ∀ (k p : Nat), k < i → P[k]? = some p → (T.map Prod.fst)[k]? = rb[p]?) (h3 : ∀ x ∈ T, InR w1 x) (hp : P[i]? = some p) (hx : rb[p]? = some x.1) (hI : InR w1 x) (hH : Hold w1 w1.heap.size w [.row kSn 37 v (T ++ [x])]) : KpI w1 P rb (i + 1) v w := by
  refine ⟨⟨T ++ [x], by simp [h1], fun k p' hk hp' => ?_, fun y hy => ?_, hH⟩⟩
  · rw [List.map_append]
    by_cases hki : k < i
    · rw [List.getElem?_append_left (by rw [List.length_map]; omega)]
      exact h2 k p' hki hp'
    · obtain rfl : k = i := by omega
      rw [hp] at hp'
      injection hp' with hp'
      subst hp'
      rw [List.getElem?_append_right (by rw [List.length_map]; omega), List.length_map, h1, Nat.sub_self, hx]
      rfl
  · rcases List.mem_append.1 hy with hy | hy
    · exact h3 y hy
    · obtain rfl := List.mem_singleton.1 hy
      exact hI
set_option maxHeartbeats 16000000 in
theorem clones_any (w : World) (A0 A1 : Option Addr) (n0 c0 n1 c1 : Nat) (x0 : List Int) (x1 : List Mv) (e : Nat) (he : e < 256) (h0 : kU.C w A0 n0 x0) (hb0 : ∀ i ∈ x0, 0 ≤ i ∧ i < 256) (h1 : kMv.C w A1 n1 x1) (hb1 : ∀ x ∈ x1, MvOk x) :
    Calls Tryz.prog 3 #[.slice A0 n0 c0, .slice A1 n1 c1, .int .u8 (e : Int)] w fun e w' => e = .returned (.bool true) ∧ Below w.heap.size w w' := by
  have H0 := Aside0.mk h0
  have HB0 := Aside0.mk hb0
  have H1a := Aside0.mk h1
  have HB1 := Aside0.mk hb1
  have hn0 : n0 ≤ 9223372036854775807 := h0.2.1
  have hn1 : n1 ≤ 9223372036854775807 := h1.2.1
  have hu := Tryz.underlying32
  clear h0 hb0 h1 hb1
  by_cases hz : n0 ≤ 2147483647
  · by_cases hz1 : n1 ≤ 2147483647
    · have z0 : ¬ (2147483647 : Int) < (n0 : Int) := by omega
      have z1 : ¬ (2147483647 : Int) < (n1 : Int) := by omega
      go_enter Tryz.func3, Tryz.ntmps3
      go_wp2_with fail
      refine (setFits_any w A0 A1 n0 c0 n1 c1 hn0 hn1).mono ?_
      rintro e' w1 ⟨rfl, rfl⟩
      cases hf : setFits n0 n1 with
      | false =>
        clear hf
        go_wp2_with fail
        refine (keysLive_any w1).mono ?_
        rintro e' w2 ⟨rfl, hb⟩
        have HB := Aside0.mk hb
        clear hb
        go_wp2
        go_ret
        exact ⟨rfl, HB.out⟩
      | true =>
        have hf2 : 0 < n0 ∧ n0 ≤ 20 ∧ n1 ≤ 120 := by simpa [setFits] using hf
        obtain ⟨f1, f2, f3⟩ := hf2
        clear hf hz hz1 z0 z1 hn0 hn1
        go_wp2_with fail
        refine (keyData_any w1 A0 c0 n0 x0 H0.out HB0.out (by omega)).mono ?_
        rintro e' w2 ⟨vk, rfl, hK⟩
        obtain ⟨ks, hkl, hKR, hb2⟩ := kd_reads hK
        have HKR := Aside0.mk hKR
        obtain ⟨Ak, ck, rfl, _, _, _⟩ := hKR.out
        have HB2 := Aside0.mk hb2
        clear hK hKR hb2
        go_wp2_with fail
        refine (setMoves_any w2 A1 c1 n1 n0 x1 (Kd.C_below H1a.out HB2.out) HB1.out (by omega) f1 (by omega)).mono ?_
        rintro e' w3 ⟨vs, rfl, hM⟩
        obtain ⟨ss, hsl, hSR, hb3⟩ := mv_reads hM
        have HSR := Aside0.mk hSR
        obtain ⟨As, cs, rfl, _, hCs⟩ := hSR.out
        have HCs := Aside0.mk hCs
        have HSok := Aside0.mk hSR.ok
        have HB3 := Aside0.mk (HB2.out.trans (hb3.mono HB2.out.size))
        have HKR3 := Aside0.mk (HKR.out.below hb3)
        clear hM hSR hb3 HKR hCs HB2 H0 H1a HB0 HB1
        have HC0 := Aside0.mk (ClI.start w3 n0 ss)
        obtain ⟨q, hq⟩ : ∃ q, e % 4 + 1 = q := ⟨_, rfl⟩
        go_wp2
        go_loopw [9, 10, 39] (fun v9 v10 i wr => ∃ j : Nat, j ≤ n1 ∧ i = .int .i64 j ∧ ClI w3 n0 ss j v9 v10 wr) (fun _ _ i _ => n1 - (intOf i).toNat)
        case atStart => exact ⟨0, Nat.zero_le _, rfl, HC0.out⟩
        case round =>
          obtain ⟨j, hj, rfl, hI⟩ := hrel
          by_cases hlt : j < n1
          · have hjs : j < ss.length := by rw [hsl]; exact hlt
            obtain ⟨W, P, hW, hWl, hH⟩ := hI.out
            obtain ⟨ad, rfl, hcell⟩ := flat_get HCs.out j hjs
            have hb := hH.below
            have HX := Aside0.mk (HSok.out _ (List.getElem_mem hjs))
            have hx : ∃ x, ss[j] = x := ⟨_, rfl⟩
            obtain ⟨x, hx⟩ := hx
            have HXe := Aside0.mk hx
            rw [hx] at hcell
            obtain ⟨kd, ky, at', id, tx⟩ := x
            have he0 := below_cell hb (hcell 0 _ rfl)
            have he1 := below_cell hb (hcell 1 _ rfl)
            have he2 := below_cell hb (hcell 2 _ rfl)
            have he3 := below_cell hb (hcell 3 _ rfl)
            have he4 := below_cell hb (hcell 4 _ rfl)
            have H1 := Aside0.mk (hH.alloc (.cells #[.int .i64 (kd : Int), .int .i64 (ky : Int), .int .i64 at', .string id, .string tx] 32))
            obtain ⟨m1, hm1⟩ : ∃ m1, W.length = m1 := ⟨_, rfl⟩
            have hPl : P.length = j := by rw [hW.ln, List.length_take]; omega
            have HW := Aside0.mk hW
            have hj1 : j + 1 ≤ n1 := hlt
            obtain ⟨Aw, cw, rfl, _⟩ := hH.rowForm 0 rfl m1 hm1
            clear hI hH hb hcell hW hx
            obtain ⟨r4, hr4⟩ : ∃ r4, e % 4 = r4 := ⟨_, rfl⟩
            have t1 : Int.tmod (e : Int) 4 = (r4 : Int) := by rw [Int.tmod_eq_emod_of_nonneg (by omega)]; omega
            have w4 : IntKind.i64.wrap (r4 : Int) = r4 := by rw [IntKind.wrap_i64]; omega
            simp only at he0 he1 he2 he3 he4
            have t2 : Int.tmod (j : Int) (q : Int) = ((j % q : Nat) : Int) := by rw [Int.tmod_eq_emod_of_nonneg (by omega)]; rfl
            have t3 : (r4 : Int) + 1 = (q : Int) := by omega
            have w3' : IntKind.i64.wrap ((r4 : Int) + 1) = q := by rw [IntKind.wrap_i64]; omega
            have t5 : ¬ q = 0 := by omega
            have t4 : ¬ (q : Int) = 0 := by omega
            by_cases hjq : j % q = 0
            · rw [hjq] at t2
              clear hjq
              go_wp2_with (first | ((with_reducible refine at_bi (b := .append) (xs := #[.tmp 51, .tmp 53]) rfl ?_); at_builtin; refine Hold.append1 kStp 1 H1.out rfl rfl (.tmp 51) (.tmp 53) 28 (.agg #[.int .i64 0, .int .i64 0, .int .i64 0, .string ByteArray.empty, .string ByteArray.empty]) 56 rfl Tryz.underlying28 info32 rfl (by decide) (by decide) cloneS [.int .i64 6, .int .i64 0, .int .i64 0, .string ByteArray.empty, .string ByteArray.empty] rfl (by first | rfl | (show Value.slice (some ⟨_, 0, none⟩) 1 1 = _; simp)) rfl (by omega) ?_; intro vH2 wH2 H2'; have H2 := Aside0.mk H2'; clear H2'; obtain ⟨AwH2, cwH2, rfl, _⟩ := H2.out.rowForm 1 rfl (m1 + 1) (by simp [hm1])) | ((with_reducible refine at_bi (b := .append) (xs := #[.tmp 55, .tmp 58]) rfl ?_); at_builtin; refine Hold.append1 kI 2 H2.out rfl rfl (.tmp 55) (.tmp 58) 30 (iV 0) 8 rfl Tryz.underlying30 infoI rfl (by decide) (by decide) (m1 + 1) [.int .i64 ((m1 + 1 : Nat) : Int)] rfl (by first | rfl | (show Value.slice (some ⟨_, 0, none⟩) 1 1 = _; simp)) rfl (by omega) ?_; intro vH3 wH3 H3'; have H3 := Aside0.mk H3'; clear H3'; obtain ⟨b0H3, _⟩ := H3.out.cell 0 rfl 0 (by simp); obtain ⟨b1H3, _⟩ := H3.out.cell 0 rfl 1 (by simp); obtain ⟨b2H3, _⟩ := H3.out.cell 0 rfl 2 (by simp); obtain ⟨b3H3, _⟩ := H3.out.cell 0 rfl 3 (by simp); obtain ⟨b4H3, _⟩ := H3.out.cell 0 rfl 4 (by simp)) | ((with_reducible refine at_bi (b := .append) (xs := #[.tmp 60, .tmp 62]) rfl ?_); at_builtin; refine Hold.append1 kStp 1 H3.out rfl rfl (.tmp 60) (.tmp 62) 28 (.agg #[.int .i64 0, .int .i64 0, .int .i64 0, .string ByteArray.empty, .string ByteArray.empty]) 56 rfl Tryz.underlying28 info32 rfl (by decide) (by decide) (kd, ky, at', id, tx) [.int .i64 (kd : Int), .int .i64 (ky : Int), .int .i64 at', .string id, .string tx] rfl (by first | rfl | (show Value.slice (some ⟨_, 0, none⟩) 1 1 = _; simp)) rfl (by simp [hm1]; omega) ?_; intro vH4 wH4 H4'; have H4 := Aside0.mk H4'; clear H4'))
              go_roundw
              case rel => exact ⟨j + 1, hj1, by go_num, ClI.next' hjs (HW.out.clone f1) HX.out (by simp; omega) HXe.out (by simp [hm1]) H4.out⟩
              case measure => simp [intOf]; omega
            · have t6 : ¬ ((j % q : Nat) : Int) = 0 := by omega
              generalize j % q = jq at *
              clear hjq
              go_wp2_with (first | ((with_reducible refine at_bi (b := .append) (xs := #[.tmp 55, .tmp 58]) rfl ?_); at_builtin; refine Hold.append1 kI 2 H1.out rfl rfl (.tmp 55) (.tmp 58) 30 (iV 0) 8 rfl Tryz.underlying30 infoI rfl (by decide) (by decide) (m1) [.int .i64 ((m1 : Nat) : Int)] rfl (by first | rfl | (show Value.slice (some ⟨_, 0, none⟩) 1 1 = _; simp)) rfl (by omega) ?_; intro vH3 wH3 H3'; have H3 := Aside0.mk H3'; clear H3'; obtain ⟨b0H3, _⟩ := H3.out.cell 0 rfl 0 (by simp); obtain ⟨b1H3, _⟩ := H3.out.cell 0 rfl 1 (by simp); obtain ⟨b2H3, _⟩ := H3.out.cell 0 rfl 2 (by simp); obtain ⟨b3H3, _⟩ := H3.out.cell 0 rfl 3 (by simp); obtain ⟨b4H3, _⟩ := H3.out.cell 0 rfl 4 (by simp)) | ((with_reducible refine at_bi (b := .append) (xs := #[.tmp 60, .tmp 62]) rfl ?_); at_builtin; refine Hold.append1 kStp 1 H3.out rfl rfl (.tmp 60) (.tmp 62) 28 (.agg #[.int .i64 0, .int .i64 0, .int .i64 0, .string ByteArray.empty, .string ByteArray.empty]) 56 rfl Tryz.underlying28 info32 rfl (by decide) (by decide) (kd, ky, at', id, tx) [.int .i64 (kd : Int), .int .i64 (ky : Int), .int .i64 at', .string id, .string tx] rfl (by first | rfl | (show Value.slice (some ⟨_, 0, none⟩) 1 1 = _; simp)) rfl (by simp [hm1]; omega) ?_; intro vH4 wH4 H4'; have H4 := Aside0.mk H4'; clear H4'))
              go_roundw
              case rel => exact ⟨j + 1, hj1, by go_num, ClI.next' hjs HW.out HX.out (by omega) HXe.out hm1 H4.out⟩
              case measure => simp [intOf]; omega
          · obtain rfl : j = n1 := by omega
            obtain ⟨W, P, hW, hWl, hH⟩ := hI.out
            rw [List.take_of_length_le (by omega)] at hW
            obtain ⟨m1, hm1⟩ : ∃ m1, W.length = m1 := ⟨_, rfl⟩
            have hPl : P.length = j := by rw [hW.ln, hsl]
            obtain ⟨Aw, cw, rfl, hlw, hCw⟩ := hH.reads 0 rfl
            obtain ⟨Ap, cp, rfl, hlp, hCp⟩ := hH.reads 1 rfl
            rw [hm1] at hlw hCw
            rw [hPl] at hlp hCp
            have HWR : Aside0 (StR wr n0 m1 (.slice Aw m1 cw) W) := ⟨⟨⟨Aw, cw, rfl, hlw, hCw⟩, hW.ok⟩⟩
            have HW := Aside0.mk hW
            have HKRr := Aside0.mk (HKR3.out.below hH.below)
            have HSRr := Aside0.mk (HSR.out.below hH.below)
            have HCp := Aside0.mk hCp
            have HBr := Aside0.mk (HB3.out.trans (hH.below.mono HB3.out.size))
            rw [hm1] at hWl
            rw [hm1, hPl]
            have hm9 : m1 ≤ 9223372036854775807 := by omega
            clear hI hW hH hCw hCp hlt HB3 HKR3 HSR HC0 HCs HSok
            go_wp2_with fail
            refine (keyRunQ wr n0 j _ _ ks ss HKRr.out (by omega) HSRr.out (by omega)).mono ?_
            rintro e' w5 ⟨v13, rfl, hR1, hb5⟩
            have HR1 := Aside0.mk hR1
            have HB5 := Aside0.mk hb5
            clear hR1 hb5
            go_wp2_with fail
            refine (keyRunQ w5 n0 m1 _ _ ks W (HKRr.out.below HB5.out) (by omega) (HWR.out.below HB5.out) (by omega)).mono ?_
            rintro e' w6 ⟨v14, rfl, hR2, hb6⟩
            have HR2 := Aside0.mk hR2
            obtain ⟨Ab, cb, rfl, hlb, hCb⟩ := hR2.out
            have HCb := Aside0.mk hCb
            have HB6 := Aside0.mk (HB5.out.trans (hb6.mono HB5.out.size))
            have HR1b := Aside0.mk (HR1.out.below hb6)
            have HCp6 := Aside0.mk (Kd.C_below HCp.out HB6.out)
            have HSR6 := Aside0.mk (HSRr.out.below HB6.out)
            have HB7 := Aside0.mk (HBr.out.trans (HB6.out.mono HBr.out.size))
            clear hR2 hb6 hCb HR1 HB5 HCp HSRr HKRr HWR HBr HB6
            obtain ⟨ra, hra⟩ : ∃ ra, runF (kdOf ks) ss ⟨[], []⟩ = ra := ⟨_, rfl⟩
            obtain ⟨rb, hrb⟩ : ∃ rb, runF (kdOf ks) W ⟨[], []⟩ = rb := ⟨_, rfl⟩
            have hrbl : rb.length = m1 := by rw [← hrb, runF_length, hm1]
            have HRa := Aside0.mk (And.intro hra hrb)
            rw [hra] at HR1b
            rw [hrb] at HCb HR2
            have HK0 := Aside0.mk (KpI.start w6 P rb)
            clear hra hrb
            go_wp2
            go_loopw [15, 78] (fun v i wx => ∃ i2 : Nat, i2 ≤ j ∧ i = .int .i64 i2 ∧ KpI w6 P rb i2 v wx) (fun _ i _ => j - (intOf i).toNat)
            case atStart => exact ⟨0, Nat.zero_le _, rfl, HK0.out⟩
            case round =>
              obtain ⟨i2, hi2, rfl, hI⟩ := hrel
              by_cases hlt : i2 < j
              · obtain ⟨T, h1, h2, h3, hH⟩ := hI.out
                obtain ⟨adp, rfl, hep⟩ := C1_get HCp6.out i2 (by rw [hPl]; exact hlt)
                have hPi : P[i2]? = some P[i2] := List.getElem?_eq_getElem _
                obtain ⟨p, hp⟩ : ∃ p, P[i2]'(by rw [hPl]; exact hlt) = p := ⟨_, rfl⟩
                obtain ⟨p', q1, q2, _⟩ := HW.out.at_ (kdOf ks) ⟨[], []⟩ i2 (by rw [hsl]; exact hlt)
                obtain rfl : p' = p := by
                  rw [hPi] at q1
                  injection q1 with q1
                  rw [← q1, hp]
                rw [hp] at hep hPi
                rw [hm1] at q2
                have hep := below_cell hH.below hep
                obtain ⟨adb, rfl, x, hx, hxI, hcell⟩ := rn_get HCb.out p' (by rw [hrbl]; exact q2)
                have HXX : Aside0 (rb[p']? = some x.1) := ⟨by rw [hx]; exact List.getElem?_eq_getElem _⟩
                have HXI := Aside0.mk hxI
                obtain ⟨y, ⟨a4, n4, c4⟩, ⟨a5, n5, c5⟩⟩ := x
                have hb := hH.below
                have he0 := below_cell hb (hcell 0 _ rfl)
                have he1 := below_cell hb (hcell 1 _ rfl)
                have he2 := below_cell hb (hcell 2 _ rfl)
                have he3 := below_cell hb (hcell 3 _ rfl)
                have he4 := below_cell hb (hcell 4 _ rfl)
                have he5 := below_cell hb (hcell 5 _ rfl)
                simp only at he0 he1 he2 he3 he4 he5
                have HK := Aside0.mk hH
                have HT := Aside0.mk (And.intro h1 (And.intro h2 h3))
                have HPi := Aside0.mk hPi
                have hl9 : (T.length + 1) * 80 ≤ 140737488355328 := by omega
                have hi1 : i2 + 1 ≤ j := hlt
                have hp0 : (p' : Int) < (m1 : Int) := by omega
                unfold iV at hep
                clear hI hH hb hcell h1 h2 h3 hx hxI hp q1 hPi
                go_wp2_with (((with_reducible refine at_bi (b := .append) (xs := #[.tmp 82, .tmp 87]) rfl ?_); at_builtin; refine Hold.append1 kSn 0 HK.out rfl rfl (.tmp 82) (.tmp 87) 33 (.agg #[.bool false, .int .i64 0, .int .i64 0, .int .i64 0, .slice none 0 0, .slice none 0 0]) 80 rfl Tryz.underlying33 info37 rfl (by decide) (by decide) (y, (a4, n4, c4), (a5, n5, c5)) [.bool y.ok, .int .i64 y.index, .int .i64 y.found, .int .i64 (y.len : Int), .slice a4 n4 c4, .slice a5 n5 c5] rfl (by first | rfl | (show Value.slice (some ⟨_, 0, none⟩) 1 1 = _; simp)) rfl (by omega) ?_; intro vH9 wH9 H9'; have H9 := Aside0.mk H9'; clear H9'))
                go_roundw
                case rel => exact ⟨i2 + 1, hi1, by go_num, KpI.next HT.out.1 HT.out.2.1 HT.out.2.2 HPi.out HXX.out HXI.out H9.out⟩
                case measure => simp [intOf]; omega
              · obtain rfl : i2 = j := by omega
                obtain ⟨T, h1, h2, h3, hH⟩ := hI.out
                have hkept := HW.out.kept (kdOf ks) ⟨[], []⟩ (T.map Prod.fst) (by rw [List.length_map, h1, hPl]) (fun k p hp => by
                  rw [HRa.out.2]
                  exact h2 k p (by rw [← hPl]; exact (List.getElem?_eq_some_iff.1 hp).1) hp)
                rw [HRa.out.1] at hkept
                have hRk := rn_of T _ 0 hH rfl (fun x hx => (h3 x hx).below hH.below)
                rw [h1, hkept] at hRk
                have HRk := Aside0.mk hRk
                have HRx := Aside0.mk (HR1b.out.below hH.below)
                have HSx := Aside0.mk (HSR6.out.below hH.below)
                have HBx := Aside0.mk (HB7.out.trans (hH.below.mono HB7.out.size))
                clear hI hH h1 h2 h3 hkept hRk hlt HR1b HSR6 HB7 HK0 HCp6 HCb HR2
                go_wp2_with fail
                refine (sameRun_any _ i2 _ _ _ ra n0 ss HRx.out HRk.out HSx.out).mono ?_
                rintro e' w8 ⟨rfl, hb8⟩
                have HB8 := Aside0.mk (HBx.out.trans (hb8.mono HBx.out.size))
                clear hb8
                go_wp2_with fail
                refine (keysLive_any w8).mono ?_
                rintro e' w9 ⟨rfl, hb9⟩
                have HB9 := Aside0.mk (HB8.out.trans (hb9.mono HB8.out.size))
                clear hb9
                go_wp2
                go_ret
                exact ⟨rfl, HB9.out⟩
    · have z0 : ¬ (2147483647 : Int) < (n0 : Int) := by omega
      have z1 : (2147483647 : Int) < (n1 : Int) := by omega
      go_enter Tryz.func3, Tryz.ntmps3
      go_wp2
      go_ret
      exact ⟨rfl, Below.refl _ _⟩
  · have z0 : (2147483647 : Int) < (n0 : Int) := by omega
    go_enter Tryz.func3, Tryz.ntmps3
    go_wp2
    go_ret
    exact ⟨rfl, Below.refl _ _⟩
end Go.Proofs.YtpcbmjphffpplaaGreatDoor
