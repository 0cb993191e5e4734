/-
  FnJoinHeader: its walk.
-/
import Derived.Test.YtdldblfklalaeaaGreatDoorJh
import Derived.Test.YtdldblfklalaeaaGreatDoorSc
import Derived.Test.YtdldblfklalaeaaGreatDoorAwake2
namespace Go.Proofs.YtdldblfklalaeaaGreatDoor
open Go.RowKit Go.Proofs.YtdldblfklalaeaaGreatDoorW.PrintWords Go.ChangeShapes Go.WideShapes
set_option linter.unusedVariables false
set_option linter.unusedSimpArgs false
set_option maxRecDepth 100000
theorem str_row1 (w : World) (s : ByteArray) : Kd.string.C (w.alloc (.cells #[.string s] 9)) (some ⟨w.heap.size, 0, none⟩) 1 [s] := C1_lit w 9 _ rfl [s] (by unfold maxLen; simp)
theorem str_take {w : World} {B : Option Addr} {xs : List ByteArray} (h : Kd.string.C w B xs.length xs) (k : Nat) (hk : k ≤ xs.length) : Kd.string.C w B k (xs.take k) := by
  have := Kd.C_take h hk
  rwa [List.length_take, Nat.min_eq_left hk] at this
theorem Hold.catF {α : Type} {d : Kd α} {w0 w : World} {B : Nat} {L : List Asrt} {e n c : Nat} {A : Option Addr} {xs : List α} (hS : Hold w0 B w L) (i : Nat) (hi : L[i]? = some (.row d e (.slice A n c) xs)) : d.C w A n xs := by
  obtain ⟨A', c', he, _, hC⟩ := hS.reads i hi
  injection he with h1 h2 h3
  subst h1 h2 h3
  exact hC
theorem bStrD (s : ByteArray) : bStr s.data.toList = s := data_ext (bStr_list _)
theorem headStr_in {l : List (ByteArray × ByteArray)} (hJ : Jn l) (T : Bs) (hT : T = jText (l.map bsP)) (hl : T.length ≤ 2000) (w : World) (A : Option Addr) (c : Nat) (hC : kB.C w A T.length T) (p : ByteArray × ByteArray) (hp : p ∈ l) :
    Calls Tryz.prog 13 #[.slice A T.length c, .string p.1] w fun e w' => e = .returned (.tuple #[.string p.2, .bool true]) ∧ Below w.heap.size w w' := by
  have h := headString_any T p.1.data.toList w T.length c A (by omega) (by omega) hC (by rw [hT]; exact jText_fit hJ.safes)
  rw [hT, (hJ.told hp).1, ← hT] at h
  simp only [Option.getD_some, Option.isSome_some, bStrD] at h
  exact h
theorem headStr_out {l : List (ByteArray × ByteArray)} (hJ : Jn l) (T : Bs) (hT : T = jText (l.map bsP)) (hl : T.length ≤ 2000) (w : World) (A : Option Addr) (c : Nat) (hC : kB.C w A T.length T) (s : ByteArray) (hs : ∀ p ∈ l, p.1 ≠ s) :
    Calls Tryz.prog 13 #[.slice A T.length c, .string s] w fun e w' => e = .returned (.tuple #[.string ByteArray.empty, .bool false]) ∧ Below w.heap.size w w' := by
  have h := headString_any T s.data.toList w T.length c A (by omega) (by omega) hC (by rw [hT]; exact jText_fit hJ.safes)
  rw [hT, (hJ.untold hs).1, ← hT] at h
  simp only [Option.getD_none, Option.isSome_none, bStrD] at h
  exact h
theorem headHas_in {l : List (ByteArray × ByteArray)} (hJ : Jn l) (T : Bs) (hT : T = jText (l.map bsP)) (hl : T.length ≤ 2000) (w : World) (A : Option Addr) (c : Nat) (hC : kB.C w A T.length T) (p : ByteArray × ByteArray) (hp : p ∈ l) :
    Calls Tryz.prog 18 #[.slice A T.length c, .string p.1] w fun e w' => e = .returned (.bool true) ∧ Below w.heap.size w w' := by
  have h := headHas_any T p.1.data.toList w T.length c A (by omega) (by omega) hC (by rw [hT]; exact jText_fit hJ.safes)
  rw [hT, (hJ.told hp).2, ← hT, bStrD] at h
  exact h
theorem headHas_out {l : List (ByteArray × ByteArray)} (hJ : Jn l) (T : Bs) (hT : T = jText (l.map bsP)) (hl : T.length ≤ 2000) (w : World) (A : Option Addr) (c : Nat) (hC : kB.C w A T.length T) (s : ByteArray) (hs : ∀ p ∈ l, p.1 ≠ s) :
    Calls Tryz.prog 18 #[.slice A T.length c, .string s] w fun e w' => e = .returned (.bool false) ∧ Below w.heap.size w w' := by
  have h := headHas_any T s.data.toList w T.length c A (by omega) (by omega) hC (by rw [hT]; exact jText_fit hJ.safes)
  rw [hT, (hJ.untold hs).2, ← hT, bStrD] at h
  exact h
/-- What the second loop keeps. -/
structure RngR (w : World) (gm r g2 cap2 c5 : Nat) (A5 : Option Addr) (T : Bs) (l : List (ByteArray × ByteArray)) (wr : World) : Prop where
  out : ∃ left cnt, (∀ kl, left kl = true → Maps.has (mapOf l) kl = true) ∧ Hold w w.heap.size wr [.rng gm r l.length (mapOf l) left cnt, .row kB 5 (.slice A5 T.length c5) T, .buf g2 cap2 T]
/-- What the first loop keeps. -/
structure JnR (w : World) (names : List ByteArray) (gm : Nat) (s7 i : Value) (wr : World) : Prop where
  out : ∃ (k : Nat) (l : List (ByteArray × ByteArray)) (g cap : Nat), k ≤ names.length ∧ l.length ≤ k ∧ i = .int .i64 k ∧ Jn l ∧ s7 = .slice (some ⟨g, 0, none⟩) (preJ l).length cap ∧ Hold w w.heap.size wr [.hm gm l.length (mapOf l), .buf g cap (preJ l)]
set_option maxHeartbeats 8000000 in
theorem joinHeader_law (w : World) (A : Option Addr) (n c : Nat) (names : List ByteArray) (B : Option Addr) (m d : Nat) (values : List ByteArray) (other : ByteArray) (hA : Kd.string.C w A n names) (hB : Kd.string.C w B m values) (hmd : m ≤ d) :
    Calls Tryz.prog 5 #[.slice A n c, .slice B m d, .string other] w fun e w' => e = .returned (.bool true) ∧ Below w.heap.size w w' := by
  obtain rfl := hA.1
  obtain rfl := hB.1
  have hml : values.length ≤ 9223372036854775807 := hB.2.1
  have hnl : names.length ≤ 9223372036854775807 := hA.2.1
  have HA := Aside0.mk (fun (wz : World) (hb : Below w.heap.size w wz) => Kd.C_below hA hb)
  have HB := Aside0.mk (fun (wz : World) (hb : Below w.heap.size w wz) => Kd.C_below hB hb)
  have HAw := Aside0.mk (fun w => partAwake_any w)
  have hb0 := Aside0.mk (Below.refl w.heap.size w)
  clear hA hB
  go_enter Tryz.func5, Tryz.ntmps5
  go_wp2_with fail
  refine (fits2_any w A _ c names (HA.out _ hb0.out)).mono ?_
  rintro e w1 ⟨rfl, rfl⟩
  cases hb : fitsTwo names with
  | false =>
    go_wp2
    go_ret
    exact ⟨rfl, hb0.out⟩
  | true =>
  clear hb
  go_wp2_with fail
  refine (fits2_any _ B _ d values (HB.out _ hb0.out)).mono ?_
  rintro e w1 ⟨rfl, rfl⟩
  cases hb : fitsTwo values with
  | false =>
    go_wp2
    go_ret
    exact ⟨rfl, hb0.out⟩
  | true =>
  clear hb
  by_cases hs : 2147483647 < other.size
  · go_wp2
    go_ret
    exact ⟨rfl, hb0.out⟩
  replace hs : other.size ≤ 2147483647 := by omega
  by_cases h12 : 12 < names.length
  · go_wp2_with fail
    refine (HAw.out _).mono ?_
    rintro e w2 ⟨rfl, h2⟩
    have H2 := Aside0.mk h2.below
    clear h2
    go_wp2
    go_ret
    exact ⟨rfl, H2.out⟩
  replace h12 : names.length ≤ 12 := by omega
  by_cases hvl : values.length < names.length
  · go_wp2_with fail
    refine (HAw.out _).mono ?_
    rintro e w2 ⟨rfl, h2⟩
    have H2 := Aside0.mk h2.below
    clear h2
    go_wp2
    go_ret
    exact ⟨rfl, H2.out⟩
  replace hvl : names.length ≤ values.length := by omega
  go_wp2_with fail
  refine (joinSafe_any _ A _ c names (HA.out _ hb0.out)).mono ?_
  rintro e w1 ⟨⟨b, rfl, hsa⟩, rfl⟩
  have HSn := Aside0.mk hsa
  clear hsa
  cases b with
  | false =>
    go_wp2_with fail
    refine (HAw.out _).mono ?_
    rintro e w2 ⟨rfl, h2⟩
    have H2 := Aside0.mk h2.below
    clear h2
    go_wp2
    go_ret
    exact ⟨rfl, H2.out⟩
  | true =>
  replace HSn := Aside0.mk (HSn.out rfl)
  go_wp2_with fail
  refine (joinSafe_any _ B _ d (values.take names.length) (str_take (HB.out _ hb0.out) _ hvl)).mono ?_
  rintro e w1 ⟨⟨b, rfl, hsa⟩, rfl⟩
  have HSv := Aside0.mk hsa
  clear hsa
  cases b with
  | false =>
    go_wp2_with fail
    refine (HAw.out _).mono ?_
    rintro e w2 ⟨rfl, h2⟩
    have H2 := Aside0.mk h2.below
    clear h2
    go_wp2
    go_ret
    exact ⟨rfl, H2.out⟩
  | true =>
  replace HSv := Aside0.mk (HSv.out rfl)
  have hb1 := Aside0.mk ((Below.refl w.heap.size w).alloc (Nat.le_refl _) (.cells #[.string other] 9))
  go_wp2_with fail
  refine (joinSafe_any _ _ _ 1 [other] (str_row1 _ other)).mono ?_
  rintro e w1 ⟨⟨b, rfl, hsa⟩, rfl⟩
  have HSo := Aside0.mk hsa
  clear hsa
  cases b with
  | false =>
    go_wp2_with fail
    refine (HAw.out _).mono ?_
    rintro e w2 ⟨rfl, h2⟩
    have H2 := Aside0.mk (hb1.out.trans (h2.below.mono hb1.out.size))
    clear h2
    go_wp2
    go_ret
    exact ⟨rfl, H2.out⟩
  | true =>
  replace HSo := Aside0.mk (HSo.out rfl other (by simp))
  obtain ⟨W, hW⟩ : ∃ W, W = w.alloc (.cells #[.string other] 9) := ⟨_, rfl⟩
  rw [← hW] at hb1 ⊢
  clear hW
  have cv : (convert 30 30 (.slice (some ⟨W.heap.size, 0, none⟩) 1 1)).run Tryz.prog (W.alloc (.cells #[.int .u8 123] 5)) = .ok (.slice (some ⟨W.heap.size, 0, none⟩) 1 1) (W.alloc (.cells #[.int .u8 123] 5 (1, 2))) := Lib.run_convert_bytes_const W 30 5 #[.int .u8 123] 1 1 Tryz.underlying30 Tryz.underlying5
  have H0 : Hold w w.heap.size W [] := (Hold.start w).of_below hb1.out
  have H1 := Aside0.mk ((H0.bufNew (lit_buf W [123] 2 (by unfold maxLen; simp)) ((Below.refl W.heap.size W).alloc (Nat.le_refl _) _)).mapMade)
  clear H0
  have hmm := @run_makeMap Tryz.prog
  rw [show (W.alloc (.cells (List.map bV [123]).toArray 5 ([(123 : UInt8)].length, 2))).heap.size = W.heap.size + 1 by simp] at H1
  go_wp2
  clear hmm cv
  have d1 : decide (values.length < names.length) = false := decide_eq_false (by omega)
  have d2 : decide ((12 : Int) < (names.length : Int)) = false := decide_eq_false (by omega)
  have d3 : decide ((2147483647 : Int) < (other.size : Int)) = false := decide_eq_false (by omega)
  simp only [d1, d2, d3, Bool.or_false]
  clear d1 d2 d3
  obtain ⟨gm, hgm⟩ : ∃ g, g = W.heap.size + 1 := ⟨_, rfl⟩
  rw [← hgm] at H1 ⊢
  clear hgm
  go_loopw [7, 73] (fun s7 i wr => JnR w names gm s7 i wr) (fun _ i _ => names.length - (intOf i).toNat)
  case atStart => exact ⟨⟨0, [], W.heap.size, 1, Nat.zero_le _, Nat.le_refl _, rfl, Jn.nil, rfl, H1.out⟩⟩
  case round =>
    obtain ⟨k, l, g, cap, hk, hlk, rfl, hJ, rfl, hR⟩ := hrel.out
    clear hrel
    have HR := Aside0.mk hR
    have HJ := Aside0.mk hJ
    have hz8 : l.length ≤ 12 := by omega
    clear hR hJ H1
    by_cases hlt : k < names.length
    · obtain ⟨a1, rfl, e1⟩ := C1_get (HA.out wr HR.out.below) k hlt
      obtain ⟨a2, rfl, e2⟩ := C1_get (HB.out wr HR.out.below) k (by omega)
      have hsn := HSn.out _ (List.getElem_mem hlt)
      have hsv := HSv.out (values[k]'(by omega)) (by rw [List.mem_take_iff_getElem]; exact ⟨k, by omega, rfl⟩)
      have HS2 := Aside0.mk (And.intro hsn hsv)
      have hnm := safe_size hsn
      have hvm := safe_size hsv
      have hlt2 : k + 1 ≤ names.length := hlt
      have HV : Aside0 (∀ wz, Below w.heap.size w wz → wz.cell? (a2.add k) = some (.string (values[k]'(by omega)))) := ⟨fun wz hb => by
        obtain ⟨a3, he, h3⟩ := C1_get (HB.out wz hb) k (by omega)
        injection he with he
        rw [he]
        exact h3⟩
      clear hsn hsv
      generalize names[k] = nm at *
      generalize values[k]'(by omega) = vl at *
      by_cases hin : ∃ p ∈ l, p.1 = nm
      · obtain ⟨p, hp, rfl⟩ := hin
        have HM := Aside0.mk (mapOf_yes HJ.out.nd hp (.held (.string ByteArray.empty)))
        clear hp
        go_wp2_with (at_lookup; refine Hold.mapLook 0 HR.out rfl rfl (.tmp 79) (.tmp 80) 55 9 rfl Tryz.underlying55 (.string ByteArray.empty) (by kernel_rfl) p.1 rfl rfl (by unfold maxLen; omega) _ _ HM.out.1 HM.out.2 ?_)
        go_roundw
        case rel => exact ⟨⟨k + 1, l, g, cap, hlt2, by omega, by go_num, HJ.out, rfl, HR.out⟩⟩
        case measure => simp [intOf]; omega
      · have hno : ∀ q ∈ l, q.1 ≠ nm := fun q hq e => hin ⟨q, hq, e⟩
        have HM := Aside0.mk (mapOf_no hno (.held (.string ByteArray.empty)))
        have HJ2 := Aside0.mk (HJ.out.snoc (p := (nm, vl)) hno HS2.out.1 HS2.out.2)
        have hpl : (preJ l).length ≤ 3000 := by
          have h1 := HJ.out.len
          rw [← preJ_end, List.length_append] at h1
          omega
        have hfl : (fieldJ (nm.data.toList, vl.data.toList)).length ≤ 200 := by
          have h1 := HS2.out.1.len
          have h2 := HS2.out.2.len
          simp [fieldJ]
          simp at h1 h2
          omega
        have HZ := Aside0.mk HJ.out.size
        clear hin hno
        cases l with
        | nil =>
          obtain ⟨g3, cap3, w3, hrun, hB3⟩ := HR.out.bufStr 1 rfl 30 (fieldJ (nm.data.toList, vl.data.toList)) (by omega)
          have e4 := HV.out w3 hB3.below
          rw [← field_str] at hrun
          obtain ⟨P, hP⟩ : ∃ P, P = preJ [] ++ fieldJ (nm.data.toList, vl.data.toList) := ⟨_, rfl⟩
          rw [← hP] at hrun hB3
          have HB3 : Aside0 (Hold w w.heap.size w3 [.hm gm 0 (mapOf []), .buf g3 cap3 P]) := ⟨hB3⟩
          have HP : Aside0 (P = preJ ([] ++ [(nm, vl)])) := ⟨hP⟩
          have HS1 := Aside0.mk hrun
          clear hB3 hrun hP
          go_wp2_with (first | (at_lookup; refine Hold.mapLook 0 HR.out rfl rfl (.tmp 79) (.tmp 80) 55 9 rfl Tryz.underlying55 (.string ByteArray.empty) (by kernel_rfl) nm rfl rfl (by unfold maxLen; omega) (.string ByteArray.empty) false HM.out.1 HM.out.2 ?_) | (at_len; refine Hold.mapLen 0 HR.out rfl rfl (.tmp 85) 55 9 rfl Tryz.underlying55 rfl 0 HZ.out ?_) | (at_mapUpdate; refine Hold.mapPut 0 HB3.out rfl rfl (.tmp 102) (.tmp 103) (.tmp 107) 55 9 rfl Tryz.underlying55 nm (.string vl) rfl rfl rfl (by unfold maxLen; omega) (by unfold maxLen; omega) ?_; intro w5 h5; have H5 := Aside0.mk h5; clear h5) | ((with_reducible refine at_bi (b := .append) (xs := #[.tmp 91, .tmp 100]) rfl ?_); at_builtin; refine wpList_append_run rfl (.tmp 91) (.tmp 100) 30 9 rfl _ _ _ rfl rfl HS1.out ?_))
          exact ⟨⟨⟨k + 1, [] ++ [(nm, vl)], g3, cap3, hlt2, by simp, by go_num, HJ2.out, by rw [HP.out], by rw [← HP.out, mapOf_snoc]; exact H5.out⟩⟩, by simp [intOf]; omega⟩
        | cons q r =>
          have hr0 : 0 < (q :: r).length := by simp
          generalize hl9 : q :: r = l at *
          have hln : l ≠ [] := by rw [← hl9]; simp
          clear hl9
          obtain ⟨g2, cap2, w2, hrun0, hB2⟩ := HR.out.bufByte 1 rfl 30 44 (by omega)
          obtain ⟨g3, cap3, w3, hrun, hB3⟩ := hB2.bufStr 1 rfl 30 (fieldJ (nm.data.toList, vl.data.toList)) (by rw [List.length_append]; simp; omega)
          have e4 := HV.out w2 hB2.below
          have e5 := HV.out w3 hB3.below
          rw [← field_str] at hrun
          obtain ⟨P, hP⟩ : ∃ P, P = preJ l ++ [44] ++ fieldJ (nm.data.toList, vl.data.toList) := ⟨_, rfl⟩
          rw [← hP] at hrun hB3
          obtain ⟨P1, hP1⟩ : ∃ P1, P1 = preJ l ++ [44] := ⟨_, rfl⟩
          rw [← hP1] at hrun hrun0
          have HB3 : Aside0 (Hold w w.heap.size w3 [.hm gm l.length (mapOf l), .buf g3 cap3 P]) := ⟨hB3⟩
          have HP : Aside0 (P = preJ (l ++ [(nm, vl)])) := ⟨by rw [hP]; exact preJ_next l (nm, vl) hln⟩
          have HS1 := Aside0.mk hrun
          have HS0 : Aside0 ((Builtin.append_ #[30, 30] 30 #[.slice (some ⟨g, 0, none⟩) (preJ l).length cap, .slice (some ⟨wr.heap.size, 0, none⟩) 1 1]).run Tryz.prog (wr.alloc (.cells #[.int .u8 44] 5)) = .ok (.slice (some ⟨g2, 0, none⟩) P1.length cap2) w2) := ⟨hrun0⟩
          clear hB3 hB2 hrun hrun0 hln hP hP1
          go_wp2_with (first | (at_lookup; refine Hold.mapLook 0 HR.out rfl rfl (.tmp 79) (.tmp 80) 55 9 rfl Tryz.underlying55 (.string ByteArray.empty) (by kernel_rfl) nm rfl rfl (by unfold maxLen; omega) (.string ByteArray.empty) false HM.out.1 HM.out.2 ?_) | (at_len; refine Hold.mapLen 0 HR.out rfl rfl (.tmp 85) 55 9 rfl Tryz.underlying55 rfl l.length HZ.out ?_) | (at_mapUpdate; refine Hold.mapPut 0 HB3.out rfl rfl (.tmp 102) (.tmp 103) (.tmp 107) 55 9 rfl Tryz.underlying55 nm (.string vl) rfl rfl rfl (by unfold maxLen; omega) (by unfold maxLen; omega) ?_; intro w5 h5; have H5 := Aside0.mk h5; clear h5) | ((with_reducible refine at_bi (b := .append) (xs := #[.tmp 88, .tmp 89]) rfl ?_); at_builtin; refine wpList_append_run rfl (.tmp 88) (.tmp 89) 30 30 rfl _ _ _ rfl rfl HS0.out ?_) | ((with_reducible refine at_bi (b := .append) (xs := #[.tmp 91, .tmp 100]) rfl ?_); at_builtin; refine wpList_append_run rfl (.tmp 91) (.tmp 100) 30 9 rfl _ _ _ rfl rfl HS1.out ?_))
          exact ⟨⟨⟨k + 1, l ++ [(nm, vl)], g3, cap3, hlt2, by rw [List.length_append]; simp; omega, by go_num, HJ2.out, by rw [HP.out], by rw [← HP.out, mapOf_snoc, List.length_append]; exact H5.out⟩⟩, by simp [intOf]; omega⟩
    · obtain ⟨T, hT⟩ : ∃ T, T = jText (l.map bsP) := ⟨_, rfl⟩
      have hTl : T.length ≤ 2000 := by rw [hT]; have := HJ.out.len; omega
      have hpl : (preJ l).length ≤ 2000 := by
        rw [hT, ← preJ_end, List.length_append] at hTl
        omega
      obtain ⟨g2, cap2, w2, hrun0, hB2⟩ := HR.out.bufByte 1 rfl 30 125 (by omega)
      rw [preJ_end, ← hT] at hrun0 hB2
      have HS0 : Aside0 ((Builtin.append_ #[30, 30] 30 #[.slice (some ⟨g, 0, none⟩) (preJ l).length cap, .slice (some ⟨wr.heap.size, 0, none⟩) 1 1]).run Tryz.prog (wr.alloc (.cells #[.int .u8 125] 5)) = .ok (.slice (some ⟨g2, 0, none⟩) T.length cap2) w2) := ⟨hrun0⟩
      have H2 : Aside0 (Hold w w.heap.size w2 [.hm gm l.length (mapOf l), .buf g2 cap2 T]) := ⟨hB2⟩
      have HTe := Aside0.mk hT
      have HOw := Aside0.mk (own_any w2 (some ⟨g2, 0, none⟩) T.length cap2 T (by omega) (H2.out.bufC 1 rfl).1)
      clear hrun0 hB2 hT HR
      go_wp2_with ((with_reducible refine at_bi (b := .append) (xs := #[.tmp 109, .tmp 110]) rfl ?_); at_builtin; refine wpList_append_run rfl (.tmp 109) (.tmp 110) 30 30 rfl _ _ _ rfl rfl HS0.out ?_)
      refine HOw.out.mono ?_
      rintro e w3 ⟨v, rfl, h3⟩
      obtain ⟨A3, c3, rfl, hle3, hC3⟩ := h3.reads 0 rfl
      have H3 := Aside0.mk (H2.out.of_below h3.below)
      have HEn := Aside0.mk (encoded_any w3 A3 T.length c3 T (by omega) hC3)
      clear h3 hC3 hle3 HOw HS0
      go_wp2_with fail
      refine HEn.out.mono ?_
      rintro e w4 ⟨v, rfl, h4⟩
      have hbl : (b64 true T).length ≤ 10000 := by rw [b64_len]; unfold encLen; omega
      obtain ⟨hok, hgu⟩ := guess_raw (ts := b64 true T) (fun k hk => b64_isL true T k hk)
      obtain ⟨A4, c4, rfl, hle4, hC4⟩ := h4.reads 0 rfl
      have H4 := Aside0.mk (H3.out.of_below h4.below)
      have HDe := Aside0.mk (decoded_any w4 true A4 _ c4 (b64 true T) (by omega) hC4 hok (by rw [hgu]))
      rw [decAll_b64] at HDe
      obtain ⟨bl, hbl2⟩ : ∃ n, n = (b64 true T).length := ⟨_, rfl⟩
      rw [← hbl2] at HDe ⊢
      clear h4 hC4 hle4 HEn hok hgu hbl hbl2
      go_wp2_with fail
      refine HDe.out.mono ?_
      rintro e w5 ⟨v, rfl, h5⟩
      obtain ⟨A5, c5, rfl, hle5, hC5⟩ := h5.reads 0 rfl
      have H5 := Aside0.mk (H4.out.app h5)
      clear h5 hC5 hle5 HDe H4 H3 H2
      have HBk := Aside0.mk (fun (x : Asrt) (wz : World) (h : Hold w w.heap.size wz [x, .row kB 5 (.slice A5 T.length c5) T, .buf g2 cap2 T]) => h.catF 1 rfl)
      have H6 := Aside0.mk (H5.out.pick [1, 0, 2] (by decide) (L' := [.hm gm l.length (mapOf l), .row kB 5 (.slice A5 T.length c5) T, .buf g2 cap2 T]) rfl)
      clear H5
      go_wp2_with (at_range; refine Hold.mapRange 0 H6.out rfl rfl (.tmp 121) 55 9 rfl Tryz.underlying55 rfl ?_; intro w6 h6; have H7 := Aside0.mk h6; clear h6)
      go_frame
      generalize w5.heap.size = r5 at *
      go_loopw [15] (fun _ wr => RngR w gm r5 g2 cap2 c5 A5 T l wr) (fun _ wr => wr.rangeLeft gm r5)
      case atStart => exact ⟨⟨_, _, fun _ h => h, H7.out⟩⟩
      case round =>
        obtain ⟨left, cnt, hleft, hR⟩ := hrel.out
        clear hrel H7 H6
        have HR := Aside0.mk hR
        have HLf := Aside0.mk hleft
        clear hR hleft
        go_wp2_with (at_next; refine Hold.mapNext 0 HR.out rfl rfl (.tmp 122) rfl rfl ?_ ?_)
        · intro h0 hl0
          have H8 := Aside0.mk (HR.out.rngDone 0 rfl)
          have H9 : Aside0 (Hold w w.heap.size wr [.hm gm l.length (mapOf l), .row kB 5 (.slice A5 T.length c5) T, .buf g2 cap2 T]) := ⟨H8.out⟩
          have hsz : other.size ≤ maxLen := by unfold maxLen; omega
          clear H8 HR HLf h0 hl0
          by_cases hin : ∃ p ∈ l, p.1 = other
          · obtain ⟨p, hp, rfl⟩ := hin
            have HP := Aside0.mk hp
            have HM := Aside0.mk (mapOf_yes HJ.out.nd hp (.held (.string ByteArray.empty)))
            clear hp
            go_wp2_with (first | (at_lookup; refine Hold.mapLook 0 H9.out rfl rfl (.tmp 166) (.tmp 167) 55 9 rfl Tryz.underlying55 (.string ByteArray.empty) (by kernel_rfl) p.1 rfl rfl hsz (.string p.2) true HM.out.1 HM.out.2 ?_))
            refine (own_any _ A5 T.length c5 T (by omega) (HBk.out _ _ H9.out)).mono ?_
            rintro e va ⟨v, rfl, ha⟩
            obtain ⟨Da, da, rfl, _, hCa⟩ := ha.reads 0 rfl
            have H10 := Aside0.mk (H9.out.of_below ha.below)
            have HX := Aside0.mk (headStr_in HJ.out T HTe.out hTl _ _ da hCa p HP.out)
            clear ha hCa
            go_wp2_with fail
            refine HX.out.mono ?_
            rintro e xa ⟨rfl, hba⟩
            have H11 := Aside0.mk (H10.out.of_below hba)
            clear hba HX
            go_wp2_with fail
            refine (own_any _ A5 T.length c5 T (by omega) (HBk.out _ _ H11.out)).mono ?_
            rintro e vb ⟨v, rfl, hb⟩
            obtain ⟨Db, db, rfl, _, hCb⟩ := hb.reads 0 rfl
            have H12 := Aside0.mk (H11.out.of_below hb.below)
            have HX := Aside0.mk (headHas_in HJ.out T HTe.out hTl _ _ db hCb p HP.out)
            clear hb hCb
            go_wp2_with fail
            refine HX.out.mono ?_
            rintro e xb ⟨rfl, hbb⟩
            have H13 := Aside0.mk (H12.out.of_below hbb)
            clear hbb HX
            go_wp2_with fail
            refine (HAw.out _).mono ?_
            rintro e xz ⟨rfl, hz⟩
            have HZ := Aside0.mk (H13.out.of_below hz.below)
            clear hz
            go_wp2
            go_ret
            exact ⟨rfl, HZ.out.below⟩
          · have HNo : Aside0 (∀ p ∈ l, p.1 ≠ other) := ⟨fun p hp e => hin ⟨p, hp, e⟩⟩
            have HM := Aside0.mk (mapOf_no HNo.out (.held (.string ByteArray.empty)))
            clear hin
            go_wp2_with (at_lookup; refine Hold.mapLook 0 H9.out rfl rfl (.tmp 166) (.tmp 167) 55 9 rfl Tryz.underlying55 (.string ByteArray.empty) (by kernel_rfl) other rfl rfl hsz (.string ByteArray.empty) false HM.out.1 HM.out.2 ?_)
            refine (own_any _ A5 T.length c5 T (by omega) (HBk.out _ _ H9.out)).mono ?_
            rintro e va ⟨v, rfl, ha⟩
            obtain ⟨Da, da, rfl, _, hCa⟩ := ha.reads 0 rfl
            have H10 := Aside0.mk (H9.out.of_below ha.below)
            have HX := Aside0.mk (headStr_out HJ.out T HTe.out hTl _ _ da hCa other HNo.out)
            clear ha hCa
            go_wp2_with fail
            refine HX.out.mono ?_
            rintro e xa ⟨rfl, hba⟩
            have H11 := Aside0.mk (H10.out.of_below hba)
            clear hba HX
            go_wp2_with fail
            refine (own_any _ A5 T.length c5 T (by omega) (HBk.out _ _ H11.out)).mono ?_
            rintro e vb ⟨v, rfl, hb⟩
            obtain ⟨Db, db, rfl, _, hCb⟩ := hb.reads 0 rfl
            have H12 := Aside0.mk (H11.out.of_below hb.below)
            have HX := Aside0.mk (headHas_out HJ.out T HTe.out hTl _ _ db hCb other HNo.out)
            clear hb hCb
            go_wp2_with fail
            refine HX.out.mono ?_
            rintro e xb ⟨rfl, hbb⟩
            have H13 := Aside0.mk (H12.out.of_below hbb)
            clear hbb HX
            go_wp2_with fail
            refine (HAw.out _).mono ?_
            rintro e xz ⟨rfl, hz⟩
            have HZ := Aside0.mk (H13.out.of_below hz.below)
            clear hz
            go_wp2
            go_ret
            exact ⟨rfl, HZ.out.below⟩
        · intro s v w1 cnt1 hs9 hlk hat hH hlt9 hen
          obtain ⟨p, hp, rfl, rfl⟩ := mapOf_at HJ.out.nd (HLf.out _ hlk) hat
          have HP := Aside0.mk hp
          have HL2 : Aside0 (∀ kl, (left kl && !kl.sameKey (kS p.1)) = true → Maps.has (mapOf l) kl = true) := ⟨fun kl h => HLf.out kl (by simp at h; exact h.1)⟩
          have H8 := Aside0.mk hH
          have HLt := Aside0.mk hlt9
          clear hp hH hlt9 hat hlk hs9
          go_wp2_with fail
          refine (own_any _ (some ⟨g2, 0, none⟩) T.length cap2 T (by omega) (H8.out.bufC 2 rfl).1).mono ?_
          rintro e va ⟨v, rfl, ha⟩
          obtain ⟨Da, da, rfl, _, hCa⟩ := ha.reads 0 rfl
          have H9 := Aside0.mk (H8.out.of_below ha.below)
          have HX := Aside0.mk (headStr_in HJ.out T HTe.out hTl _ _ da hCa p HP.out)
          clear ha hCa
          go_wp2_with fail
          refine HX.out.mono ?_
          rintro e xa ⟨rfl, hba⟩
          have H10 := Aside0.mk (H9.out.of_below hba)
          clear hba HX
          go_wp2_with fail
          refine (own_any _ A5 T.length c5 T (by omega) (HBk.out _ _ H10.out)).mono ?_
          rintro e vb ⟨v, rfl, hb⟩
          obtain ⟨Db, db, rfl, _, hCb⟩ := hb.reads 0 rfl
          have H11 := Aside0.mk (H10.out.of_below hb.below)
          have HX := Aside0.mk (headStr_in HJ.out T HTe.out hTl _ _ db hCb p HP.out)
          clear hb hCb
          go_wp2_with fail
          refine HX.out.mono ?_
          rintro e xb ⟨rfl, hbb⟩
          have H12 := Aside0.mk (H11.out.of_below hbb)
          clear hbb HX
          go_wp2_with fail
          refine (own_any _ (some ⟨g2, 0, none⟩) T.length cap2 T (by omega) (H12.out.bufC 2 rfl).1).mono ?_
          rintro e vc ⟨v, rfl, hc⟩
          obtain ⟨Dc, dc, rfl, _, hCc⟩ := hc.reads 0 rfl
          have H13 := Aside0.mk (H12.out.of_below hc.below)
          have HX := Aside0.mk (headHas_in HJ.out T HTe.out hTl _ _ dc hCc p HP.out)
          clear hc hCc
          go_wp2_with fail
          refine HX.out.mono ?_
          rintro e xc ⟨rfl, hbc⟩
          have H14 := Aside0.mk (H13.out.of_below hbc)
          clear hbc HX
          go_wp2
          go_roundw
          case rel => exact ⟨⟨_, _, HL2.out, H14.out⟩⟩
          case measure => rw [H14.out.rngLeft 0 rfl, HR.out.rngLeft 0 rfl]; exact HLt.out
theorem joinHeader_row (A : Option Addr) (n c : Nat) (names : List ByteArray) (B : Option Addr) (m d : Nat) (values : List ByteArray) (other : ByteArray) (W : World) (hA : Kd.string.C W A n names) (_ : AllOk StrOk names) (_ : names.length * 16 ≤ 140737488351232 ∧ n ≤ c)
    (hB : Kd.string.C W B m values) (_ : AllOk StrOk values) (hm : values.length * 16 ≤ 140737488351232 ∧ m ≤ d) (_ : other.size ≤ 140737488351232) :
    Calls Tryz.prog 5 #[.slice A n c, .slice B m d, .string other] W fun e w' => e = .returned (.bool true) ∧ Below W.heap.size W w' :=
  joinHeader_law W A n c names B m d values other hA hB hm.2
theorem opens_string : Opens Tryz.prog 9 Kd.string StrOk := Opens.string Tryz.underlying9
end Go.Proofs.YtdldblfklalaeaaGreatDoor
