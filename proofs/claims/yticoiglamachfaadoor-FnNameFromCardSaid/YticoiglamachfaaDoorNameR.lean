/-
  jwa.algRegistry: its contract.
-/
import Derived.Test.YticoiglamachfaaDoorNameB
import Derived.Deep.RegionLaw
namespace Go.Proofs.YticoiglamachfaaDoor
open Go.RowKit Go.Proofs.YticoiglamachfaaDoorW.PrintWords Go.Lib
set_option linter.unusedVariables false
set_option linter.unusedSimpArgs false
theorem Hold.mapRun {w0 W : World} {B : Nat} {L : List Asrt} (i : Nat) (hS : Hold w0 B W L) {g n : Nat} {D : DataW Value} (hi : L[i]? = some (.hm g n D)) (t e : TypeId) (ht : Tryd.prog.underlying t = some (.map 9 e)) (s : ByteArray) (val : Value) (hn : n < maxLen) (hs : s.size ≤ maxLen) :
    ∃ w1, (Instr.mapUpdate t (.map (some g)) (.string s) val).run Tryd.prog W = .ok () w1 ∧ Hold w0 B w1 (L.set i (.hm g (n + 1) (D.put (kS s) (.held val)))) := by
  obtain ⟨w1, h1, h2, h3⟩ := (hS.mapGet i hi).update str_keyed ht hn (WideMaps.keyOf_string_mk Tryd.underlying9 hs) (show rH val = some (.held val, []) from rfl)
  exact ⟨w1, h1, hS.upd i hi (fun f hp => ⟨f, ⟨hp.1, h2⟩, fun k h => .inl h, Chg.of_grown h3 (fun k e => by injection e with e; rw [← e]; exact hp.1)⟩)⟩
theorem sizes : ∀ e ∈ tabC ++ tabK ++ tabS, e.1.size ≤ 60 := by decide +kernel
theorem size_of (e : ByteArray × Bool × Bool) (h : e ∈ tabC ++ tabK ++ tabS) : e.1.size ≤ maxLen := Nat.le_trans (sizes e h) (by decide)
theorem strC_any (w : World) (s : ByteArray) (d : Bool) : Calls Tryd.prog 10 #[.agg #[.string s, .bool d]] w fun e w' => e = .returned (.string s) ∧ w' = w.alloc (.cells #[.string s, .bool d] 39) := by
  go_enter Tryd.func10, Tryd.ntmps10
  go_wp2
  go_ret
  exact ⟨rfl, rfl⟩
theorem strK_any (w : World) (s : ByteArray) (d y : Bool) : Calls Tryd.prog 9 #[.agg #[.string s, .bool d, .bool y]] w fun e w' => e = .returned (.string s) ∧ w' = w.alloc (.cells #[.string s, .bool d, .bool y] 37) := by
  go_enter Tryd.func9, Tryd.ntmps9
  go_wp2
  go_ret
  exact ⟨rfl, rfl⟩
theorem strS_any (w : World) (s : ByteArray) (d y : Bool) : Calls Tryd.prog 8 #[.agg #[.string s, .bool d, .bool y]] w fun e w' => e = .returned (.string s) ∧ w' = w.alloc (.cells #[.string s, .bool d, .bool y] 35) := by
  go_enter Tryd.func8, Tryd.ntmps8
  go_wp2
  go_ret
  exact ⟨rfl, rfl⟩
set_option maxRecDepth 100000 in
set_option maxHeartbeats 4000000 in
theorem reg_any (w : World) : Calls Tryd.prog 28 #[] w fun e w' => ∃ g, e = .returned (.map (some g)) ∧ Hold w w.heap.size w' [.hm g 41 regD] := by
  have hmm := @run_makeMap Tryd.prog
  have H0 := Aside0.mk (Hold.start w).mapMade
  go_enter Tryd.func28, Tryd.ntmps28
  go_wp2_with fail
  refine (listC_any _).mono ?_
  rintro e wC ⟨rfl, hH⟩
  have HC := Aside0.mk ((H0.out.app hH).swap)
  clear hH
  go_wp2
  obtain ⟨WC, hWC⟩ : ∃ W, W = wC := ⟨_, rfl⟩
  subst hWC
  have HC2 := HC.out
  rw [show (w.alloc (.map #[] 0)).heap.size = w.heap.size + 1 by simp] at HC2
  replace HC := Aside0.mk HC2
  clear HC2
  go_loopw [11] (fun i wr => ∃ k : Nat, k ≤ 6 ∧ i = .int .i64 k ∧ Hold w w.heap.size wr [.hm w.heap.size (0 + k) (putAll (.map []) ((tabC.map entC).take k)), .blk (w.heap.size + 1) (.cells (tabC.flatMap enc2).toArray 39 (0, 0))]) (fun i _ => 6 - (intOf i).toNat)
  case atStart => exact ⟨0, by omega, rfl, by rw [List.take_zero]; exact HC.out⟩
  case round =>
    obtain ⟨k, hk, rfl, hR⟩ := hrel
    by_cases hlt : k < 6
    · obtain ⟨⟨s, d, y⟩, he⟩ : ∃ e, tabC[k]? = some e := ⟨_, List.getElem?_eq_getElem (show k < tabC.length from hlt)⟩
      obtain ⟨c0, c1⟩ := flat2_get tabC k _ he
      obtain ⟨e0, _⟩ := hR.cellAt 1 rfl (k * 2) _ c0
      obtain ⟨e1, _⟩ := hR.cellAt 1 rfl (k * 2 + 1) _ c1
      have hsz := size_of _ (List.mem_append_left _ (List.mem_append_left _ (List.mem_of_getElem? he)))
      obtain ⟨w1, hrun, hN⟩ := Hold.mapRun 0 ((hR.alloc_ (.cells #[.string s, .bool d] 39)).alloc_ (.cells #[.string s, .bool d] 39)).drew rfl 59 57 Tryd.underlying59 s (.agg #[.int .u8 3, .iface 39 (.agg #[.string s, .bool d]), .bool true]) (by unfold maxLen; omega) hsz
      have hD : (putAll (.map []) ((tabC.map entC).take k)).put (kS s) (.held (.agg #[.int .u8 3, .iface 39 (.agg #[.string s, .bool d]), .bool true])) = (putAll (.map []) ((tabC.map entC).take (k + 1))) := by
        have hm : (tabC.map entC)[k]? = some (entC (s, d, y)) := by rw [List.getElem?_map, he]; rfl
        obtain ⟨hkl, hke⟩ := List.getElem?_eq_some_iff.1 hm
        rw [List.take_succ_eq_append_getElem hkl, hke, putAll_snoc]
        rfl
      change Hold w w.heap.size w1 [.hm w.heap.size (0 + k + 1) ((putAll (.map []) ((tabC.map entC).take k)).put (kS s) (.held (.agg #[.int .u8 3, .iface 39 (.agg #[.string s, .bool d]), .bool true]))), _] at hN
      rw [hD] at hN
      have HN := Aside0.mk hN
      clear hN hD hsz hR c0 c1 he
      go_wp2
      go_region_law (go_simp; go_at_call 10; refine (strC_any _ s d).mono ?_; rintro e w2 ⟨rfl, rfl⟩)
      all_goals
        go_wp2
        go_roundw
        case rel => exact ⟨k + 1, hlt, by go_num, HN.out⟩
        case measure => simp [intOf]; omega
    · obtain rfl : k = 6 := by omega
      rw [List.take_of_length_le (Nat.le_of_eq (show (tabC.map entC).length = 6 from rfl))] at hR
      obtain ⟨wr1, hwr⟩ : ∃ x, x = wr := ⟨_, rfl⟩
      subst hwr
      have HM := Aside0.mk hR.swap.tail
      clear hR
      go_wp2_with fail
      refine (listK_any _).mono ?_
      rintro e wK ⟨rfl, hH⟩
      have HK := Aside0.mk ((HM.out.app hH).swap)
      clear hH
      go_wp2
      obtain ⟨WK, hWK⟩ : ∃ W, W = wK := ⟨_, rfl⟩
      subst hWK
      go_loopw [24] (fun i wr => ∃ k : Nat, k ≤ 19 ∧ i = .int .i64 k ∧ Hold w w.heap.size wr [.hm w.heap.size (6 + k) (putAll (.map []) (tabC.map entC ++ (tabK.map entK).take k)), .blk wr1.heap.size (.cells (tabK.flatMap enc3).toArray 37 (0, 0))]) (fun i _ => 19 - (intOf i).toNat)
      case atStart => exact ⟨0, by omega, rfl, by rw [List.take_zero, List.append_nil]; exact HK.out⟩
      case round =>
        obtain ⟨k, hk, rfl, hR⟩ := hrel
        by_cases hlt : k < 19
        · obtain ⟨⟨s, d, y⟩, he⟩ : ∃ e, tabK[k]? = some e := ⟨_, List.getElem?_eq_getElem (show k < tabK.length from hlt)⟩
          obtain ⟨c0, c1, c2⟩ := flat3_get tabK k _ he
          obtain ⟨e0, _⟩ := hR.cellAt 1 rfl (k * 3) _ c0
          obtain ⟨e1, _⟩ := hR.cellAt 1 rfl (k * 3 + 1) _ c1
          obtain ⟨e2, _⟩ := hR.cellAt 1 rfl (k * 3 + 2) _ c2
          have hsz := size_of _ (List.mem_append_left _ (List.mem_append_right _ (List.mem_of_getElem? he)))
          obtain ⟨w1, hrun, hN⟩ := Hold.mapRun 0 ((hR.alloc_ (.cells #[.string s, .bool d, .bool y] 37)).alloc_ (.cells #[.string s, .bool d, .bool y] 37)).drew rfl 59 57 Tryd.underlying59 s (.agg #[.int .u8 2, .iface 37 (.agg #[.string s, .bool d, .bool y]), .bool true]) (by unfold maxLen; omega) hsz
          have hD : (putAll (.map []) (tabC.map entC ++ (tabK.map entK).take k)).put (kS s) (.held (.agg #[.int .u8 2, .iface 37 (.agg #[.string s, .bool d, .bool y]), .bool true])) = (putAll (.map []) (tabC.map entC ++ (tabK.map entK).take (k + 1))) := by
            have hm : (tabK.map entK)[k]? = some (entK (s, d, y)) := by rw [List.getElem?_map, he]; rfl
            obtain ⟨hkl, hke⟩ := List.getElem?_eq_some_iff.1 hm
            rw [List.take_succ_eq_append_getElem hkl, hke, ← List.append_assoc, putAll_snoc]
            rfl
          change Hold w w.heap.size w1 [.hm w.heap.size (6 + k + 1) ((putAll (.map []) (tabC.map entC ++ (tabK.map entK).take k)).put (kS s) (.held (.agg #[.int .u8 2, .iface 37 (.agg #[.string s, .bool d, .bool y]), .bool true]))), _] at hN
          rw [hD] at hN
          have HN := Aside0.mk hN
          clear hN hD hsz hR c0 c1 c2 he
          go_wp2
          go_region_law (go_simp; go_at_call 9; refine (strK_any _ s d y).mono ?_; rintro e w2 ⟨rfl, rfl⟩)
          all_goals
            go_wp2
            go_roundw
            case rel => exact ⟨k + 1, hlt, by go_num, HN.out⟩
            case measure => simp [intOf]; omega
        · obtain rfl : k = 19 := by omega
          rw [List.take_of_length_le (Nat.le_of_eq (show (tabK.map entK).length = 19 from rfl))] at hR
          obtain ⟨wr2, hwr⟩ : ∃ x, x = wr := ⟨_, rfl⟩
          subst hwr
          have HM := Aside0.mk hR.swap.tail
          clear hR
          go_wp2_with fail
          refine (listS_any _).mono ?_
          rintro e wS ⟨rfl, hH⟩
          have HS := Aside0.mk ((HM.out.app hH).swap)
          clear hH
          go_wp2
          obtain ⟨WS, hWS⟩ : ∃ W, W = wS := ⟨_, rfl⟩
          subst hWS
          go_loopw [37] (fun i wr => ∃ k : Nat, k ≤ 16 ∧ i = .int .i64 k ∧ Hold w w.heap.size wr [.hm w.heap.size (25 + k) (putAll (.map []) (tabC.map entC ++ tabK.map entK ++ (tabS.map entS).take k)), .blk wr2.heap.size (.cells (tabS.flatMap enc3).toArray 35 (0, 0))]) (fun i _ => 16 - (intOf i).toNat)
          case atStart => exact ⟨0, by omega, rfl, by rw [List.take_zero, List.append_nil]; exact HS.out⟩
          case round =>
            obtain ⟨k, hk, rfl, hR⟩ := hrel
            by_cases hlt : k < 16
            · obtain ⟨⟨s, d, y⟩, he⟩ : ∃ e, tabS[k]? = some e := ⟨_, List.getElem?_eq_getElem (show k < tabS.length from hlt)⟩
              obtain ⟨c0, c1, c2⟩ := flat3_get tabS k _ he
              obtain ⟨e0, _⟩ := hR.cellAt 1 rfl (k * 3) _ c0
              obtain ⟨e1, _⟩ := hR.cellAt 1 rfl (k * 3 + 1) _ c1
              obtain ⟨e2, _⟩ := hR.cellAt 1 rfl (k * 3 + 2) _ c2
              have hsz := size_of _ (List.mem_append_right _ (List.mem_of_getElem? he))
              obtain ⟨w1, hrun, hN⟩ := Hold.mapRun 0 ((hR.alloc_ (.cells #[.string s, .bool d, .bool y] 35)).alloc_ (.cells #[.string s, .bool d, .bool y] 35)).drew rfl 59 57 Tryd.underlying59 s (.agg #[.int .u8 1, .iface 35 (.agg #[.string s, .bool d, .bool y]), .bool true]) (by unfold maxLen; omega) hsz
              have hD : (putAll (.map []) (tabC.map entC ++ tabK.map entK ++ (tabS.map entS).take k)).put (kS s) (.held (.agg #[.int .u8 1, .iface 35 (.agg #[.string s, .bool d, .bool y]), .bool true])) = (putAll (.map []) (tabC.map entC ++ tabK.map entK ++ (tabS.map entS).take (k + 1))) := by
                have hm : (tabS.map entS)[k]? = some (entS (s, d, y)) := by rw [List.getElem?_map, he]; rfl
                obtain ⟨hkl, hke⟩ := List.getElem?_eq_some_iff.1 hm
                rw [List.take_succ_eq_append_getElem hkl, hke, ← List.append_assoc, putAll_snoc]
                rfl
              change Hold w w.heap.size w1 [.hm w.heap.size (25 + k + 1) ((putAll (.map []) (tabC.map entC ++ tabK.map entK ++ (tabS.map entS).take k)).put (kS s) (.held (.agg #[.int .u8 1, .iface 35 (.agg #[.string s, .bool d, .bool y]), .bool true]))), _] at hN
              rw [hD] at hN
              have HN := Aside0.mk hN
              clear hN hD hsz hR c0 c1 c2 he
              go_wp2
              go_region_law (go_simp; go_at_call 8; refine (strS_any _ s d y).mono ?_; rintro e w2 ⟨rfl, rfl⟩)
              all_goals
                go_wp2
                go_roundw
                case rel => exact ⟨k + 1, hlt, by go_num, HN.out⟩
                case measure => simp [intOf]; omega
            · obtain rfl : k = 16 := by omega
              rw [List.take_of_length_le (Nat.le_of_eq (show (tabS.map entS).length = 16 from rfl))] at hR
              obtain ⟨wr3, hwr⟩ : ∃ x, x = wr := ⟨_, rfl⟩
              subst hwr
              have HM := Aside0.mk hR.swap.tail
              clear hR
              go_wp2
              go_ret
              exact ⟨_, rfl, HM.out⟩
end Go.Proofs.YticoiglamachfaaDoor
