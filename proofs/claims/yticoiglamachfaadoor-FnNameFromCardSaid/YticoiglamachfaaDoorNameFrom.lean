/-
  laws.FnNameFrom: true, whatever the text.
-/
import Derived.Test.YticoiglamachfaaDoorNameK
import Derived.LoopN
namespace Go.Proofs.YticoiglamachfaaDoor
open Go.RowKit Go.Proofs.YticoiglamachfaaDoorW.PrintWords Go.Lib
set_option linter.unusedVariables false
set_option linter.unusedSimpArgs false
def FF (s : ByteArray) (k : Int) (b : Bool) : Prop := ∀ w, Calls Tryd.prog 6 #[.int .i64 k, .string s] w fun e w' => (∃ n d y, e = .returned (.tuple #[.string n, .bool d, .bool y, .bool b])) ∧ Hold w w.heap.size w' []
theorem ffS_hit {s : ByteArray} (hs : s.size ≤ maxLen) (d y : Bool) (hF : Reg s true 1 (.iface 35 (.agg #[.string s, .bool d, .bool y])) true) : FF s 0 true := fun w => (foundS w s s d y true (lookS_hit w s hs s d y true hF)).mono (by rintro e w' ⟨rfl, h⟩; exact ⟨⟨_, _, _, rfl⟩, h⟩)
theorem ffS_other {s : ByteArray} (hs : s.size ≤ maxLen) (cc : Nat) (ta : TypeId) (va : Value) (bb : Bool) (hc : cc ≠ 1) (hF : Reg s true cc (.iface ta va) bb) : FF s 0 false := fun w => (foundS w s ⟨#[]⟩ false false false (lookS_other w s hs cc ta va bb hc hF)).mono (by rintro e w' ⟨rfl, h⟩; exact ⟨⟨_, _, _, rfl⟩, h⟩)
theorem ffS_no {s : ByteArray} (hs : s.size ≤ maxLen) (hF : Reg s false 0 .nilIface false) : FF s 0 false := fun w => (foundS w s ⟨#[]⟩ false false false (lookS_no w s hs hF)).mono (by rintro e w' ⟨rfl, h⟩; exact ⟨⟨_, _, _, rfl⟩, h⟩)
theorem ffK_hit {s : ByteArray} (hs : s.size ≤ maxLen) (d y : Bool) (hF : Reg s true 2 (.iface 37 (.agg #[.string s, .bool d, .bool y])) true) : FF s 1 true := fun w => (foundK w s s d y true (lookK_hit w s hs s d y true hF)).mono (by rintro e w' ⟨rfl, h⟩; exact ⟨⟨_, _, _, rfl⟩, h⟩)
theorem ffK_other {s : ByteArray} (hs : s.size ≤ maxLen) (cc : Nat) (ta : TypeId) (va : Value) (bb : Bool) (hc : cc ≠ 2) (hF : Reg s true cc (.iface ta va) bb) : FF s 1 false := fun w => (foundK w s ⟨#[]⟩ false false false (lookK_other w s hs cc ta va bb hc hF)).mono (by rintro e w' ⟨rfl, h⟩; exact ⟨⟨_, _, _, rfl⟩, h⟩)
theorem ffK_no {s : ByteArray} (hs : s.size ≤ maxLen) (hF : Reg s false 0 .nilIface false) : FF s 1 false := fun w => (foundK w s ⟨#[]⟩ false false false (lookK_no w s hs hF)).mono (by rintro e w' ⟨rfl, h⟩; exact ⟨⟨_, _, _, rfl⟩, h⟩)
theorem ffC_hit {s : ByteArray} (hs : s.size ≤ maxLen) (d : Bool) (hF : Reg s true 3 (.iface 39 (.agg #[.string s, .bool d])) true) : FF s 2 true := fun w => (foundC w s s d true (lookC_hit w s hs s d true hF)).mono (by rintro e w' ⟨rfl, h⟩; exact ⟨⟨_, _, _, rfl⟩, h⟩)
theorem ffC_other {s : ByteArray} (hs : s.size ≤ maxLen) (cc : Nat) (ta : TypeId) (va : Value) (bb : Bool) (hc : cc ≠ 3) (hF : Reg s true cc (.iface ta va) bb) : FF s 2 false := fun w => (foundC w s ⟨#[]⟩ false false (lookC_other w s hs cc ta va bb hc hF)).mono (by rintro e w' ⟨rfl, h⟩; exact ⟨⟨_, _, _, rfl⟩, h⟩)
theorem ffC_no {s : ByteArray} (hs : s.size ≤ maxLen) (hF : Reg s false 0 .nilIface false) : FF s 2 false := fun w => (foundC w s ⟨#[]⟩ false false (lookC_no w s hs hF)).mono (by rintro e w' ⟨rfl, h⟩; exact ⟨⟨_, _, _, rfl⟩, h⟩)
structure Names (s : ByteArray) (k : Int) (t : ByteArray) (ok b0 b1 b2 : Bool) : Prop where
  from_ : ∀ w tE vE, w.cell? ⟨0, 0, none⟩ = some (.iface tE vE) → Calls Tryd.prog 5 #[.string s] w fun e w' => e = .returned (.tuple #[.int .i64 k, .string t, .bool ok]) ∧ Hold w w.heap.size w' []
  f0 : FF s 0 b0
  f1 : FF s 1 b1
  f2 : FF s 2 b2
theorem regS {e : ByteArray × Bool × Bool} (he : e ∈ tabS) : Reg e.1 true 1 (algS e) true := by
  have hm : entS e ∈ allE := List.mem_append_right _ (List.mem_map_of_mem he)
  exact ⟨(reg_hit _ hm _).1, (reg_hit _ hm (.held zE)).2⟩
theorem regK {e : ByteArray × Bool × Bool} (he : e ∈ tabK) : Reg e.1 true 2 (algK e) true := by
  have hm : entK e ∈ allE := List.mem_append_left _ (List.mem_append_right _ (List.mem_map_of_mem he))
  exact ⟨(reg_hit _ hm _).1, (reg_hit _ hm (.held zE)).2⟩
theorem regC {e : ByteArray × Bool × Bool} (he : e ∈ tabC) : Reg e.1 true 3 (algC e) true := by
  have hm : entC e ∈ allE := List.mem_append_left _ (List.mem_append_left _ (List.mem_map_of_mem he))
  exact ⟨(reg_hit _ hm _).1, (reg_hit _ hm (.held zE)).2⟩
theorem names_of (s : ByteArray) (hs : s.size ≤ maxLen) : Names s 0 s true true false false ∨ Names s 1 s true false true false ∨ Names s 2 s true false false true ∨ Names s 0 ⟨#[]⟩ false false false false := by
  by_cases h : s ∈ allE.map (·.1)
  · obtain ⟨e, he, rfl⟩ := List.mem_map.1 h
    rcases List.mem_append.1 he with he | he
    · rcases List.mem_append.1 he with he | he
      · obtain ⟨⟨s, d, y⟩, hx, rfl⟩ := List.mem_map.1 he
        have hR := regC hx
        exact .inr (.inr (.inl ⟨fun w _ _ _ => nameFromC w s hs d hR, ffS_other hs 3 _ _ _ (by decide) hR, ffK_other hs 3 _ _ _ (by decide) hR, ffC_hit hs d hR⟩))
      · obtain ⟨⟨s, d, y⟩, hx, rfl⟩ := List.mem_map.1 he
        have hR := regK hx
        exact .inr (.inl ⟨fun w _ _ _ => nameFromK w s hs d y hR, ffS_other hs 2 _ _ _ (by decide) hR, ffK_hit hs d y hR, ffC_other hs 2 _ _ _ (by decide) hR⟩)
    · obtain ⟨⟨s, d, y⟩, hx, rfl⟩ := List.mem_map.1 he
      have hR := regS hx
      exact .inl ⟨fun w _ _ _ => nameFromS w s hs d y hR, ffS_hit hs d y hR, ffK_other hs 1 _ _ _ (by decide) hR, ffC_other hs 1 _ _ _ (by decide) hR⟩
  · have hR : Reg s false 0 .nilIface false := ⟨(reg_miss s h _).1, (reg_miss s h (.held zE)).2⟩
    exact .inr (.inr (.inr ⟨fun w tE vE hE => nameFrom_miss w s hs tE vE hE hR, ffS_no hs hR, ffK_no hs hR, ffC_no hs hR⟩))
theorem live_any (w : World) : Calls Tryd.prog 4 #[] w fun e w' => e = .returned (.bool true) ∧ Hold w w.heap.size w' [] := by
  go_enter Tryd.func4, Tryd.ntmps4
  go_wp2_with fail
  have hR := regS (e := (⟨#[72, 83, 50, 53, 54]⟩, false, true)) (List.mem_of_getElem? (i := 6) (by rfl))
  have hs : (⟨#[72, 83, 50, 53, 54]⟩ : ByteArray).size ≤ maxLen := by decide
  refine (foundS w ⟨#[72, 83, 50, 53, 54]⟩ ⟨#[72, 83, 50, 53, 54]⟩ false true true (lookS_hit w _ hs _ false true true hR)).mono ?_
  clear hR hs
  rintro e w1 ⟨rfl, hH⟩
  have HR := Aside0.mk hH
  clear hH
  go_wp2
  go_ret
  exact ⟨rfl, HR.out⟩
set_option maxRecDepth 100000 in
set_option maxHeartbeats 4000000 in
theorem lawS (w : World) (s : ByteArray) (tE : TypeId) (vE : Value) (hE : w.cell? ⟨0, 0, none⟩ = some (.iface tE vE)) (hl : ¬ 2147483647 < s.size) (h0 : ¬ s.size = 0) (h1 : ¬ 60 < s.size) (hN : Names s 0 s true true false false) :
    Calls Tryd.prog 3 #[.string s] w fun e w' => e = .returned (.bool true) ∧ Below w.heap.size w w' := by
  have HN := Aside0.mk hN
  have HE := Aside0.mk hE
  have a0 : ((s.size : Int) == 0) = false := by rw [beq_eq_false_iff_ne]; omega
  have a1 : decide (60 < (s.size : Int)) = false := by rw [decide_eq_false_iff_not]; omega
  have a2 : decide (2147483647 < (s.size : Int)) = false := by rw [decide_eq_false_iff_not]; omega
  clear hN hE h0 h1 hl
  go_enter Tryd.func3, Tryd.ntmps3
  go_wp2_with fail
  refine (HN.out.from_ _ tE vE HE.out).mono ?_
  rintro e w1 ⟨rfl, hH⟩
  have H1 := Aside0.mk hH
  clear hH
  go_wp2
  refine wp_loop_rounds 4 ?_
  rw [rounds_succ]
  go_wp2_with fail
  refine (HN.out.f0 _).mono ?_
  rintro e w2 ⟨⟨n0, d0, y0, rfl⟩, hH⟩
  have H2 := Aside0.mk (H1.out.app hH)
  clear hH
  go_wp2
  rw [rounds_succ]
  go_wp2_with fail
  refine (HN.out.f1 _).mono ?_
  rintro e w3 ⟨⟨n1, d1, y1, rfl⟩, hH⟩
  have H3 := Aside0.mk (H2.out.app hH)
  clear hH
  go_wp2
  rw [rounds_succ]
  go_wp2_with fail
  refine (HN.out.f2 _).mono ?_
  rintro e w4 ⟨⟨n2, d2, y2, rfl⟩, hH⟩
  have H4 := Aside0.mk (H3.out.app hH)
  clear hH
  go_wp2
  rw [rounds_succ]
  go_wp2_with fail
  refine (live_any _).mono ?_
  rintro e w5 ⟨rfl, hH⟩
  have H5 := Aside0.mk (H4.out.app hH)
  clear hH
  go_wp2
  go_ret
  exact ⟨rfl, H5.out.below⟩
set_option maxRecDepth 100000 in
set_option maxHeartbeats 4000000 in
theorem lawK (w : World) (s : ByteArray) (tE : TypeId) (vE : Value) (hE : w.cell? ⟨0, 0, none⟩ = some (.iface tE vE)) (hl : ¬ 2147483647 < s.size) (h0 : ¬ s.size = 0) (h1 : ¬ 60 < s.size) (hN : Names s 1 s true false true false) :
    Calls Tryd.prog 3 #[.string s] w fun e w' => e = .returned (.bool true) ∧ Below w.heap.size w w' := by
  have HN := Aside0.mk hN
  have HE := Aside0.mk hE
  have a0 : ((s.size : Int) == 0) = false := by rw [beq_eq_false_iff_ne]; omega
  have a1 : decide (60 < (s.size : Int)) = false := by rw [decide_eq_false_iff_not]; omega
  have a2 : decide (2147483647 < (s.size : Int)) = false := by rw [decide_eq_false_iff_not]; omega
  clear hN hE h0 h1 hl
  go_enter Tryd.func3, Tryd.ntmps3
  go_wp2_with fail
  refine (HN.out.from_ _ tE vE HE.out).mono ?_
  rintro e w1 ⟨rfl, hH⟩
  have H1 := Aside0.mk hH
  clear hH
  go_wp2
  refine wp_loop_rounds 4 ?_
  rw [rounds_succ]
  go_wp2_with fail
  refine (HN.out.f0 _).mono ?_
  rintro e w2 ⟨⟨n0, d0, y0, rfl⟩, hH⟩
  have H2 := Aside0.mk (H1.out.app hH)
  clear hH
  go_wp2
  rw [rounds_succ]
  go_wp2_with fail
  refine (HN.out.f1 _).mono ?_
  rintro e w3 ⟨⟨n1, d1, y1, rfl⟩, hH⟩
  have H3 := Aside0.mk (H2.out.app hH)
  clear hH
  go_wp2
  rw [rounds_succ]
  go_wp2_with fail
  refine (HN.out.f2 _).mono ?_
  rintro e w4 ⟨⟨n2, d2, y2, rfl⟩, hH⟩
  have H4 := Aside0.mk (H3.out.app hH)
  clear hH
  go_wp2
  rw [rounds_succ]
  go_wp2_with fail
  refine (live_any _).mono ?_
  rintro e w5 ⟨rfl, hH⟩
  have H5 := Aside0.mk (H4.out.app hH)
  clear hH
  go_wp2
  go_ret
  exact ⟨rfl, H5.out.below⟩
set_option maxRecDepth 100000 in
set_option maxHeartbeats 4000000 in
theorem lawC (w : World) (s : ByteArray) (tE : TypeId) (vE : Value) (hE : w.cell? ⟨0, 0, none⟩ = some (.iface tE vE)) (hl : ¬ 2147483647 < s.size) (h0 : ¬ s.size = 0) (h1 : ¬ 60 < s.size) (hN : Names s 2 s true false false true) :
    Calls Tryd.prog 3 #[.string s] w fun e w' => e = .returned (.bool true) ∧ Below w.heap.size w w' := by
  have HN := Aside0.mk hN
  have HE := Aside0.mk hE
  have a0 : ((s.size : Int) == 0) = false := by rw [beq_eq_false_iff_ne]; omega
  have a1 : decide (60 < (s.size : Int)) = false := by rw [decide_eq_false_iff_not]; omega
  have a2 : decide (2147483647 < (s.size : Int)) = false := by rw [decide_eq_false_iff_not]; omega
  clear hN hE h0 h1 hl
  go_enter Tryd.func3, Tryd.ntmps3
  go_wp2_with fail
  refine (HN.out.from_ _ tE vE HE.out).mono ?_
  rintro e w1 ⟨rfl, hH⟩
  have H1 := Aside0.mk hH
  clear hH
  go_wp2
  refine wp_loop_rounds 4 ?_
  rw [rounds_succ]
  go_wp2_with fail
  refine (HN.out.f0 _).mono ?_
  rintro e w2 ⟨⟨n0, d0, y0, rfl⟩, hH⟩
  have H2 := Aside0.mk (H1.out.app hH)
  clear hH
  go_wp2
  rw [rounds_succ]
  go_wp2_with fail
  refine (HN.out.f1 _).mono ?_
  rintro e w3 ⟨⟨n1, d1, y1, rfl⟩, hH⟩
  have H3 := Aside0.mk (H2.out.app hH)
  clear hH
  go_wp2
  rw [rounds_succ]
  go_wp2_with fail
  refine (HN.out.f2 _).mono ?_
  rintro e w4 ⟨⟨n2, d2, y2, rfl⟩, hH⟩
  have H4 := Aside0.mk (H3.out.app hH)
  clear hH
  go_wp2
  rw [rounds_succ]
  go_wp2_with fail
  refine (live_any _).mono ?_
  rintro e w5 ⟨rfl, hH⟩
  have H5 := Aside0.mk (H4.out.app hH)
  clear hH
  go_wp2
  go_ret
  exact ⟨rfl, H5.out.below⟩
set_option maxRecDepth 100000 in
set_option maxHeartbeats 4000000 in
theorem lawN (w : World) (s : ByteArray) (tE : TypeId) (vE : Value) (hE : w.cell? ⟨0, 0, none⟩ = some (.iface tE vE)) (hl : ¬ 2147483647 < s.size) (h0 : ¬ s.size = 0) (h1 : ¬ 60 < s.size) (hN : Names s 0 ⟨#[]⟩ false false false false) :
    Calls Tryd.prog 3 #[.string s] w fun e w' => e = .returned (.bool true) ∧ Below w.heap.size w w' := by
  have HN := Aside0.mk hN
  have HE := Aside0.mk hE
  have a0 : ((s.size : Int) == 0) = false := by rw [beq_eq_false_iff_ne]; omega
  have a1 : decide (60 < (s.size : Int)) = false := by rw [decide_eq_false_iff_not]; omega
  have a2 : decide (2147483647 < (s.size : Int)) = false := by rw [decide_eq_false_iff_not]; omega
  clear hN hE h0 h1 hl
  go_enter Tryd.func3, Tryd.ntmps3
  go_wp2_with fail
  refine (HN.out.from_ _ tE vE HE.out).mono ?_
  rintro e w1 ⟨rfl, hH⟩
  have H1 := Aside0.mk hH
  clear hH
  go_wp2
  refine wp_loop_rounds 4 ?_
  rw [rounds_succ]
  go_wp2_with fail
  refine (HN.out.f0 _).mono ?_
  rintro e w2 ⟨⟨n0, d0, y0, rfl⟩, hH⟩
  have H2 := Aside0.mk (H1.out.app hH)
  clear hH
  go_wp2
  rw [rounds_succ]
  go_wp2_with fail
  refine (HN.out.f1 _).mono ?_
  rintro e w3 ⟨⟨n1, d1, y1, rfl⟩, hH⟩
  have H3 := Aside0.mk (H2.out.app hH)
  clear hH
  go_wp2
  rw [rounds_succ]
  go_wp2_with fail
  refine (HN.out.f2 _).mono ?_
  rintro e w4 ⟨⟨n2, d2, y2, rfl⟩, hH⟩
  have H4 := Aside0.mk (H3.out.app hH)
  clear hH
  go_wp2
  rw [rounds_succ]
  go_wp2_with fail
  refine (live_any _).mono ?_
  rintro e w5 ⟨rfl, hH⟩
  have H5 := Aside0.mk (H4.out.app hH)
  clear hH
  go_wp2
  go_ret
  exact ⟨rfl, H5.out.below⟩
set_option maxRecDepth 100000 in
theorem nameFrom_any (s : ByteArray) (w : World) (hw : s.size ≤ 140737488351232) (tE : TypeId) (vE : Value) (hE : w.cell? ⟨0, 0, none⟩ = some (.iface tE vE)) :
    Calls Tryd.prog 3 #[.string s] w fun e w' => e = .returned (.bool true) ∧ Below w.heap.size w w' := by
  by_cases hl : 2147483647 < s.size
  · clear hE
    go_enter Tryd.func3, Tryd.ntmps3
    go_wp2
    go_ret
    exact ⟨rfl, Below.refl _ _⟩
  · by_cases h0 : s.size = 0
    · clear hE
      go_enter Tryd.func3, Tryd.ntmps3
      go_wp2_with fail
      refine (live_any _).mono ?_
      rintro e w5 ⟨rfl, hH⟩
      have H5 := Aside0.mk hH
      clear hH
      go_wp2
      go_ret
      exact ⟨rfl, H5.out.below⟩
    · by_cases h1 : 60 < s.size
      · clear hE
        go_enter Tryd.func3, Tryd.ntmps3
        go_wp2_with fail
        refine (live_any _).mono ?_
        rintro e w5 ⟨rfl, hH⟩
        have H5 := Aside0.mk hH
        clear hH
        go_wp2
        go_ret
        exact ⟨rfl, H5.out.below⟩
      · rcases names_of s (Nat.le_trans hw (by decide)) with hN | hN | hN | hN
        · exact lawS w s tE vE hE hl h0 h1 hN
        · exact lawK w s tE vE hE hl h0 h1 hN
        · exact lawC w s tE vE hE hl h0 h1 hN
        · exact lawN w s tE vE hE hl h0 h1 hN
end Go.Proofs.YticoiglamachfaaDoor
