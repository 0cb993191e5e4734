/-
  jwa.lookupAlgorithm, jwa.Lookup.. of three kinds: their contracts.
-/
import Derived.Test.YticoiglamachfaaDoorNameR
import Derived.Laws.ResultCell
import Derived.Laws.Rows
namespace Go.Proofs.YticoiglamachfaaDoor
open Go.RowKit Go.Proofs.YticoiglamachfaaDoorW.PrintWords Go.Lib
set_option linter.unusedVariables false
set_option linter.unusedSimpArgs false
theorem results_cell_tmp_row {P : Program} {fn : Func} {p u : Tmp} {ty : TypeId} (h : fn.results = #[.cell p ty, .tmp u]) (tmps : Array Value) (w : World) (g : Nat) (t : TypeId) (cs : Array Value) (fr : Nat × Nat) (d : TypeDesc)
    (hp : tmps.getD p undef = .pointer (some ⟨g, 0, none⟩)) (hg : w.heap[g]? = some (.cells cs t fr)) (hu : P.underlying ty = some d) (hd : (match d with | .struct _ | .array _ _ => true | _ => false) = true) (hi : (P.info? ty).map (·.size) = some cs.size) :
    (results fn tmps).run P w = .ok (.tuple #[.agg cs, tmps.getD u undef]) w := by
  rw [results_cell_tmp h, hp]
  simp [asAddr, run_loadVar_row w g t ty cs fr d hg hu hd hi, Result.andThen]
def zE : Value := .agg #[.int .u8 0, .nilIface, .bool false]
/-- What the registry says of a text. -/
structure Reg (s : ByteArray) (b : Bool) (cc : Nat) (a : Value) (bb : Bool) : Prop where
  at_ : regD.atKey (kS s) (.held zE) = .held (.agg #[.int .u8 (cc : Int), a, .bool bb])
  has_ : Maps.has regD (kS s) = b
theorem zero_entry : ∀ W, (zeroValue 57).run Tryd.prog W = .ok zE W := fun W => by kernel_rfl
set_option maxHeartbeats 1000000 in
theorem look_yes (w : World) (s : ByteArray) (hs : s.size ≤ maxLen) (kc cc : Nat) (ta : TypeId) (va : Value) (bb : Bool) (hF : Reg s true cc (.iface ta va) bb) (hc : cc = kc) :
    Calls Tryd.prog 29 #[.int .u8 (kc : Int), .string s] w fun e w' => e = .returned (.tuple #[.iface ta va, .bool true]) ∧ Hold w w.heap.size w' [] := by
  subst hc
  have HF := Aside0.mk hF
  clear hF
  go_enter Tryd.func29, Tryd.ntmps29
  go_wp2_with fail
  refine (reg_any _).mono ?_
  rintro e w1 ⟨g, rfl, hH⟩
  have HR := Aside0.mk hH
  clear hH
  go_wp2_with (at_lookup; refine Hold.mapLook 0 HR.out rfl rfl (.tmp 9) (.tmp 10) 59 57 rfl Tryd.underlying59 zE (zero_entry _) s rfl rfl hs _ _ HF.out.at_ HF.out.has_ ?_)
  go_ret2
  exact ⟨rfl, HR.out.tail.alloc_ _⟩
set_option maxHeartbeats 1000000 in
theorem look_other (w : World) (s : ByteArray) (hs : s.size ≤ maxLen) (kc cc : Nat) (ta : TypeId) (va : Value) (bb : Bool) (hF : Reg s true cc (.iface ta va) bb) (hc : cc ≠ kc) :
    Calls Tryd.prog 29 #[.int .u8 (kc : Int), .string s] w fun e w' => e = .returned (.tuple #[.nilIface, .bool false]) ∧ Hold w w.heap.size w' [] := by
  have hc1 : ((cc : Int) == (kc : Int)) = false := by rw [beq_eq_false_iff_ne]; omega
  clear hc
  have HF := Aside0.mk hF
  clear hF
  go_enter Tryd.func29, Tryd.ntmps29
  go_wp2_with fail
  refine (reg_any _).mono ?_
  rintro e w1 ⟨g, rfl, hH⟩
  have HR := Aside0.mk hH
  clear hH
  go_wp2_with (at_lookup; refine Hold.mapLook 0 HR.out rfl rfl (.tmp 9) (.tmp 10) 59 57 rfl Tryd.underlying59 zE (zero_entry _) s rfl rfl hs _ _ HF.out.at_ HF.out.has_ ?_)
  go_ret2
  exact ⟨rfl, HR.out.tail.alloc_ _⟩
set_option maxHeartbeats 1000000 in
theorem look_no (w : World) (s : ByteArray) (hs : s.size ≤ maxLen) (kc cc : Nat) (ta : TypeId) (va : Value) (bb : Bool) (hF : Reg s false 0 .nilIface false) :
    Calls Tryd.prog 29 #[.int .u8 (kc : Int), .string s] w fun e w' => e = .returned (.tuple #[.nilIface, .bool false]) ∧ Hold w w.heap.size w' [] := by
  have HF := Aside0.mk hF
  clear hF
  go_enter Tryd.func29, Tryd.ntmps29
  go_wp2_with fail
  refine (reg_any _).mono ?_
  rintro e w1 ⟨g, rfl, hH⟩
  have HR := Aside0.mk hH
  clear hH
  go_wp2_with (at_lookup; refine Hold.mapLook 0 HR.out rfl rfl (.tmp 9) (.tmp 10) 59 57 rfl Tryd.underlying59 zE (zero_entry _) s rfl rfl hs _ _ HF.out.at_ HF.out.has_ ?_)
  go_ret2
  exact ⟨rfl, HR.out.tail.alloc_ _⟩
theorem taC : ∀ v W, (Instr.typeAssert (.iface 39 v) 29 39 false).run Tryd.prog W = .ok v W := fun v W => by kernel_rfl
theorem taK : ∀ v W, (Instr.typeAssert (.iface 37 v) 29 37 false).run Tryd.prog W = .ok v W := fun v W => by kernel_rfl
theorem taS : ∀ v W, (Instr.typeAssert (.iface 35 v) 29 35 false).run Tryd.prog W = .ok v W := fun v W => by kernel_rfl
set_option maxHeartbeats 1000000 in
theorem lookC_hit (w : World) (s : ByteArray) (hs : s.size ≤ maxLen) (n : ByteArray) (d bb : Bool) (hF : Reg s true 3 (.iface 39 (.agg #[.string n, .bool d])) bb) :
    Calls Tryd.prog 17 #[.string s] w fun e w' => e = .returned (.tuple #[.agg #[.string n, .bool d], .bool true]) ∧ Hold w w.heap.size w' [] := by
  have H0 := Aside0.mk ((Hold.start w).alloc (.cells #[.string ⟨#[]⟩, .bool false] 39))
  have HF := Aside0.mk hF
  have hta := taC
  clear hF
  go_enter Tryd.func17, Tryd.ntmps17
  go_wp2_with fail
  refine (look_yes _ s hs 3 3 _ _ bb HF.out rfl).mono ?_
  rintro e w1 ⟨rfl, hH⟩
  have HR := Aside0.mk (H0.out.app hH)
  clear hH
  obtain ⟨e0, f0⟩ := HR.out.cellAt 0 rfl 0 (.string ⟨#[]⟩) rfl
  obtain ⟨e1, f1⟩ := HR.out.cellAt 0 rfl 1 (.bool false) rfl
  go_wp2
  have hS : Hold w w.heap.size _ [.blk w.heap.size (.cells #[.string n, .bool d] 39 (0, 0))] := ((HR.out.store 0 rfl 0 (.string n)).store 0 rfl 1 (.bool d))
  refine bodyPost_ret (results_cell_tmp_row rfl _ _ w.heap.size 39 _ (0, 0) _ rfl (hS.blk 0 rfl) Tryd.underlying39 rfl (by kernel_rfl)) rfl ?_
  exact ⟨rfl, hS.tail⟩
set_option maxHeartbeats 1000000 in
theorem lookC_other (w : World) (s : ByteArray) (hs : s.size ≤ maxLen) (cc : Nat) (ta : TypeId) (va : Value) (bb : Bool) (hc : cc ≠ 3) (hF : Reg s true cc (.iface ta va) bb) :
    Calls Tryd.prog 17 #[.string s] w fun e w' => e = .returned (.tuple #[.agg #[.string ⟨#[]⟩, .bool false], .bool false]) ∧ Hold w w.heap.size w' [] := by
  have H0 := Aside0.mk ((Hold.start w).alloc (.cells #[.string ⟨#[]⟩, .bool false] 39))
  have HF := Aside0.mk hF
  have hta := taC
  clear hF
  go_enter Tryd.func17, Tryd.ntmps17
  go_wp2_with fail
  refine (look_other _ s hs 3 cc ta va bb HF.out hc).mono ?_
  rintro e w1 ⟨rfl, hH⟩
  have HR := Aside0.mk (H0.out.app hH)
  clear hH
  obtain ⟨e0, f0⟩ := (HR.out.alloc_ (.cells #[.string ⟨#[]⟩, .bool false] 39)).cellAt 0 rfl 0 (.string ⟨#[]⟩) rfl
  obtain ⟨e1, f1⟩ := (HR.out.alloc_ (.cells #[.string ⟨#[]⟩, .bool false] 39)).cellAt 0 rfl 1 (.bool false) rfl
  go_wp2
  have hS : Hold w w.heap.size _ [.blk w.heap.size (.cells #[.string ⟨#[]⟩, .bool false] 39 (0, 0))] := (((HR.out.alloc_ (.cells #[.string ⟨#[]⟩, .bool false] 39)).store 0 rfl 0 (.string ⟨#[]⟩)).store 0 rfl 1 (.bool false))
  refine bodyPost_ret (results_cell_tmp_row rfl _ _ w.heap.size 39 _ (0, 0) _ rfl (hS.blk 0 rfl) Tryd.underlying39 rfl (by kernel_rfl)) rfl ?_
  exact ⟨rfl, hS.tail⟩
set_option maxHeartbeats 1000000 in
theorem lookC_no (w : World) (s : ByteArray) (hs : s.size ≤ maxLen) (hF : Reg s false 0 .nilIface false) :
    Calls Tryd.prog 17 #[.string s] w fun e w' => e = .returned (.tuple #[.agg #[.string ⟨#[]⟩, .bool false], .bool false]) ∧ Hold w w.heap.size w' [] := by
  have H0 := Aside0.mk ((Hold.start w).alloc (.cells #[.string ⟨#[]⟩, .bool false] 39))
  have HF := Aside0.mk hF
  have hta := taC
  clear hF
  go_enter Tryd.func17, Tryd.ntmps17
  go_wp2_with fail
  refine (look_no _ s hs 3 0 0 .nilIface false HF.out).mono ?_
  rintro e w1 ⟨rfl, hH⟩
  have HR := Aside0.mk (H0.out.app hH)
  clear hH
  obtain ⟨e0, f0⟩ := (HR.out.alloc_ (.cells #[.string ⟨#[]⟩, .bool false] 39)).cellAt 0 rfl 0 (.string ⟨#[]⟩) rfl
  obtain ⟨e1, f1⟩ := (HR.out.alloc_ (.cells #[.string ⟨#[]⟩, .bool false] 39)).cellAt 0 rfl 1 (.bool false) rfl
  go_wp2
  have hS : Hold w w.heap.size _ [.blk w.heap.size (.cells #[.string ⟨#[]⟩, .bool false] 39 (0, 0))] := (((HR.out.alloc_ (.cells #[.string ⟨#[]⟩, .bool false] 39)).store 0 rfl 0 (.string ⟨#[]⟩)).store 0 rfl 1 (.bool false))
  refine bodyPost_ret (results_cell_tmp_row rfl _ _ w.heap.size 39 _ (0, 0) _ rfl (hS.blk 0 rfl) Tryd.underlying39 rfl (by kernel_rfl)) rfl ?_
  exact ⟨rfl, hS.tail⟩
set_option maxHeartbeats 1000000 in
theorem lookK_hit (w : World) (s : ByteArray) (hs : s.size ≤ maxLen) (n : ByteArray) (d y bb : Bool) (hF : Reg s true 2 (.iface 37 (.agg #[.string n, .bool d, .bool y])) bb) :
    Calls Tryd.prog 14 #[.string s] w fun e w' => e = .returned (.tuple #[.agg #[.string n, .bool d, .bool y], .bool true]) ∧ Hold w w.heap.size w' [] := by
  have H0 := Aside0.mk ((Hold.start w).alloc (.cells #[.string ⟨#[]⟩, .bool false, .bool false] 37))
  have HF := Aside0.mk hF
  have hta := taK
  clear hF
  go_enter Tryd.func14, Tryd.ntmps14
  go_wp2_with fail
  refine (look_yes _ s hs 2 2 _ _ bb HF.out rfl).mono ?_
  rintro e w1 ⟨rfl, hH⟩
  have HR := Aside0.mk (H0.out.app hH)
  clear hH
  obtain ⟨e0, f0⟩ := HR.out.cellAt 0 rfl 0 (.string ⟨#[]⟩) rfl
  obtain ⟨e1, f1⟩ := HR.out.cellAt 0 rfl 1 (.bool false) rfl
  obtain ⟨e2, f2⟩ := HR.out.cellAt 0 rfl 2 (.bool false) rfl
  go_wp2
  have hS : Hold w w.heap.size _ [.blk w.heap.size (.cells #[.string n, .bool d, .bool y] 37 (0, 0))] := (((HR.out.store 0 rfl 0 (.string n)).store 0 rfl 1 (.bool d)).store 0 rfl 2 (.bool y))
  refine bodyPost_ret (results_cell_tmp_row rfl _ _ w.heap.size 37 _ (0, 0) _ rfl (hS.blk 0 rfl) Tryd.underlying37 rfl (by kernel_rfl)) rfl ?_
  exact ⟨rfl, hS.tail⟩
set_option maxHeartbeats 1000000 in
theorem lookK_other (w : World) (s : ByteArray) (hs : s.size ≤ maxLen) (cc : Nat) (ta : TypeId) (va : Value) (bb : Bool) (hc : cc ≠ 2) (hF : Reg s true cc (.iface ta va) bb) :
    Calls Tryd.prog 14 #[.string s] w fun e w' => e = .returned (.tuple #[.agg #[.string ⟨#[]⟩, .bool false, .bool false], .bool false]) ∧ Hold w w.heap.size w' [] := by
  have H0 := Aside0.mk ((Hold.start w).alloc (.cells #[.string ⟨#[]⟩, .bool false, .bool false] 37))
  have HF := Aside0.mk hF
  have hta := taK
  clear hF
  go_enter Tryd.func14, Tryd.ntmps14
  go_wp2_with fail
  refine (look_other _ s hs 2 cc ta va bb HF.out hc).mono ?_
  rintro e w1 ⟨rfl, hH⟩
  have HR := Aside0.mk (H0.out.app hH)
  clear hH
  obtain ⟨e0, f0⟩ := (HR.out.alloc_ (.cells #[.string ⟨#[]⟩, .bool false, .bool false] 37)).cellAt 0 rfl 0 (.string ⟨#[]⟩) rfl
  obtain ⟨e1, f1⟩ := (HR.out.alloc_ (.cells #[.string ⟨#[]⟩, .bool false, .bool false] 37)).cellAt 0 rfl 1 (.bool false) rfl
  obtain ⟨e2, f2⟩ := (HR.out.alloc_ (.cells #[.string ⟨#[]⟩, .bool false, .bool false] 37)).cellAt 0 rfl 2 (.bool false) rfl
  go_wp2
  have hS : Hold w w.heap.size _ [.blk w.heap.size (.cells #[.string ⟨#[]⟩, .bool false, .bool false] 37 (0, 0))] := ((((HR.out.alloc_ (.cells #[.string ⟨#[]⟩, .bool false, .bool false] 37)).store 0 rfl 0 (.string ⟨#[]⟩)).store 0 rfl 1 (.bool false)).store 0 rfl 2 (.bool false))
  refine bodyPost_ret (results_cell_tmp_row rfl _ _ w.heap.size 37 _ (0, 0) _ rfl (hS.blk 0 rfl) Tryd.underlying37 rfl (by kernel_rfl)) rfl ?_
  exact ⟨rfl, hS.tail⟩
set_option maxHeartbeats 1000000 in
theorem lookK_no (w : World) (s : ByteArray) (hs : s.size ≤ maxLen) (hF : Reg s false 0 .nilIface false) :
    Calls Tryd.prog 14 #[.string s] w fun e w' => e = .returned (.tuple #[.agg #[.string ⟨#[]⟩, .bool false, .bool false], .bool false]) ∧ Hold w w.heap.size w' [] := by
  have H0 := Aside0.mk ((Hold.start w).alloc (.cells #[.string ⟨#[]⟩, .bool false, .bool false] 37))
  have HF := Aside0.mk hF
  have hta := taK
  clear hF
  go_enter Tryd.func14, Tryd.ntmps14
  go_wp2_with fail
  refine (look_no _ s hs 2 0 0 .nilIface false HF.out).mono ?_
  rintro e w1 ⟨rfl, hH⟩
  have HR := Aside0.mk (H0.out.app hH)
  clear hH
  obtain ⟨e0, f0⟩ := (HR.out.alloc_ (.cells #[.string ⟨#[]⟩, .bool false, .bool false] 37)).cellAt 0 rfl 0 (.string ⟨#[]⟩) rfl
  obtain ⟨e1, f1⟩ := (HR.out.alloc_ (.cells #[.string ⟨#[]⟩, .bool false, .bool false] 37)).cellAt 0 rfl 1 (.bool false) rfl
  obtain ⟨e2, f2⟩ := (HR.out.alloc_ (.cells #[.string ⟨#[]⟩, .bool false, .bool false] 37)).cellAt 0 rfl 2 (.bool false) rfl
  go_wp2
  have hS : Hold w w.heap.size _ [.blk w.heap.size (.cells #[.string ⟨#[]⟩, .bool false, .bool false] 37 (0, 0))] := ((((HR.out.alloc_ (.cells #[.string ⟨#[]⟩, .bool false, .bool false] 37)).store 0 rfl 0 (.string ⟨#[]⟩)).store 0 rfl 1 (.bool false)).store 0 rfl 2 (.bool false))
  refine bodyPost_ret (results_cell_tmp_row rfl _ _ w.heap.size 37 _ (0, 0) _ rfl (hS.blk 0 rfl) Tryd.underlying37 rfl (by kernel_rfl)) rfl ?_
  exact ⟨rfl, hS.tail⟩
set_option maxHeartbeats 1000000 in
theorem lookS_hit (w : World) (s : ByteArray) (hs : s.size ≤ maxLen) (n : ByteArray) (d y bb : Bool) (hF : Reg s true 1 (.iface 35 (.agg #[.string n, .bool d, .bool y])) bb) :
    Calls Tryd.prog 11 #[.string s] w fun e w' => e = .returned (.tuple #[.agg #[.string n, .bool d, .bool y], .bool true]) ∧ Hold w w.heap.size w' [] := by
  have H0 := Aside0.mk ((Hold.start w).alloc (.cells #[.string ⟨#[]⟩, .bool false, .bool false] 35))
  have HF := Aside0.mk hF
  have hta := taS
  clear hF
  go_enter Tryd.func11, Tryd.ntmps11
  go_wp2_with fail
  refine (look_yes _ s hs 1 1 _ _ bb HF.out rfl).mono ?_
  rintro e w1 ⟨rfl, hH⟩
  have HR := Aside0.mk (H0.out.app hH)
  clear hH
  obtain ⟨e0, f0⟩ := HR.out.cellAt 0 rfl 0 (.string ⟨#[]⟩) rfl
  obtain ⟨e1, f1⟩ := HR.out.cellAt 0 rfl 1 (.bool false) rfl
  obtain ⟨e2, f2⟩ := HR.out.cellAt 0 rfl 2 (.bool false) rfl
  go_wp2
  have hS : Hold w w.heap.size _ [.blk w.heap.size (.cells #[.string n, .bool d, .bool y] 35 (0, 0))] := (((HR.out.store 0 rfl 0 (.string n)).store 0 rfl 1 (.bool d)).store 0 rfl 2 (.bool y))
  refine bodyPost_ret (results_cell_tmp_row rfl _ _ w.heap.size 35 _ (0, 0) _ rfl (hS.blk 0 rfl) Tryd.underlying35 rfl (by kernel_rfl)) rfl ?_
  exact ⟨rfl, hS.tail⟩
set_option maxHeartbeats 1000000 in
theorem lookS_other (w : World) (s : ByteArray) (hs : s.size ≤ maxLen) (cc : Nat) (ta : TypeId) (va : Value) (bb : Bool) (hc : cc ≠ 1) (hF : Reg s true cc (.iface ta va) bb) :
    Calls Tryd.prog 11 #[.string s] w fun e w' => e = .returned (.tuple #[.agg #[.string ⟨#[]⟩, .bool false, .bool false], .bool false]) ∧ Hold w w.heap.size w' [] := by
  have H0 := Aside0.mk ((Hold.start w).alloc (.cells #[.string ⟨#[]⟩, .bool false, .bool false] 35))
  have HF := Aside0.mk hF
  have hta := taS
  clear hF
  go_enter Tryd.func11, Tryd.ntmps11
  go_wp2_with fail
  refine (look_other _ s hs 1 cc ta va bb HF.out hc).mono ?_
  rintro e w1 ⟨rfl, hH⟩
  have HR := Aside0.mk (H0.out.app hH)
  clear hH
  obtain ⟨e0, f0⟩ := (HR.out.alloc_ (.cells #[.string ⟨#[]⟩, .bool false, .bool false] 35)).cellAt 0 rfl 0 (.string ⟨#[]⟩) rfl
  obtain ⟨e1, f1⟩ := (HR.out.alloc_ (.cells #[.string ⟨#[]⟩, .bool false, .bool false] 35)).cellAt 0 rfl 1 (.bool false) rfl
  obtain ⟨e2, f2⟩ := (HR.out.alloc_ (.cells #[.string ⟨#[]⟩, .bool false, .bool false] 35)).cellAt 0 rfl 2 (.bool false) rfl
  go_wp2
  have hS : Hold w w.heap.size _ [.blk w.heap.size (.cells #[.string ⟨#[]⟩, .bool false, .bool false] 35 (0, 0))] := ((((HR.out.alloc_ (.cells #[.string ⟨#[]⟩, .bool false, .bool false] 35)).store 0 rfl 0 (.string ⟨#[]⟩)).store 0 rfl 1 (.bool false)).store 0 rfl 2 (.bool false))
  refine bodyPost_ret (results_cell_tmp_row rfl _ _ w.heap.size 35 _ (0, 0) _ rfl (hS.blk 0 rfl) Tryd.underlying35 rfl (by kernel_rfl)) rfl ?_
  exact ⟨rfl, hS.tail⟩
set_option maxHeartbeats 1000000 in
theorem lookS_no (w : World) (s : ByteArray) (hs : s.size ≤ maxLen) (hF : Reg s false 0 .nilIface false) :
    Calls Tryd.prog 11 #[.string s] w fun e w' => e = .returned (.tuple #[.agg #[.string ⟨#[]⟩, .bool false, .bool false], .bool false]) ∧ Hold w w.heap.size w' [] := by
  have H0 := Aside0.mk ((Hold.start w).alloc (.cells #[.string ⟨#[]⟩, .bool false, .bool false] 35))
  have HF := Aside0.mk hF
  have hta := taS
  clear hF
  go_enter Tryd.func11, Tryd.ntmps11
  go_wp2_with fail
  refine (look_no _ s hs 1 0 0 .nilIface false HF.out).mono ?_
  rintro e w1 ⟨rfl, hH⟩
  have HR := Aside0.mk (H0.out.app hH)
  clear hH
  obtain ⟨e0, f0⟩ := (HR.out.alloc_ (.cells #[.string ⟨#[]⟩, .bool false, .bool false] 35)).cellAt 0 rfl 0 (.string ⟨#[]⟩) rfl
  obtain ⟨e1, f1⟩ := (HR.out.alloc_ (.cells #[.string ⟨#[]⟩, .bool false, .bool false] 35)).cellAt 0 rfl 1 (.bool false) rfl
  obtain ⟨e2, f2⟩ := (HR.out.alloc_ (.cells #[.string ⟨#[]⟩, .bool false, .bool false] 35)).cellAt 0 rfl 2 (.bool false) rfl
  go_wp2
  have hS : Hold w w.heap.size _ [.blk w.heap.size (.cells #[.string ⟨#[]⟩, .bool false, .bool false] 35 (0, 0))] := ((((HR.out.alloc_ (.cells #[.string ⟨#[]⟩, .bool false, .bool false] 35)).store 0 rfl 0 (.string ⟨#[]⟩)).store 0 rfl 1 (.bool false)).store 0 rfl 2 (.bool false))
  refine bodyPost_ret (results_cell_tmp_row rfl _ _ w.heap.size 35 _ (0, 0) _ rfl (hS.blk 0 rfl) Tryd.underlying35 rfl (by kernel_rfl)) rfl ?_
  exact ⟨rfl, hS.tail⟩
end Go.Proofs.YticoiglamachfaaDoor
