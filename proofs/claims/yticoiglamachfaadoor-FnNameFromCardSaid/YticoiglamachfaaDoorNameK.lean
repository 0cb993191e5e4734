/-
  jwa.KeyAlgorithmFrom of a text: its contracts.
-/
import Derived.Test.YticoiglamachfaaDoorNameF
namespace Go.Proofs.YticoiglamachfaaDoor
open Go.RowKit Go.Proofs.YticoiglamachfaaDoorW.PrintWords Go.Lib
set_option linter.unusedVariables false
set_option linter.unusedSimpArgs false
theorem tnS : ∀ s W, (Instr.typeAssert (.iface 9 (.string s)) 20 35 true).run Tryd.prog W = .ok (.tuple #[.agg #[.string ⟨#[]⟩, .bool false, .bool false], .bool false]) W := fun s W => by kernel_rfl
theorem tnK : ∀ s W, (Instr.typeAssert (.iface 9 (.string s)) 20 37 true).run Tryd.prog W = .ok (.tuple #[.agg #[.string ⟨#[]⟩, .bool false, .bool false], .bool false]) W := fun s W => by kernel_rfl
theorem tnC : ∀ s W, (Instr.typeAssert (.iface 9 (.string s)) 20 39 true).run Tryd.prog W = .ok (.tuple #[.agg #[.string ⟨#[]⟩, .bool false], .bool false]) W := fun s W => by kernel_rfl
theorem tnT : ∀ s W, (Instr.typeAssert (.iface 9 (.string s)) 20 9 true).run Tryd.prog W = .ok (.tuple #[.string s, .bool true]) W := fun s W => by kernel_rfl
set_option maxHeartbeats 2000000 in
theorem keyFrom_hit (w : World) (s : ByteArray) (hs : s.size ≤ maxLen) (cc : Nat) (ta : TypeId) (va : Value) (bb : Bool) (hF : Reg s true cc (.iface ta va) bb) :
    Calls Tryd.prog 7 #[.iface 9 (.string s)] w fun e w' => e = .returned (.tuple #[.iface ta va, .nilIface]) ∧ Hold w w.heap.size w' [] := by
  have HF := Aside0.mk hF
  have t1 := tnS
  have t2 := tnK
  have t3 := tnC
  have t4 := tnT
  clear hF
  go_enter Tryd.func7, Tryd.ntmps7
  go_wp2_with fail
  refine (reg_any _).mono ?_
  rintro e w1 ⟨g, rfl, hH⟩
  have HR := Aside0.mk hH
  clear hH
  go_wp2_with (at_lookup; refine Hold.mapLook 0 HR.out rfl rfl (.tmp 44) (.tmp 45) 59 57 rfl Tryd.underlying59 zE (zero_entry _) s rfl rfl hs _ _ HF.out.at_ HF.out.has_ ?_)
  go_ret2
  exact ⟨rfl, HR.out.tail.alloc_ _⟩
set_option maxHeartbeats 2000000 in
theorem keyFrom_miss (w : World) (s : ByteArray) (hs : s.size ≤ maxLen) (tE : TypeId) (vE : Value) (hE : w.cell? ⟨0, 0, none⟩ = some (.iface tE vE)) (hF : Reg s false 0 .nilIface false) :
    Calls Tryd.prog 7 #[.iface 9 (.string s)] w fun e w' => e = .returned (.tuple #[.nilIface, .iface tE vE]) ∧ Hold w w.heap.size w' [] := by
  have HE := Aside0.mk hE
  clear hE
  have HF := Aside0.mk hF
  have t1 := tnS
  have t2 := tnK
  have t3 := tnC
  have t4 := tnT
  clear hF
  go_enter Tryd.func7, Tryd.ntmps7
  go_wp2_with fail
  refine (reg_any _).mono ?_
  rintro e w1 ⟨g, rfl, hH⟩
  have HR := Aside0.mk hH
  clear hH
  go_wp2_with (at_lookup; refine Hold.mapLook 0 HR.out rfl rfl (.tmp 44) (.tmp 45) 59 57 rfl Tryd.underlying59 zE (zero_entry _) s rfl rfl hs _ _ HF.out.at_ HF.out.has_ ?_)
  have hG := pw_cell_below HR.out.below HE.out
  have hG2 := pw_cell_below (HR.out.alloc_ (.cells #[.int .u8 0, .nilIface, .bool false] 57)).below HE.out
  go_region
  all_goals go_wp2
  all_goals go_ret2
  all_goals exact ⟨rfl, (HR.out.tail.alloc_ _).drew⟩
theorem tiSS : ∀ n d y W, (Instr.typeAssert (.iface 35 (.agg #[.string n, .bool d, .bool y])) 29 35 true).run Tryd.prog W = .ok (.tuple #[.agg #[.string n, .bool d, .bool y], .bool true]) W := fun n d y W => by kernel_rfl
theorem tiSK : ∀ n d y W, (Instr.typeAssert (.iface 35 (.agg #[.string n, .bool d, .bool y])) 29 37 true).run Tryd.prog W = .ok (.tuple #[.agg #[.string ⟨#[]⟩, .bool false, .bool false], .bool false]) W := fun n d y W => by kernel_rfl
theorem tiSC : ∀ n d y W, (Instr.typeAssert (.iface 35 (.agg #[.string n, .bool d, .bool y])) 29 39 true).run Tryd.prog W = .ok (.tuple #[.agg #[.string ⟨#[]⟩, .bool false], .bool false]) W := fun n d y W => by kernel_rfl
theorem tiKS : ∀ n d y W, (Instr.typeAssert (.iface 37 (.agg #[.string n, .bool d, .bool y])) 29 35 true).run Tryd.prog W = .ok (.tuple #[.agg #[.string ⟨#[]⟩, .bool false, .bool false], .bool false]) W := fun n d y W => by kernel_rfl
theorem tiKK : ∀ n d y W, (Instr.typeAssert (.iface 37 (.agg #[.string n, .bool d, .bool y])) 29 37 true).run Tryd.prog W = .ok (.tuple #[.agg #[.string n, .bool d, .bool y], .bool true]) W := fun n d y W => by kernel_rfl
theorem tiKC : ∀ n d y W, (Instr.typeAssert (.iface 37 (.agg #[.string n, .bool d, .bool y])) 29 39 true).run Tryd.prog W = .ok (.tuple #[.agg #[.string ⟨#[]⟩, .bool false], .bool false]) W := fun n d y W => by kernel_rfl
theorem tiCS : ∀ n d W, (Instr.typeAssert (.iface 39 (.agg #[.string n, .bool d])) 29 35 true).run Tryd.prog W = .ok (.tuple #[.agg #[.string ⟨#[]⟩, .bool false, .bool false], .bool false]) W := fun n d W => by kernel_rfl
theorem tiCK : ∀ n d W, (Instr.typeAssert (.iface 39 (.agg #[.string n, .bool d])) 29 37 true).run Tryd.prog W = .ok (.tuple #[.agg #[.string ⟨#[]⟩, .bool false, .bool false], .bool false]) W := fun n d W => by kernel_rfl
theorem tiCC : ∀ n d W, (Instr.typeAssert (.iface 39 (.agg #[.string n, .bool d])) 29 39 true).run Tryd.prog W = .ok (.tuple #[.agg #[.string n, .bool d], .bool true]) W := fun n d W => by kernel_rfl
set_option maxHeartbeats 2000000 in
theorem nameFromS (w : World) (n : ByteArray) (hs : n.size ≤ maxLen) (d y : Bool) (hF : Reg n true 1 (.iface 35 (.agg #[.string n, .bool d, .bool y])) true) :
    Calls Tryd.prog 5 #[.string n] w fun e w' => e = .returned (.tuple #[.int .i64 0, .string n, .bool true]) ∧ Hold w w.heap.size w' [] := by
  have HF := Aside0.mk hF
  have t0 := tiSS
  clear hF
  go_enter Tryd.func5, Tryd.ntmps5
  go_wp2_with fail
  refine (keyFrom_hit _ n hs _ _ _ _ HF.out).mono ?_
  rintro e w1 ⟨rfl, hH⟩
  have HR := Aside0.mk hH
  clear hH
  go_wp2_with fail
  refine (strS_any _ n d y).mono ?_
  rintro e w2 ⟨rfl, rfl⟩
  go_wp2
  go_ret3
  trace_state
  exact ⟨rfl, (HR.out.alloc_ _).alloc_ _⟩
set_option maxHeartbeats 2000000 in
theorem nameFromK (w : World) (n : ByteArray) (hs : n.size ≤ maxLen) (d y : Bool) (hF : Reg n true 2 (.iface 37 (.agg #[.string n, .bool d, .bool y])) true) :
    Calls Tryd.prog 5 #[.string n] w fun e w' => e = .returned (.tuple #[.int .i64 1, .string n, .bool true]) ∧ Hold w w.heap.size w' [] := by
  have HF := Aside0.mk hF
  have t0 := tiKS
  have t1 := tiKK
  clear hF
  go_enter Tryd.func5, Tryd.ntmps5
  go_wp2_with fail
  refine (keyFrom_hit _ n hs _ _ _ _ HF.out).mono ?_
  rintro e w1 ⟨rfl, hH⟩
  have HR := Aside0.mk hH
  clear hH
  go_wp2_with fail
  refine (strK_any _ n d y).mono ?_
  rintro e w2 ⟨rfl, rfl⟩
  go_wp2
  go_ret3
  trace_state
  exact ⟨rfl, (HR.out.alloc_ _).alloc_ _⟩
set_option maxHeartbeats 2000000 in
theorem nameFromC (w : World) (n : ByteArray) (hs : n.size ≤ maxLen) (d : Bool) (hF : Reg n true 3 (.iface 39 (.agg #[.string n, .bool d])) true) :
    Calls Tryd.prog 5 #[.string n] w fun e w' => e = .returned (.tuple #[.int .i64 2, .string n, .bool true]) ∧ Hold w w.heap.size w' [] := by
  have HF := Aside0.mk hF
  have t0 := tiCS
  have t1 := tiCK
  have t2 := tiCC
  clear hF
  go_enter Tryd.func5, Tryd.ntmps5
  go_wp2_with fail
  refine (keyFrom_hit _ n hs _ _ _ _ HF.out).mono ?_
  rintro e w1 ⟨rfl, hH⟩
  have HR := Aside0.mk hH
  clear hH
  go_wp2_with fail
  refine (strC_any _ n d).mono ?_
  rintro e w2 ⟨rfl, rfl⟩
  go_wp2
  go_ret3
  trace_state
  exact ⟨rfl, (HR.out.alloc_ _).alloc_ _⟩
set_option maxHeartbeats 2000000 in
theorem nameFrom_miss (w : World) (n : ByteArray) (hs : n.size ≤ maxLen) (tE : TypeId) (vE : Value) (hE : w.cell? ⟨0, 0, none⟩ = some (.iface tE vE)) (hF : Reg n false 0 .nilIface false) :
    Calls Tryd.prog 5 #[.string n] w fun e w' => e = .returned (.tuple #[.int .i64 0, .string ⟨#[]⟩, .bool false]) ∧ Hold w w.heap.size w' [] := by
  have HF := Aside0.mk hF
  have HE := Aside0.mk hE
  clear hF hE
  go_enter Tryd.func5, Tryd.ntmps5
  go_wp2_with fail
  refine (keyFrom_miss _ n hs _ _ HE.out HF.out).mono ?_
  rintro e w1 ⟨rfl, hH⟩
  have HR := Aside0.mk hH
  clear hH
  go_wp2
  go_ret3
  exact ⟨rfl, HR.out⟩
end Go.Proofs.YticoiglamachfaaDoor
