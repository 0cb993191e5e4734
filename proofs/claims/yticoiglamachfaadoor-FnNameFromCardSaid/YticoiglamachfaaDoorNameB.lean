/-
  The builtin lists of algorithms: their contracts.
-/
import Derived.Test.YticoiglamachfaaDoorNameT
import Derived.Laws.MakeOwn
import Derived.Laws.Rows
import Derived.Laws.ResultCell
namespace Go.Proofs.YticoiglamachfaaDoor
open Go.RowKit Go.Proofs.YticoiglamachfaaDoorW.PrintWords Go.Lib
set_option linter.unusedVariables false
set_option linter.unusedSimpArgs false
theorem absW {P : Program} {w0 W : World} {B : Nat} {L : List Asrt} {ops : Array Oper} {rest : List Oper} {a : Act} {Q : Exit → Act → World → Prop} (hS : Hold w0 B W L) (h : ∀ w', Hold w0 B w' L → wpList P ops Q rest a w') : wpList P ops Q rest a W := h W hS
theorem Hold.stores {w0 : World} {B g t : Nat} {L : List Asrt} : ∀ (vs : List (Nat × Value)) {w : World} {cs : Array Value} (hS : Hold w0 B w (.blk g (.cells cs t (0, 0)) :: L)) (cs' : Array Value) (h : vs.foldl (fun c p => c.setIfInBounds p.1 p.2) cs = cs'),
    Hold w0 B (vs.foldl (fun w p => w.setCell ⟨g, p.1, none⟩ p.2) w) (.blk g (.cells cs' t (0, 0)) :: L)
  | [], w, cs, hS, cs', h => by
    rw [← show cs = cs' from h]
    exact hS
  | p :: r, w, cs, hS, cs', h => Hold.stores r (hS.store 0 rfl p.1 p.2) cs' h
theorem mkC : ∀ W, (Instr.makeSlice 69 (.int .i64 6) (.int .i64 6)).run Tryd.prog W = .ok (.slice (some ⟨W.heap.size, 0, none⟩) 6 6) (W.alloc (.cells #[.string ⟨#[]⟩, .bool false, .string ⟨#[]⟩, .bool false, .string ⟨#[]⟩, .bool false, .string ⟨#[]⟩, .bool false, .string ⟨#[]⟩, .bool false, .string ⟨#[]⟩, .bool false] 39)) := fun W => by
  obtain ⟨i, hi, hzz⟩ := Option.map_eq_some_iff.1 (show (Tryd.prog.info? 39).map (fun i => (i.zero, i.size, i.bytes)) = some (some (.agg #[.string ByteArray.empty, .bool false]), 2, 24) by kernel_rfl)
  simp only [Prod.mk.injEq] at hzz
  obtain ⟨hz, hs, hb⟩ := hzz
  have h := run_make (P := Tryd.prog) W 69 39 i (.agg #[.string ByteArray.empty, .bool false]) Tryd.underlying69 hi hz .i64 .i64 6 6 (by decide) (by decide) (by rw [hb]; decide) (by decide)
  rw [hs, show madeCells (Value.cells (.agg #[.string ByteArray.empty, .bool false])) ((6 : Int).toNat * 2) = #[.string ⟨#[]⟩, .bool false, .string ⟨#[]⟩, .bool false, .string ⟨#[]⟩, .bool false, .string ⟨#[]⟩, .bool false, .string ⟨#[]⟩, .bool false, .string ⟨#[]⟩, .bool false] by kernel_rfl] at h
  exact h
theorem newC_any (w : World) (s : ByteArray) : Calls Tryd.prog 39 #[.string s] w fun e w' => e = .returned (.agg #[.string s, .bool false]) ∧ w' = w.alloc (.cells #[.string s, .bool false] 39) := by
  go_enter Tryd.func39, Tryd.ntmps39
  go_wp2
  have hb := ((Hold.start w).alloc (.cells #[.string s, .bool false] 39)).blk 0 rfl
  refine bodyPost_ret (results_cell_row rfl _ _ w.heap.size 39 _ (0, 0) _ rfl hb Tryd.underlying39 rfl (by kernel_rfl)) rfl ?_
  exact ⟨rfl, rfl⟩
set_option maxRecDepth 100000 in
set_option maxHeartbeats 4000000 in
theorem listC_any (w : World) : Calls Tryd.prog 33 #[] w fun e w' => e = .returned (.slice (some ⟨w.heap.size, 0, none⟩) 6 6) ∧ Hold w w.heap.size w' [.blk w.heap.size (.cells (tabC.flatMap enc2).toArray 39 (0, 0))] := by
  have hmk := mkC
  go_enter Tryd.func33, Tryd.ntmps33
  go_wp2_with fail
  refine (newC_any _ _).mono ?_
  rintro e w' ⟨rfl, rfl⟩
  go_wp2_with fail
  refine (newC_any _ _).mono ?_
  rintro e w' ⟨rfl, rfl⟩
  go_wp2_with fail
  refine (newC_any _ _).mono ?_
  rintro e w' ⟨rfl, rfl⟩
  go_wp2_with fail
  refine (newC_any _ _).mono ?_
  rintro e w' ⟨rfl, rfl⟩
  go_wp2_with fail
  refine (newC_any _ _).mono ?_
  rintro e w' ⟨rfl, rfl⟩
  go_wp2_with fail
  refine (newC_any _ _).mono ?_
  rintro e w' ⟨rfl, rfl⟩
  go_wp2
  go_ret
  exact ⟨rfl, ((((((((Hold.start w).alloc (.cells (tabC.flatMap enc2).toArray 39)).alloc_ _).alloc_ _).alloc_ _).alloc_ _).alloc_ _).alloc_ _)⟩
theorem mkK : ∀ W, (Instr.makeSlice 71 (.int .i64 19) (.int .i64 19)).run Tryd.prog W = .ok (.slice (some ⟨W.heap.size, 0, none⟩) 19 19) (W.alloc (.cells #[.string ⟨#[]⟩, .bool false, .bool false, .string ⟨#[]⟩, .bool false, .bool false, .string ⟨#[]⟩, .bool false, .bool false, .string ⟨#[]⟩, .bool false, .bool false, .string ⟨#[]⟩, .bool false, .bool false, .string ⟨#[]⟩, .bool false, .bool false, .string ⟨#[]⟩, .bool false, .bool false, .string ⟨#[]⟩, .bool false, .bool false, .string ⟨#[]⟩, .bool false, .bool false, .string ⟨#[]⟩, .bool false, .bool false, .string ⟨#[]⟩, .bool false, .bool false, .string ⟨#[]⟩, .bool false, .bool false, .string ⟨#[]⟩, .bool false, .bool false, .string ⟨#[]⟩, .bool false, .bool false, .string ⟨#[]⟩, .bool false, .bool false, .string ⟨#[]⟩, .bool false, .bool false, .string ⟨#[]⟩, .bool false, .bool false, .string ⟨#[]⟩, .bool false, .bool false, .string ⟨#[]⟩, .bool false, .bool false] 37)) := fun W => by
  obtain ⟨i, hi, hzz⟩ := Option.map_eq_some_iff.1 (show (Tryd.prog.info? 37).map (fun i => (i.zero, i.size, i.bytes)) = some (some (.agg #[.string ByteArray.empty, .bool false, .bool false]), 3, 24) by kernel_rfl)
  simp only [Prod.mk.injEq] at hzz
  obtain ⟨hz, hs, hb⟩ := hzz
  have h := run_make (P := Tryd.prog) W 71 37 i (.agg #[.string ByteArray.empty, .bool false, .bool false]) Tryd.underlying71 hi hz .i64 .i64 19 19 (by decide) (by decide) (by rw [hb]; decide) (by decide)
  rw [hs, show madeCells (Value.cells (.agg #[.string ByteArray.empty, .bool false, .bool false])) ((19 : Int).toNat * 3) = #[.string ⟨#[]⟩, .bool false, .bool false, .string ⟨#[]⟩, .bool false, .bool false, .string ⟨#[]⟩, .bool false, .bool false, .string ⟨#[]⟩, .bool false, .bool false, .string ⟨#[]⟩, .bool false, .bool false, .string ⟨#[]⟩, .bool false, .bool false, .string ⟨#[]⟩, .bool false, .bool false, .string ⟨#[]⟩, .bool false, .bool false, .string ⟨#[]⟩, .bool false, .bool false, .string ⟨#[]⟩, .bool false, .bool false, .string ⟨#[]⟩, .bool false, .bool false, .string ⟨#[]⟩, .bool false, .bool false, .string ⟨#[]⟩, .bool false, .bool false, .string ⟨#[]⟩, .bool false, .bool false, .string ⟨#[]⟩, .bool false, .bool false, .string ⟨#[]⟩, .bool false, .bool false, .string ⟨#[]⟩, .bool false, .bool false, .string ⟨#[]⟩, .bool false, .bool false, .string ⟨#[]⟩, .bool false, .bool false] by kernel_rfl] at h
  exact h
theorem newK_any (w : World) (s : ByteArray) : Calls Tryd.prog 40 #[.string s] w fun e w' => e = .returned (.agg #[.string s, .bool false, .bool false]) ∧ w' = w.alloc (.cells #[.string s, .bool false, .bool false] 37) := by
  go_enter Tryd.func40, Tryd.ntmps40
  go_wp2
  have hb := ((Hold.start w).alloc (.cells #[.string s, .bool false, .bool false] 37)).blk 0 rfl
  refine bodyPost_ret (results_cell_row rfl _ _ w.heap.size 37 _ (0, 0) _ rfl hb Tryd.underlying37 rfl (by kernel_rfl)) rfl ?_
  exact ⟨rfl, rfl⟩
set_option maxRecDepth 100000 in
set_option maxHeartbeats 4000000 in
theorem listK_any (w : World) : Calls Tryd.prog 34 #[] w fun e w' => e = .returned (.slice (some ⟨w.heap.size, 0, none⟩) 19 19) ∧ Hold w w.heap.size w' [.blk w.heap.size (.cells (tabK.flatMap enc3).toArray 37 (0, 0))] := by
  have hmk := mkK
  go_enter Tryd.func34, Tryd.ntmps34
  go_wp2_with fail
  refine (newK_any _ _).mono ?_
  rintro e w' ⟨rfl, rfl⟩
  go_wp2_with fail
  refine (newK_any _ _).mono ?_
  rintro e w' ⟨rfl, rfl⟩
  go_wp2_with fail
  refine (newK_any _ _).mono ?_
  rintro e w' ⟨rfl, rfl⟩
  go_wp2_with fail
  refine (newK_any _ _).mono ?_
  rintro e w' ⟨rfl, rfl⟩
  go_wp2_with fail
  refine (newK_any _ _).mono ?_
  rintro e w' ⟨rfl, rfl⟩
  go_wp2_with fail
  refine (newK_any _ _).mono ?_
  rintro e w' ⟨rfl, rfl⟩
  go_wp2_with fail
  refine (newK_any _ _).mono ?_
  rintro e w' ⟨rfl, rfl⟩
  go_wp2_with fail
  refine (newK_any _ _).mono ?_
  rintro e w' ⟨rfl, rfl⟩
  go_wp2
  go_ret
  exact ⟨rfl, ((((((((((Hold.start w).alloc (.cells (tabK.flatMap enc3).toArray 37)).alloc_ _).alloc_ _).alloc_ _).alloc_ _).alloc_ _).alloc_ _).alloc_ _).alloc_ _)⟩
theorem mkS : ∀ W, (Instr.makeSlice 73 (.int .i64 16) (.int .i64 16)).run Tryd.prog W = .ok (.slice (some ⟨W.heap.size, 0, none⟩) 16 16) (W.alloc (.cells #[.string ⟨#[]⟩, .bool false, .bool false, .string ⟨#[]⟩, .bool false, .bool false, .string ⟨#[]⟩, .bool false, .bool false, .string ⟨#[]⟩, .bool false, .bool false, .string ⟨#[]⟩, .bool false, .bool false, .string ⟨#[]⟩, .bool false, .bool false, .string ⟨#[]⟩, .bool false, .bool false, .string ⟨#[]⟩, .bool false, .bool false, .string ⟨#[]⟩, .bool false, .bool false, .string ⟨#[]⟩, .bool false, .bool false, .string ⟨#[]⟩, .bool false, .bool false, .string ⟨#[]⟩, .bool false, .bool false, .string ⟨#[]⟩, .bool false, .bool false, .string ⟨#[]⟩, .bool false, .bool false, .string ⟨#[]⟩, .bool false, .bool false, .string ⟨#[]⟩, .bool false, .bool false] 35)) := fun W => by
  obtain ⟨i, hi, hzz⟩ := Option.map_eq_some_iff.1 (show (Tryd.prog.info? 35).map (fun i => (i.zero, i.size, i.bytes)) = some (some (.agg #[.string ByteArray.empty, .bool false, .bool false]), 3, 24) by kernel_rfl)
  simp only [Prod.mk.injEq] at hzz
  obtain ⟨hz, hs, hb⟩ := hzz
  have h := run_make (P := Tryd.prog) W 73 35 i (.agg #[.string ByteArray.empty, .bool false, .bool false]) Tryd.underlying73 hi hz .i64 .i64 16 16 (by decide) (by decide) (by rw [hb]; decide) (by decide)
  rw [hs, show madeCells (Value.cells (.agg #[.string ByteArray.empty, .bool false, .bool false])) ((16 : Int).toNat * 3) = #[.string ⟨#[]⟩, .bool false, .bool false, .string ⟨#[]⟩, .bool false, .bool false, .string ⟨#[]⟩, .bool false, .bool false, .string ⟨#[]⟩, .bool false, .bool false, .string ⟨#[]⟩, .bool false, .bool false, .string ⟨#[]⟩, .bool false, .bool false, .string ⟨#[]⟩, .bool false, .bool false, .string ⟨#[]⟩, .bool false, .bool false, .string ⟨#[]⟩, .bool false, .bool false, .string ⟨#[]⟩, .bool false, .bool false, .string ⟨#[]⟩, .bool false, .bool false, .string ⟨#[]⟩, .bool false, .bool false, .string ⟨#[]⟩, .bool false, .bool false, .string ⟨#[]⟩, .bool false, .bool false, .string ⟨#[]⟩, .bool false, .bool false, .string ⟨#[]⟩, .bool false, .bool false] by kernel_rfl] at h
  exact h
theorem newS_any (w : World) (s : ByteArray) : Calls Tryd.prog 41 #[.string s] w fun e w' => e = .returned (.agg #[.string s, .bool false, .bool false]) ∧ w' = w.alloc (.cells #[.string s, .bool false, .bool false] 35) := by
  go_enter Tryd.func41, Tryd.ntmps41
  go_wp2
  have hb := ((Hold.start w).alloc (.cells #[.string s, .bool false, .bool false] 35)).blk 0 rfl
  refine bodyPost_ret (results_cell_row rfl _ _ w.heap.size 35 _ (0, 0) _ rfl hb Tryd.underlying35 rfl (by kernel_rfl)) rfl ?_
  exact ⟨rfl, rfl⟩
set_option maxRecDepth 100000 in
set_option maxHeartbeats 4000000 in
theorem listS_any (w : World) : Calls Tryd.prog 35 #[] w fun e w' => e = .returned (.slice (some ⟨w.heap.size, 0, none⟩) 16 16) ∧ Hold w w.heap.size w' [.blk w.heap.size (.cells (tabS.flatMap enc3).toArray 35 (0, 0))] := by
  have hmk := mkS
  go_enter Tryd.func35, Tryd.ntmps35
  go_wp2_with fail
  refine (newS_any _ _).mono ?_
  rintro e w' ⟨rfl, rfl⟩
  go_wp2_with fail
  refine (newS_any _ _).mono ?_
  rintro e w' ⟨rfl, rfl⟩
  go_wp2_with fail
  refine (newS_any _ _).mono ?_
  rintro e w' ⟨rfl, rfl⟩
  go_wp2_with fail
  refine (newS_any _ _).mono ?_
  rintro e w' ⟨rfl, rfl⟩
  go_wp2_with fail
  refine (newS_any _ _).mono ?_
  rintro e w' ⟨rfl, rfl⟩
  go_wp2_with fail
  refine (newS_any _ _).mono ?_
  rintro e w' ⟨rfl, rfl⟩
  go_wp2_with fail
  refine (newS_any _ _).mono ?_
  rintro e w' ⟨rfl, rfl⟩
  go_wp2_with fail
  refine (newS_any _ _).mono ?_
  rintro e w' ⟨rfl, rfl⟩
  go_wp2_with fail
  refine (newS_any _ _).mono ?_
  rintro e w' ⟨rfl, rfl⟩
  go_wp2_with fail
  refine (newS_any _ _).mono ?_
  rintro e w' ⟨rfl, rfl⟩
  go_wp2_with fail
  refine (newS_any _ _).mono ?_
  rintro e w' ⟨rfl, rfl⟩
  go_wp2_with fail
  refine (newS_any _ _).mono ?_
  rintro e w' ⟨rfl, rfl⟩
  go_wp2
  go_ret
  exact ⟨rfl, ((((((((((((((Hold.start w).alloc (.cells (tabS.flatMap enc3).toArray 35)).alloc_ _).alloc_ _).alloc_ _).alloc_ _).alloc_ _).alloc_ _).alloc_ _).alloc_ _).alloc_ _).alloc_ _).alloc_ _).alloc_ _)⟩
end Go.Proofs.YticoiglamachfaaDoor
