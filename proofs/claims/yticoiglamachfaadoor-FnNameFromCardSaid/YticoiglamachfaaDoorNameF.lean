/-
  impl.NameFound of three kinds: its contracts.
-/
import Derived.Test.YticoiglamachfaaDoorNameL
namespace Go.Proofs.YticoiglamachfaaDoor
open Go.RowKit Go.Proofs.YticoiglamachfaaDoorW.PrintWords Go.Lib
set_option linter.unusedVariables false
set_option linter.unusedSimpArgs false
theorem results_tmp4 {fn : Func} {t u v x : Tmp} (h : fn.results = #[.tmp t, .tmp u, .tmp v, .tmp x]) (tmps : Array Value) (P : Program) (w : World) :
    (results fn tmps).run P w = .ok (.tuple #[tmps.getD t undef, tmps.getD u undef, tmps.getD v undef, tmps.getD x undef]) w := by
  simp [results, h]
theorem depS_any (w : World) (s : ByteArray) (d y : Bool) : Calls Tryd.prog 12 #[.agg #[.string s, .bool d, .bool y]] w fun e w' => e = .returned (.bool d) ∧ w' = w.alloc (.cells #[.string s, .bool d, .bool y] 35) := by
  go_enter Tryd.func12, Tryd.ntmps12
  go_wp2
  go_ret
  exact ⟨rfl, rfl⟩
theorem symS_any (w : World) (s : ByteArray) (d y : Bool) : Calls Tryd.prog 13 #[.agg #[.string s, .bool d, .bool y]] w fun e w' => e = .returned (.bool y) ∧ w' = w.alloc (.cells #[.string s, .bool d, .bool y] 35) := by
  go_enter Tryd.func13, Tryd.ntmps13
  go_wp2
  go_ret
  exact ⟨rfl, rfl⟩
theorem depK_any (w : World) (s : ByteArray) (d y : Bool) : Calls Tryd.prog 15 #[.agg #[.string s, .bool d, .bool y]] w fun e w' => e = .returned (.bool d) ∧ w' = w.alloc (.cells #[.string s, .bool d, .bool y] 37) := by
  go_enter Tryd.func15, Tryd.ntmps15
  go_wp2
  go_ret
  exact ⟨rfl, rfl⟩
theorem symK_any (w : World) (s : ByteArray) (d y : Bool) : Calls Tryd.prog 16 #[.agg #[.string s, .bool d, .bool y]] w fun e w' => e = .returned (.bool y) ∧ w' = w.alloc (.cells #[.string s, .bool d, .bool y] 37) := by
  go_enter Tryd.func16, Tryd.ntmps16
  go_wp2
  go_ret
  exact ⟨rfl, rfl⟩
theorem depC_any (w : World) (s : ByteArray) (d : Bool) : Calls Tryd.prog 18 #[.agg #[.string s, .bool d]] w fun e w' => e = .returned (.bool d) ∧ w' = w.alloc (.cells #[.string s, .bool d] 39) := by
  go_enter Tryd.func18, Tryd.ntmps18
  go_wp2
  go_ret
  exact ⟨rfl, rfl⟩
set_option maxHeartbeats 4000000 in
theorem foundS (w : World) (s : ByteArray) (n : ByteArray) (d y b : Bool) (hL : Calls Tryd.prog 11 #[.string s] w fun e w' => e = .returned (.tuple #[.agg #[.string n, .bool d, .bool y], .bool b]) ∧ Hold w w.heap.size w' []) :
    Calls Tryd.prog 6 #[.int .i64 0, .string s] w fun e w' => e = .returned (.tuple #[.string n, .bool d, .bool y, .bool b]) ∧ Hold w w.heap.size w' [] := by
  go_enter Tryd.func6, Tryd.ntmps6
  go_wp2_with fail
  refine hL.mono ?_
  rintro e w1 ⟨rfl, hH⟩
  have HR := Aside0.mk (((hH.alloc_ (.cells #[.string n, .bool d, .bool y] 35))))
  clear hH
  go_wp2
  go_region_law (go_simp; first | (go_at_call 8; refine (strS_any _ n d y).mono ?_; rintro e w2 ⟨rfl, rfl⟩) | (go_at_call 12; refine (depS_any _ n d y).mono ?_; rintro e w2 ⟨rfl, rfl⟩) | (go_at_call 13; refine (symS_any _ n d y).mono ?_; rintro e w2 ⟨rfl, rfl⟩))
  all_goals (go_wp2; ((try simp only [Exit.inBlock, Exit.then]); refine bodyPost_ret (results_tmp4 rfl _ _ _) rfl ?_); refine ⟨by kernel_rfl, ?_⟩; exact (((HR.out.alloc_ _).alloc_ _).alloc_ _).drew)
set_option maxHeartbeats 4000000 in
theorem foundK (w : World) (s : ByteArray) (n : ByteArray) (d y b : Bool) (hL : Calls Tryd.prog 14 #[.string s] w fun e w' => e = .returned (.tuple #[.agg #[.string n, .bool d, .bool y], .bool b]) ∧ Hold w w.heap.size w' []) :
    Calls Tryd.prog 6 #[.int .i64 1, .string s] w fun e w' => e = .returned (.tuple #[.string n, .bool d, .bool y, .bool b]) ∧ Hold w w.heap.size w' [] := by
  go_enter Tryd.func6, Tryd.ntmps6
  go_wp2_with fail
  refine hL.mono ?_
  rintro e w1 ⟨rfl, hH⟩
  have HR := Aside0.mk (((hH.alloc_ (.cells #[.string n, .bool d, .bool y] 37))))
  clear hH
  go_wp2
  go_region_law (go_simp; first | (go_at_call 9; refine (strK_any _ n d y).mono ?_; rintro e w2 ⟨rfl, rfl⟩) | (go_at_call 15; refine (depK_any _ n d y).mono ?_; rintro e w2 ⟨rfl, rfl⟩) | (go_at_call 16; refine (symK_any _ n d y).mono ?_; rintro e w2 ⟨rfl, rfl⟩))
  all_goals (go_wp2; ((try simp only [Exit.inBlock, Exit.then]); refine bodyPost_ret (results_tmp4 rfl _ _ _) rfl ?_); refine ⟨by kernel_rfl, ?_⟩; exact (((HR.out.alloc_ _).alloc_ _).alloc_ _).drew)
set_option maxHeartbeats 4000000 in
theorem foundC (w : World) (s : ByteArray) (n : ByteArray) (d b : Bool) (hL : Calls Tryd.prog 17 #[.string s] w fun e w' => e = .returned (.tuple #[.agg #[.string n, .bool d], .bool b]) ∧ Hold w w.heap.size w' []) :
    Calls Tryd.prog 6 #[.int .i64 2, .string s] w fun e w' => e = .returned (.tuple #[.string n, .bool d, .bool false, .bool b]) ∧ Hold w w.heap.size w' [] := by
  go_enter Tryd.func6, Tryd.ntmps6
  go_wp2_with fail
  refine hL.mono ?_
  rintro e w1 ⟨rfl, hH⟩
  have HR := Aside0.mk (((hH.alloc_ (.cells #[.string n, .bool d] 39))))
  clear hH
  go_wp2
  go_region_law (go_simp; first | (go_at_call 10; refine (strC_any _ n d).mono ?_; rintro e w2 ⟨rfl, rfl⟩) | (go_at_call 18; refine (depC_any _ n d).mono ?_; rintro e w2 ⟨rfl, rfl⟩))
  all_goals (go_wp2; ((try simp only [Exit.inBlock, Exit.then]); refine bodyPost_ret (results_tmp4 rfl _ _ _) rfl ?_); refine ⟨by kernel_rfl, ?_⟩; exact (((HR.out.alloc_ _).alloc_ _)).drew)
end Go.Proofs.YticoiglamachfaaDoor
