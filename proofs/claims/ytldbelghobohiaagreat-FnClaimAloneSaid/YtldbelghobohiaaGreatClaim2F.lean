/-
  impl.Accepted, laws.claimAwake: their contracts.
-/
import Derived.Test.YtldbelghobohiaaGreatClaimF
namespace Go.Proofs.YtldbelghobohiaaGreat
open Go.RowKit Go.Proofs.YtldbelghobohiaaGreatW.PrintWords Go.ChangeShapes Go.WideShapes
set_option linter.unusedVariables false
set_option linter.unusedSimpArgs false
theorem info4 : (Tryz.prog.info? 4).map (fun i => (i.zero, i.size, i.bytes)) = some (some (.bool false), 1, 1) := by kernel_rfl
set_option maxRecDepth 100000 in
set_option maxHeartbeats 2000000 in
theorem accepted_any (w : World) (s : ByteArray) :
    Calls Tryz.prog 15 #[.agg #[.int .i64 0, .string s, .bool false, .int .i32 0, .slice none 0 0]] w fun e w' => ∃ v1, e = .returned (.tuple #[v1, .bool true]) ∧ Hold w w.heap.size w' [.row Kd.string 9 v1 [s]] := by
  have hu := Tryz.underlying28
  have HP := Aside0.mk (((Hold.start w).alloc_ (.cells #[.int .i64 0, .string s, .bool false, .int .i32 0, .slice none 0 0] 28)))
  have HN : Aside0 (Hold w w.heap.size ((w.alloc (.cells #[.int .i64 0, .string s, .bool false, .int .i32 0, .slice none 0 0] 28)).alloc (.cells #[.slice none 0 0] 57)) [.blk (w.heap.size + 1) (.cells #[.slice none 0 0] 57), .row Kd.string 9 (.slice none 0 0) [], .row Kd.string 9 (.slice none 0 0) []]) := ⟨by
    have h := ((HP.out.nil Kd.string 9).nil Kd.string 9).alloc (.cells #[.slice none 0 0] 57)
    rw [show (w.alloc (.cells #[.int .i64 0, .string s, .bool false, .int .i32 0, .slice none 0 0] 28)).heap.size = w.heap.size + 1 by simp] at h
    exact h⟩
  have HL : Aside0 (∀ W, LstIs W (.slice none 0 0) []) := ⟨fun W => ⟨none, 0, rfl, Nat.le_refl _, rfl, by decide, fun h => absurd h (Nat.lt_irrefl _)⟩⟩
  go_enter Tryz.func15, Tryz.ntmps15
  go_wp2_with fail
  refine (value_any _ (0, s, false, 0, []) (.slice none 0 0) (Nat.zero_le _) (HL.out _)).mono ?_
  rintro e w2 ⟨u, lv, ys, rfl, hI, hV⟩
  have HA := Aside0.mk ((HN.out.app hV).pick [1, 2, 0, 3] (by decide) (L' := [.blk (w.heap.size + 1) (.cells #[.slice none 0 0] 57), .row Kd.string 9 (.slice none 0 0) [], .row Kd.string 9 lv ys, .row Kd.string 9 (.slice none 0 0) []]) rfl)
  have HI := Aside0.mk hI
  clear hV hI
  go_wp2_with fail
  refine (accept_any _ _ (0, s, false, 0, []) u lv _ ys [] _ HI.out HA.out).mono ?_
  rintro e w3 ⟨r, l', rfl, hE, hH⟩
  have HH := Aside0.mk hH
  clear hH
  have hr : r = .nilIface := by
    have h : ErrIs r true := hE
    cases h
    rfl
  subst hr
  clear hE
  obtain ⟨hc, hf⟩ := HH.out.cell 0 rfl 0 (by simp)
  obtain ⟨A2, c2, rfl, hle2, hC2⟩ := HH.out.reads 1 rfl
  have HC2 := Aside0.mk hC2
  clear hC2
  go_wp2_with fail
  refine (get_any _ _).mono ?_
  rintro e w4 ⟨rfl, rfl⟩
  go_wp2_with fail
  refine (sclone_any _ A2 _ c2 _ (by show 1 * 16 ≤ 140737488355328; decide) HC2.out).mono ?_
  rintro e w5 ⟨v1, rfl, hS⟩
  have HS := Aside0.mk ((HH.out.app hS).pick [0] (by decide) (L' := [.row Kd.string 9 v1 [s]]) rfl)
  clear hS
  go_wp2
  go_ret2
  exact ⟨_, rfl, HS.out⟩
def sA : ByteArray := ⟨#[97]⟩
set_option maxRecDepth 100000 in
set_option maxHeartbeats 1000000 in
theorem claimAwake_any (w : World) :
    Calls Tryz.prog 8 #[] w fun e w' => e = .returned (.bool true) ∧ Hold w w.heap.size w' [] := by
  have hu := Tryz.underlying28
  go_enter Tryz.func8, Tryz.ntmps8
  go_wp2_with fail
  refine (accepted_any _ _).mono ?_
  rintro e w1 ⟨v1, rfl, hH⟩
  have HH := Aside0.mk hH
  clear hH
  obtain ⟨A2, c2, rfl, hle2, hC2⟩ := HH.out.reads 0 rfl
  have H1 := Aside0.mk ((HH.out.alloc_ (.cells #[.string sA] 9)).pick [] (by decide) (L' := []) rfl)
  have HC2 := Aside0.mk (Kd.C_below hC2 ((Hold.start w1).alloc_ (.cells #[.string sA] 9)).below)
  have HC3 := Aside0.mk (litS w1 9 _ rfl [sA] (by decide))
  clear hC2
  go_wp2_with fail
  refine (equal_str _ _ _ _ _ _ _ _ _ HC2.out HC3.out).mono ?_
  rintro e w2 ⟨rfl, n, rfl⟩
  have hd : (decide ([sA] = [sA])) = true := by simp
  go_wp2_with fail
  go_ret
  exact ⟨by simp [sA], H1.out.drewN n⟩
end Go.Proofs.YtldbelghobohiaaGreat
