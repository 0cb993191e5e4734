/-
  encoding/base64: WithPadding; zzRawURL, zzURL, zzRawStd, zzStdPadded: their contracts.
-/
import Derived.Test.YtlncbbmmlhammaaDoorEnc2
import Derived.Laws.Rows
namespace Go.Proofs.YtlncbbmmlhammaaDoor
open Go.RowKit Go.Proofs.YtlncbbmmlhammaaDoorW.PrintWords Go.Lib
set_option linter.unusedVariables false
set_option linter.unusedSimpArgs false
set_option maxRecDepth 100000 in
set_option maxHeartbeats 2000000 in
theorem withPad_any (w : World) (enc dec : List UInt8) (h1 : enc.length = 64) (h2 : dec.length = 256) :
    Calls Tryd.prog 29 #[.agg (ecells enc dec 61), .int .i32 (-1)] w fun e w' => e = .returned (.pointer (some ⟨w.heap.size, 0, none⟩)) ∧ Hold w w.heap.size w' [.blk w.heap.size (.cells (ecells enc dec (-1)) 70)] := by
  have h3 := ecells_atP enc dec 61 h1 h2
  have HE := Aside0.mk (ecells_pad enc dec h1 h2 61 (-1))
  clear h1 h2
  have hu := Tryd.underlying70
  generalize ecells enc dec 61 = cs at *
  go_enter Tryd.func29, Tryd.ntmps29
  go_wp2
  go_ret
  rw [HE.out]
  exact ⟨rfl, (Hold.start w).alloc _⟩
def letU : List UInt8 := [65, 66, 67, 68, 69, 70, 71, 72, 73, 74, 75, 76, 77, 78, 79, 80, 81, 82, 83, 84, 85, 86, 87, 88, 89, 90, 97, 98, 99, 100, 101, 102, 103, 104, 105, 106, 107, 108, 109, 110, 111, 112, 113, 114, 115, 116, 117, 118, 119, 120, 121, 122, 48, 49, 50, 51, 52, 53, 54, 55, 56, 57, 45, 95]
def letS : List UInt8 := [65, 66, 67, 68, 69, 70, 71, 72, 73, 74, 75, 76, 77, 78, 79, 80, 81, 82, 83, 84, 85, 86, 87, 88, 89, 90, 97, 98, 99, 100, 101, 102, 103, 104, 105, 106, 107, 108, 109, 110, 111, 112, 113, 114, 115, 116, 117, 118, 119, 120, 121, 122, 48, 49, 50, 51, 52, 53, 54, 55, 56, 57, 43, 47]
def alphaB (s : List UInt8) : Bool := s.length == 64 && (List.range 64).all fun k => (s.getD k 0 != 10 && s.getD k 0 != 13) && (decN s k).getD (s.getD k 0).toNat 0 == 255
theorem alpha_of {s : List UInt8} (h : alphaB s = true) : Alpha s := by
  unfold alphaB at h
  simp only [Bool.and_eq_true, beq_iff_eq, List.all_eq_true, List.mem_range, bne_iff_ne] at h
  exact ⟨h.1, fun k hk => h.2 k hk⟩
theorem alphaU : Alpha letU := alpha_of (by decide +kernel)
theorem alphaS : Alpha letS := alpha_of (by decide +kernel)
def letX (url : Bool) : List UInt8 := if url then letU else letS
def decX (url : Bool) : List UInt8 := decN (letX url) 64
def encX (url : Bool) (pad : Int) : Array Value := ecells (letX url) (decX url) pad
theorem letX_len (url : Bool) : (letX url).length = 64 := by cases url <;> rfl
theorem decX_len (url : Bool) : (decX url).length = 256 := decN_len _ _
/-- What a function that makes an encoding gives. -/
def Makes (url : Bool) (pad : Int) (w : World) (e : Ending) (w' : World) : Prop := ∃ g, e = .returned (.pointer (some ⟨g, 0, none⟩)) ∧ Hold w w.heap.size w' [.blk g (.cells (encX url pad) 70)]
set_option maxRecDepth 100000 in
set_option maxHeartbeats 2000000 in
theorem rawURL_any (w : World) : Calls Tryd.prog 27 #[] w (Makes true (-1) w) := by
  go_enter Tryd.func27, Tryd.ntmps27
  go_wp2_with fail
  refine (newEnc_any _ ⟨letU.toArray⟩ alphaU).mono ?_
  rintro e w1 ⟨rfl, hH⟩
  have H1 := Aside0.mk hH
  clear hH
  go_wp2_with ((with_reducible refine at_dst (N := 3) rfl ?_); refine wpList_load_row rfl 70 (.tmp 2) rfl _ rfl _ _ _ _ (H1.out.blk 0 rfl) Tryd.underlying70 rfl (by rw [ecells_size alphaU.len (decN_len _ _)]; kernel_rfl) ?_)
  refine (withPad_any _ _ _ alphaU.len (decN_len _ _)).mono ?_
  rintro e w2 ⟨rfl, hH⟩
  have H2 := Aside0.mk ((H1.out.app hH).pick [0] (by decide) (L' := [.blk w1.heap.size (.cells (encX true (-1)) 70)]) rfl)
  clear hH
  go_wp2
  go_ret
  exact ⟨_, rfl, H2.out⟩
set_option maxRecDepth 100000 in
set_option maxHeartbeats 2000000 in
theorem rawStd_any (w : World) : Calls Tryd.prog 61 #[] w (Makes false (-1) w) := by
  go_enter Tryd.func61, Tryd.ntmps61
  go_wp2_with fail
  refine (newEnc_any _ ⟨letS.toArray⟩ alphaS).mono ?_
  rintro e w1 ⟨rfl, hH⟩
  have H1 := Aside0.mk hH
  clear hH
  go_wp2_with ((with_reducible refine at_dst (N := 3) rfl ?_); refine wpList_load_row rfl 70 (.tmp 2) rfl _ rfl _ _ _ _ (H1.out.blk 0 rfl) Tryd.underlying70 rfl (by rw [ecells_size alphaS.len (decN_len _ _)]; kernel_rfl) ?_)
  refine (withPad_any _ _ _ alphaS.len (decN_len _ _)).mono ?_
  rintro e w2 ⟨rfl, hH⟩
  have H2 := Aside0.mk ((H1.out.app hH).pick [0] (by decide) (L' := [.blk w1.heap.size (.cells (encX false (-1)) 70)]) rfl)
  clear hH
  go_wp2
  go_ret
  exact ⟨_, rfl, H2.out⟩
set_option maxRecDepth 100000 in
set_option maxHeartbeats 2000000 in
theorem url_any (w : World) : Calls Tryd.prog 60 #[] w (Makes true 61 w) := by
  go_enter Tryd.func60, Tryd.ntmps60
  go_wp2_with fail
  refine (newEnc_any _ ⟨letU.toArray⟩ alphaU).mono ?_
  rintro e w1 ⟨rfl, hH⟩
  have H1 := Aside0.mk hH
  clear hH
  go_wp2
  go_ret
  exact ⟨_, rfl, H1.out⟩
set_option maxRecDepth 100000 in
set_option maxHeartbeats 2000000 in
theorem std_any (w : World) : Calls Tryd.prog 62 #[] w (Makes false 61 w) := by
  go_enter Tryd.func62, Tryd.ntmps62
  go_wp2_with fail
  refine (newEnc_any _ ⟨letS.toArray⟩ alphaS).mono ?_
  rintro e w1 ⟨rfl, hH⟩
  have H1 := Aside0.mk hH
  clear hH
  go_wp2
  go_ret
  exact ⟨_, rfl, H1.out⟩
end Go.Proofs.YtlncbbmmlhammaaDoor
