/-
  encoding/base64: DecodedLen; Decode of three letters without padding: their contracts. (Under way.)
-/
import Derived.Test.YtlncbbmmlhammaaDoorQuant3
namespace Go.Proofs.YtlncbbmmlhammaaDoor
open Go.RowKit Go.Proofs.YtlncbbmmlhammaaDoorW.PrintWords Go.Lib
set_option linter.unusedVariables false
set_option linter.unusedSimpArgs false
def decLen (p : Int) (n : Nat) : Nat := if p = -1 then n / 4 * 3 + n % 4 * 6 / 8 else n / 4 * 3
set_option maxRecDepth 100000 in
set_option maxHeartbeats 1000000 in
theorem decodedLen_any (w : World) (p : Int) (n : Nat) (hn : n ≤ 1000000000) :
    Calls Tryd.prog 63 #[.int .i64 n, .int .i32 p] w fun e w' => e = .returned (.int .i64 (decLen p n : Nat)) ∧ w = w' := by
  by_cases hp : p = -1
  · subst hp
    have HE : Aside0 (decLen (-1) n = n / 4 * 3 + n % 4 * 6 / 8) := ⟨rfl⟩
    go_enter Tryd.func63, Tryd.ntmps63
    go_wp2
    go_ret
    refine ⟨?_, rfl⟩
    rw [HE.out]
    go_num
  · have HE : Aside0 (decLen p n = n / 4 * 3) := ⟨if_neg hp⟩
    have hb : (p == -1) = false := by simpa using hp
    clear hp
    go_enter Tryd.func63, Tryd.ntmps63
    go_wp2
    go_ret
    refine ⟨?_, rfl⟩
    rw [HE.out]
    go_num
theorem decodedLenM_any {w0 : World} {B : Nat} {L : List Asrt} (w : World) (url : Bool) (p : Int) (g n : Nat) (hn : n ≤ 1000000000) (H : Hold w0 B w (.blk g (.cells (encX url p) 70) :: L)) :
    Calls Tryd.prog 48 #[.pointer (some ⟨g, 0, none⟩), .int .i64 n] w fun e w' => e = .returned (.int .i64 (decLen p n : Nat)) ∧ w = w' := by
  have hp := (H.cellq 0 rfl 320 _ (ecells_atP _ _ _ (letX_len url) (decX_len url))).1
  have hu := Tryd.underlying70
  clear H
  go_enter Tryd.func48, Tryd.ntmps48
  go_wp2_with fail
  refine (decodedLen_any _ p n hn).mono ?_
  rintro e w1 ⟨rfl, rfl⟩
  obtain ⟨m, hm⟩ : ∃ m, m = decLen p n := ⟨_, rfl⟩
  rw [← hm]
  have HM := Aside0.mk hm
  clear hm
  go_wp2
  go_ret
  exact ⟨by rw [← HM.out]; rfl, rfl⟩
set_option maxRecDepth 100000 in
set_option maxHeartbeats 2000000 in
theorem dec3_any {w0 : World} {B : Nat} {L : List Asrt} (w : World) (url : Bool) (g gd b o c cap t : Nat) (ts : List UInt8) (cs : Array Value)
    (hfit : 2 ≤ cs.size) (hne : g ≠ gd) (H : Hold w0 B w (.blk g (.cells (encX url (-1)) 70) :: .blk gd (.cells cs t) :: L))
    (hC : kB.C w (some ⟨b, o, none⟩) 3 ts) (x y z : UInt8) (hx : ts[0]? = some x) (hy : ts[0 + 1]? = some y) (hz : ts[0 + 2]? = some z)
    (vx : dX url x ≠ 255) (vy : dX url y ≠ 255) (vz : dX url z ≠ 255) :
    Calls Tryd.prog 47 #[.pointer (some ⟨g, 0, none⟩), .slice (some ⟨gd, 0, none⟩) 2 cap, .slice (some ⟨b, o, none⟩) 3 c] w fun e w' => e = .returned (.tuple #[.int .i64 2, .nilIface]) ∧
      ∃ cs', Wrote cs cs' 0 [byA (dX url x) (dX url y), byB (dX url y) (dX url z)] ∧ Hold w0 B w' (.blk g (.cells (encX url (-1)) 70) :: .blk gd (.cells cs' t) :: L) := by
  have HH := Aside0.mk H
  have HRg := Aside0.mk H.rangeD
  have HSz := Aside0.mk (sizeD url)
  have HC := Aside0.mk hC
  have HX := Aside0.mk hx
  have HY := Aside0.mk hy
  have HZ := Aside0.mk hz
  have HVx := Aside0.mk vx
  have HVy := Aside0.mk vy
  have HVz := Aside0.mk vz
  have hu79 := Tryd.underlying70
  clear H hC hx hy hz vx vy vz
  go_enter Tryd.func47, Tryd.ntmps47
  go_wp2_with ((with_reducible refine at_dst (N := 24) rfl ?_); refine wpList_load_mid rfl 68 (.tmp 23) rfl g 64 rfl ((decX url).map bV) _ HRg.out Tryd.underlying68 rfl HSz.out ?_)
  refine wp_loop_rounds 1 ?_
  rw [rounds_succ]
  go_wp2
  refine wp_loop_rounds 1 ?_
  rw [rounds_succ]
  go_wp2
  refine wp_loop_rounds 2 ?_
  rw [rounds_succ]
  go_wp2_with fail
  refine (quant3_any (w0 := w0) (B := B) (L := L) w url g gd 0 b o 3 c 2 cap t 0 (some ⟨gd, 0, none⟩) ts cs (by decide) rfl (Nat.le_refl _) (by omega) hne HH.out HC.out rfl x y z HX.out HY.out HZ.out HVx.out HVy.out HVz.out).mono ?_
  rintro e w1 ⟨rfl, cs', hW, hH⟩
  have H1 := Aside0.mk hH
  have HW := Aside0.mk hW
  clear hH hW
  go_wp2
  rw [rounds_succ]
  go_wp2
  go_ret2
  exact ⟨rfl, cs', HW.out, H1.out⟩
end Go.Proofs.YtlncbbmmlhammaaDoor
