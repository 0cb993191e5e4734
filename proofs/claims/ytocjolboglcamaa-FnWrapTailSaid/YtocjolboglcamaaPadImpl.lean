/-
  impl.Padded, impl.Unpadded, spec.WrapPadded, laws.padAwake: the walks.
-/
import Derived.Test.YtocjolboglcamaaPad
import Derived.Test.YtocjolboglcamaaUnpad
import Derived.Test.YtocjolboglcamaaSame
import Derived.Test.YtocjolboglcamaaShort
namespace Go.Proofs.Ytocjolboglcamaa
open Go.RowKit Go.Proofs.YtocjolboglcamaaW.PrintWords
set_option linter.unusedVariables false
set_option linter.unusedSimpArgs false
set_option maxHeartbeats 1000000 in
theorem Pad_any (w : World) (A : Option Addr) (n c : Nat) (xs : List UInt8) (b : Nat) (hn : n ≤ 4000) (hb0 : 0 < b) (hb1 : b ≤ 255) (hC : kB.C w A n xs) :
    Calls Try.prog 27 #[.slice A n c, .int .i64 (b : Int)] w fun e w' => ∃ v, e = .returned v ∧ Hold w w.heap.size w' [.row kB 5 v (padded xs b)] := by
  have HC := Aside0.mk hC
  clear hC
  go_enter Try.func27, Try.ntmps27
  go_wp2_with fail
  refine (pad_any _ A _ c xs b hn hb0 hb1 HC.out).mono ?_
  rintro e w1 ⟨v, rfl, hR⟩
  have HR := Aside0.mk hR
  clear hR
  go_wp2
  go_ret
  exact ⟨_, rfl, HR.out⟩
set_option maxHeartbeats 1000000 in
theorem Padded_any (w : World) (A : Option Addr) (n c : Nat) (xs : List UInt8) (b : Nat) (hn : n ≤ 4000) (hb0 : 0 < b) (hb1 : b ≤ 255) (hC : kB.C w A n xs) :
    Calls Try.prog 16 #[.slice A n c, .int .i64 (b : Int)] w fun e w' => ∃ v, e = .returned v ∧ Hold w w.heap.size w' [.row kB 5 v (padded xs b)] := by
  obtain rfl := hC.1
  have HC := Aside0.mk hC
  clear hC
  have t1 : decide ((b : Int) < 1) = false := decide_eq_false (by omega)
  have t2 : decide (255 < (b : Int)) = false := decide_eq_false (by omega)
  go_enter Try.func16, Try.ntmps16
  go_wp2_with fail
  refine (bclone_any _ A _ c xs (by omega) HC.out).mono ?_
  rintro e w1 ⟨v, rfl, hR⟩
  obtain ⟨A1, c1, rfl, _, hC1⟩ := hR.reads 0 rfl
  have HR := Aside0.mk hR
  have HC1 := Aside0.mk hC1
  clear hR hC1
  go_wp2_with fail
  refine (Pad_any _ A1 _ c1 xs b hn hb0 hb1 HC1.out).mono ?_
  rintro e w2 ⟨v, rfl, hR⟩
  have H2 := Aside0.mk ((HR.out.app hR).pick [0] (by decide) (L' := [.row kB 5 v (padded xs b)]) rfl)
  clear hR HR HC1
  go_wp2
  go_ret
  exact ⟨_, rfl, H2.out⟩
set_option maxHeartbeats 1000000 in
theorem Extract_any (w : World) (A : Option Addr) (n c : Nat) (xs : List UInt8) (m : Nat) (hm : xs.length = m + 1) (hn : n ≤ 5000) (hC : kB.C w A n xs) :
    Calls Try.prog 29 #[.slice A n c] w fun e w' => e = .returned (.tuple #[.int .i64 (exN xs m), .int .u8 (exV xs m)]) ∧ w = w' := by
  have HC := Aside0.mk hC
  have HM := Aside0.mk hm
  clear hC hm
  go_enter Try.func29, Try.ntmps29
  go_wp2_with fail
  refine (extract_any _ A _ c xs m HM.out hn HC.out).mono ?_
  rintro e w1 ⟨rfl, rfl⟩
  go_wp2
  go_ret2
  exact ⟨rfl, rfl⟩
set_option maxHeartbeats 1000000 in
theorem Unpadded_any (w : World) (A : Option Addr) (n c : Nat) (xs : List UInt8) (m : Nat) (hm : xs.length = m + 1) (hn : n ≤ 5000) (hC : kB.C w A n xs) :
    Calls Try.prog 18 #[.slice A n c] w fun e w' => e = .returned (.tuple #[.int .i64 (exN xs m), .bool (exV xs m == 255)]) ∧ Hold w w.heap.size w' [] := by
  obtain rfl := hC.1
  have HC := Aside0.mk hC
  have HM := Aside0.mk hm
  clear hC hm
  go_enter Try.func18, Try.ntmps18
  go_wp2_with fail
  refine (bclone_any _ A _ c xs (by omega) HC.out).mono ?_
  rintro e w1 ⟨v, rfl, hR⟩
  obtain ⟨A1, c1, rfl, _, hC1⟩ := hR.reads 0 rfl
  have HR := Aside0.mk hR
  have HC1 := Aside0.mk hC1
  clear hR hC1
  go_wp2_with fail
  refine (Extract_any _ A1 _ c1 xs m HM.out hn HC1.out).mono ?_
  rintro e w1 ⟨rfl, rfl⟩
  go_wp2
  go_ret2
  exact ⟨rfl, HR.out.tail⟩
theorem padTail (xs : List UInt8) (q k : Nat) (p : UInt8) : (xs ++ List.replicate k p) ++ [p] = xs ++ List.replicate (k + 1) p := by
  rw [List.replicate_succ', List.append_assoc]
set_option maxHeartbeats 1000000 in
theorem WPad_any (w : World) (A : Option Addr) (n c : Nat) (xs : List UInt8) (b : Nat) (hn : n ≤ 4000) (hb0 : 0 < b) (hb1 : b ≤ 255) (hC : kB.C w A n xs) :
    Calls Try.prog 20 #[.slice A n c, .int .i64 (b : Int)] w fun e w' => ∃ v, e = .returned v ∧ Hold w w.heap.size w' [.row kB 5 v (padded xs b)] := by
  obtain rfl := hC.1
  have H0 := Aside0.mk (emptyRow w)
  have HC := Aside0.mk hC
  have Hl : Aside0 ((([] : List UInt8).length + xs.length) * 1 ≤ 140737488355328) := ⟨by simp; omega⟩
  clear hC
  have h0 : ((b : Int) == 0) = false := beq_eq_false_iff_ne.2 (by omega)
  obtain ⟨hp0, hp1⟩ := padN_pos xs.length b hb0
  have hw : wrap64 ((b : Int) - (xs.length : Int) % (b : Int)) = (padN xs.length b : Int) := by
    have h1 : (xs.length : Int) % (b : Int) = ((xs.length % b : Nat) : Int) := by omega
    have h2 := Nat.mod_lt xs.length hb0
    unfold padN wrap64
    rw [h1]
    omega
  unfold padded
  generalize padN xs.length b = q at *
  have hP : bV (UInt8.ofNat q) = .int .u8 (q : Int) := by
    unfold bV
    rw [UInt8.toNat_ofNat', Nat.mod_eq_of_lt (by omega)]
  generalize hpe : UInt8.ofNat q = p at *
  have HPE := Aside0.mk hpe
  have HP := Aside0.mk hP
  clear hpe hP
  go_enter Try.func20, Try.ntmps20
  go_wp2_with ((with_reducible refine at_bi (b := .append) (xs := #[.tmp 14, .tmp 15]) rfl ?_); at_builtin; refine Hold.appendRow 0 H0.out rfl rfl (.tmp 14) (.tmp 15) 38 (.int .u8 0) 1 rfl Try.underlying38 info5 rfl (by omega) (A) (xs.length) (c) rfl rfl (Kd.C_below HC.out H0.out.below) Hl.out ?_; intro _ _ H1'; have H1 := Aside0.mk H1'; clear H1' H0)
  go_loopw [6, 7] (fun v i wr => ∃ k : Nat, k ≤ q ∧ i = .int .i64 (k : Int) ∧ Hold w w.heap.size wr [.row kB 5 v (xs ++ List.replicate k p)]) (fun _ i _ => q - (intOf i).toNat)
  case atStart => exact ⟨0, Nat.zero_le _, rfl, by have h := H1.out; simpa using h⟩
  case round =>
    obtain ⟨k, hk, rfl, hR⟩ := hrel
    by_cases hlt : k < q
    · have HR := Aside0.mk hR
      have Hl2 : Aside0 (((xs ++ List.replicate k p).length + 1) * 1 ≤ 140737488355328) := ⟨by simp; omega⟩
      clear hR
      go_wp2_with ((with_reducible refine at_bi (b := .append) (xs := #[.tmp 22, .tmp 25]) rfl ?_); at_builtin; refine Hold.append1 (kB) 0 HR.out rfl rfl (.tmp 22) (.tmp 25) 38 (.int .u8 0) 1 rfl Try.underlying38 info5 rfl (by decide) (by omega) (p) [.int .u8 (q : Int)] rfl rfl (by rw [← HP.out]; rfl) Hl2.out ?_; intro _ _ HR3'; have HR3 := Aside0.mk HR3'; clear HR3' HR)
      go_roundw
      case measure => simp [intOf]; omega
      case rel =>
        refine ⟨k + 1, hlt, by go_num, ?_⟩
        rw [← padTail xs q k p]
        exact HR3.out
    · obtain rfl : k = q := by omega
      go_wp2
      go_ret
      exact ⟨_, rfl, hR⟩
end Go.Proofs.Ytocjolboglcamaa
