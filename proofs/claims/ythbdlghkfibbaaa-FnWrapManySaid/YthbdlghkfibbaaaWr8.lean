/-
  spec.wrapFirst, spec.wrapWords, spec.WrapKey, spec.WrapOpen: their contracts.
-/
import Derived.Test.YthbdlghkfibbaaaWr4
import Derived.Test.YthbdlghkfibbaaaMix8
import Derived.Test.YthbdlghkfibbaaaMix9
import Derived.Deep.OwnRows
import Derived.Test.YthbdlghkfibbaaaOwn
namespace Go.Proofs.Ythbdlghkfibbaaa
open Go.RowKit Go.Proofs.YthbdlghkfibbaaaW.PrintWords Go.Lib
set_option linter.unusedVariables false
set_option linter.unusedSimpArgs false
abbrev kU : Kd UInt64 := Kd.scalar hv (fun _ => rfl)
theorem first_any (w : World) : Calls Try.prog 24 #[] w fun e w' => e = .returned (hv ivU) ∧ w = w' := by
  go_enter Try.func24, Try.ntmps24
  go_wp2
  go_ret
  exact ⟨rfl, rfl⟩
set_option maxRecDepth 100000 in
set_option maxHeartbeats 2000000 in
theorem words_any (w : World) (a : UInt64) (A : Option Addr) (n c : Nat) (r : List UInt64) (hn : n ≤ 1000) (hC : kU.C w A n r) :
    Calls Try.prog 29 #[hv a, .slice A n c] w fun e w' => ∃ v, e = .returned v ∧ Hold w w.heap.size w' [.row kB 5 v (beB a.toNat ++ bytesW r)] := by
  have HC := Aside0.mk hC
  clear hC
  unfold hv
  go_enter Try.func29, Try.ntmps29
  go_wp2_with fail
  refine (sblock_any _ a.toNat 0 a.toNat_lt (by decide)).mono ?_
  rintro e w1 ⟨rfl, hH⟩
  obtain ⟨C, hCe⟩ : ∃ C, C = ((beB a.toNat ++ beB 0).map bV).toArray := ⟨_, rfl⟩
  rw [← hCe]
  have H1 := Aside0.mk (hH.alloc (.cells #[.int .u8 0, .int .u8 0, .int .u8 0, .int .u8 0, .int .u8 0, .int .u8 0, .int .u8 0, .int .u8 0, .int .u8 0, .int .u8 0, .int .u8 0, .int .u8 0, .int .u8 0, .int .u8 0, .int .u8 0, .int .u8 0] 53))
  have HB := Aside0.mk (H1.out.blk 0 rfl)
  have HBS : Aside0 ((Try.prog.info? 53).map (·.size) = some C.size) := ⟨by rw [hCe]; kernel_rfl⟩
  have HCa : Aside0 (C.all (·.oneCell') = true) := ⟨by rw [hCe]; exact bV_all _⟩
  have HCs : Aside0 ((#[.int .u8 0, .int .u8 0, .int .u8 0, .int .u8 0, .int .u8 0, .int .u8 0, .int .u8 0, .int .u8 0, .int .u8 0, .int .u8 0, .int .u8 0, .int .u8 0, .int .u8 0, .int .u8 0, .int .u8 0, .int .u8 0] : Array Value).size = C.size) := ⟨by rw [hCe]; rfl⟩
  have HCe := Aside0.mk hCe
  clear hH hCe
  have hS := (H1.out.setRow (cs' := C) 0 rfl)
  have hC8 : kB.C ((w1.alloc (.cells #[.int .u8 0, .int .u8 0, .int .u8 0, .int .u8 0, .int .u8 0, .int .u8 0, .int .u8 0, .int .u8 0, .int .u8 0, .int .u8 0, .int .u8 0, .int .u8 0, .int .u8 0, .int .u8 0, .int .u8 0, .int .u8 0] 53)).setRow w1.heap.size C) (some ⟨w1.heap.size, 0, none⟩) 8 (beB a.toNat) := by
    have h := hS
    rw [HCe.out] at h
    have hb := C_blk h 0 rfl (by rw [List.length_append, beB_len, beB_len]; decide)
    have ht := C_takeA hb 8 (by rw [List.length_append, beB_len, beB_len]; decide)
    rw [List.take_left' (beB_len _)] at ht
    rw [HCe.out]
    exact ht
  have hS2 := hS.alloc (.cells #[] 5)
  have hE : ((w1.alloc (.cells #[.int .u8 0, .int .u8 0, .int .u8 0, .int .u8 0, .int .u8 0, .int .u8 0, .int .u8 0, .int .u8 0, .int .u8 0, .int .u8 0, .int .u8 0, .int .u8 0, .int .u8 0, .int .u8 0, .int .u8 0, .int .u8 0] 53)).setRow w1.heap.size C).heap.size = w1.heap.size + 1 := by simp [World.setRow]
  rw [hE] at hS2
  have HS2 := Aside0.mk (hS2.toRow 0 (d := kB) (n := 0) (c := 0) (xs := []) rfl (Reps.none _ _) rfl (Nat.le_refl _) (Nat.zero_le _) rfl)
  have HC8 := Aside0.mk (Kd.C_below hC8 ((Hold.start _).alloc_ (.cells #[] 5)).below)
  have Hl8 : Aside0 ((([] : List UInt8).length + 8) * 1 ≤ 140737488355328) := ⟨by decide⟩
  clear hS hC8 hS2 hE
  go_wp2_with (first | (refine wpList_store_row rfl 53 (.tmp 5) (.tmp 11) rfl w1.heap.size C rfl rfl 53 _ HB.out HBS.out HCs.out HCa.out ?_) | ((with_reducible refine at_bi (b := .append) (xs := #[.tmp 12, .tmp 13]) rfl ?_); at_builtin; refine Hold.appendRow 0 HS2.out rfl rfl (.tmp 12) (.tmp 13) 23 (.int .u8 0) 1 rfl Try.underlying23 info5 rfl (by omega) (some ⟨w1.heap.size, 0, none⟩) (8) (16) rfl rfl (HC8.out) Hl8.out ?_; intro _ _ H4'; have H4 := Aside0.mk H4'; clear H4' HS2))
  have hR0 := H4.out.swap.tail
  rw [List.nil_append] at hR0
  have HR0 := Aside0.mk hR0
  clear hR0 H4 HB HBS HCa HCs HCe HC8 Hl8 H1
  obtain ⟨wl, hwl⟩ : ∃ wl, wl = w1 := ⟨_, rfl⟩
  subst hwl
  go_loopw [6, 17] (fun v i wr => ∃ k : Nat, k ≤ n ∧ i = .int .i64 k ∧ Hold w w.heap.size wr [.row kB 5 v (beB a.toNat ++ bytesW (r.take k))]) (fun _ i _ => n - (intOf i).toNat)
  case atStart => exact ⟨0, by omega, rfl, by rw [List.take_zero, show bytesW [] = [] from rfl, List.append_nil]; exact HR0.out⟩
  case round =>
    obtain ⟨k, hkn, rfl, hR⟩ := hrel
    by_cases hlt : k < n
    · have hkr : k < r.length := by rw [HC.out.1]; exact hlt
      have hCr := hR.C HC.out
      obtain ⟨ad, rfl, e1⟩ := C1_get hCr k hkr
      obtain ⟨x, hx⟩ : ∃ x, x = r[k] := ⟨_, rfl⟩
      rw [← hx] at e1
      change _ = some (Value.int .u64 (x.toNat : Int)) at e1
      have HXx := Aside0.mk hx
      have HR := Aside0.mk hR
      have HK := Aside0.mk hkr
      have hnm : n ≤ 9223372036854775807 := by omega
      clear hx hR hCr HR0
      go_wp2_with fail
      refine (sblock_any _ 0 x.toNat (by decide) x.toNat_lt).mono ?_
      rintro e w2 ⟨rfl, hH⟩
      obtain ⟨C, hCe⟩ : ∃ C, C = ((beB 0 ++ beB x.toNat).map bV).toArray := ⟨_, rfl⟩
      rw [← hCe]
      have H1 := Aside0.mk ((HR.out.app hH).alloc (.cells #[.int .u8 0, .int .u8 0, .int .u8 0, .int .u8 0, .int .u8 0, .int .u8 0, .int .u8 0, .int .u8 0, .int .u8 0, .int .u8 0, .int .u8 0, .int .u8 0, .int .u8 0, .int .u8 0, .int .u8 0, .int .u8 0] 53))
      have HB := Aside0.mk (H1.out.blk 0 rfl)
      have HBS : Aside0 ((Try.prog.info? 53).map (·.size) = some C.size) := ⟨by rw [hCe]; kernel_rfl⟩
      have HCa : Aside0 (C.all (·.oneCell') = true) := ⟨by rw [hCe]; exact bV_all _⟩
      have HCs : Aside0 ((#[.int .u8 0, .int .u8 0, .int .u8 0, .int .u8 0, .int .u8 0, .int .u8 0, .int .u8 0, .int .u8 0, .int .u8 0, .int .u8 0, .int .u8 0, .int .u8 0, .int .u8 0, .int .u8 0, .int .u8 0, .int .u8 0] : Array Value).size = C.size) := ⟨by rw [hCe]; rfl⟩
      have hS := (H1.out.setRow (cs' := C) 0 rfl)
      have hC8 : kB.C ((w2.alloc (.cells #[.int .u8 0, .int .u8 0, .int .u8 0, .int .u8 0, .int .u8 0, .int .u8 0, .int .u8 0, .int .u8 0, .int .u8 0, .int .u8 0, .int .u8 0, .int .u8 0, .int .u8 0, .int .u8 0, .int .u8 0, .int .u8 0] 53)).setRow w2.heap.size C) (some ⟨w2.heap.size, 8, none⟩) 8 (beB x.toNat) := by
        have h := hS
        rw [hCe] at h
        have hb := C_blk h 0 rfl (by rw [List.length_append, beB_len, beB_len]; decide)
        have ht := C_dropA hb 8 (by rw [List.length_append, beB_len, beB_len]; decide)
        rw [List.drop_left' (beB_len _)] at ht
        rw [hCe]
        exact ht
      have HC8 := Aside0.mk hC8
      have HS2 := Aside0.mk hS
      have Hl8 : Aside0 (((beB a.toNat ++ bytesW (r.take k)).length + 8) * 1 ≤ 140737488355328) := ⟨by
        rw [List.length_append, bytesW_len, beB_len, List.length_take]
        omega⟩
      clear hS hC8 hCe hH
      go_wp2_with (first | (refine wpList_store_row rfl 53 (.tmp 9) (.tmp 22) rfl w2.heap.size C rfl rfl 53 _ HB.out HBS.out HCs.out HCa.out ?_) | ((with_reducible refine at_bi (b := .append) (xs := #[.tmp 23, .tmp 24]) rfl ?_); at_builtin; refine Hold.appendRow 1 HS2.out rfl rfl (.tmp 23) (.tmp 24) 23 (.int .u8 0) 1 rfl Try.underlying23 info5 rfl (by omega) (some ⟨w2.heap.size, 8, none⟩) (8) (8) rfl rfl (HC8.out) Hl8.out ?_; intro _ _ H4'; have H4 := Aside0.mk H4'; clear H4' HS2))
      have hR1 := H4.out.tail
      rw [List.append_assoc, ← bytesW_snoc, HXx.out, ← List.take_succ_eq_append_getElem HK.out] at hR1
      have HR1 := Aside0.mk hR1
      clear hR1 H4 HB HBS HCa HCs HC8 Hl8 H1
      go_roundw
      case rel => exact ⟨k + 1, hlt, by go_num, HR1.out⟩
      case measure => simp [intOf]; omega
    · obtain rfl : n = k := by omega
      rw [List.take_of_length_le (Nat.le_of_eq HC.out.1)] at hR
      have HR := Aside0.mk hR
      clear hR HR0
      go_wp2
      go_ret
      exact ⟨_, rfl, HR.out⟩
end Go.Proofs.Ythbdlghkfibbaaa
