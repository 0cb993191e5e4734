/-
  impl.mixer.Encrypt, impl.mixer.Decrypt: their contracts.
-/
import Derived.Test.YthbdlghkfibbaaaWr1
import Derived.Laws.Cover3
namespace Go.Proofs.Ythbdlghkfibbaaa
open Go.RowKit Go.Proofs.YthbdlghkfibbaaaW.PrintWords Go.Lib
set_option linter.unusedVariables false
set_option linter.unusedSimpArgs false
def mixB (s : UInt64) (bs : List UInt8) : List UInt8 := blockOf (mixU s (halvesOf bs))
def backB (s : UInt64) (bs : List UInt8) : List UInt8 := blockOf (backU s (halvesOf bs))
set_option maxRecDepth 100000 in
set_option maxHeartbeats 4000000 in
theorem encrypt_any {w0 : World} {B : Nat} {L : List Asrt} (w : World) (s : UInt64) (g c c2 : Nat) (bs : List UInt8) (h16 : bs.length = 16) (H : Hold w0 B w (.blk g (.cells (bs.map bV).toArray 5 (0, 0)) :: L)) :
    Calls Try.prog 75 #[.agg #[hv s], .slice (some ⟨g, 0, none⟩) 16 c, .slice (some ⟨g, 0, none⟩) 16 c2] w fun e w' => e = .returned (.tuple #[]) ∧ Hold w0 B w' (.blk g (.cells ((mixB s bs).map bV).toArray 5 (0, 0)) :: L) := by
  have H1 := Aside0.mk H
  have HX := Aside0.mk h16
  clear h16 H
  obtain ⟨ms, hms⟩ : ∃ ms, ms = mixB s bs := ⟨_, rfl⟩
  have HM : Aside0 (blockOf (mixU s (halvesOf bs)) = ms) := ⟨hms.symm⟩
  have HMz : Aside0 ((Try.prog.info? 53).map (·.size) = some (ms.map bV).toArray.size) := ⟨by
    rw [hms]
    kernel_rfl⟩
  rw [← hms]
  have HMs : Aside0 (16 = (ms.map bV).toArray.size) := ⟨by rw [hms]; rfl⟩
  have HMl : Aside0 (ms.length = 16) := ⟨by rw [hms]; rfl⟩
  clear hms
  unfold hv
  go_enter Try.func75, Try.ntmps75
  go_wp2
  have HR := Aside0.mk (H1.out.alloc_ (.cells #[.int .u64 (s.toNat : Int)] 48)).drew
  have HSz : Aside0 ((Try.prog.info? 53).map (·.size) = some (bs.map bV).toArray.size) := ⟨by
    rw [List.size_toArray, List.length_map, HX.out]
    kernel_rfl⟩
  have ha := fun W => run_arrayAt (P := Try.prog) 53 _ 16 (some ⟨g, 0, none⟩) 16 c2 Try.underlying53 (Nat.le_refl _) (w := W)
  refine wp_region_any (by kernel_rfl) ?_
  change wpAny _ _ _ _ _ _ _ (World.drew _)
  refine wpAny_take (i := 0) (v := ?_) rfl (by kernel_rfl) (by kernel_rfl) (by kernel_rfl) (fun _ _ _ h => h) (Or.inl ⟨by rfl, by intro w; go_simp; with_reducible rfl⟩) ?_
  refine wpAny_take (i := 2) (v := ?_) rfl (by kernel_rfl) (by kernel_rfl) (by kernel_rfl) (fun _ _ _ h => h) (Or.inl ⟨by rfl, by intro w; go_simp; with_reducible rfl⟩) ?_
  refine wpAny_take (i := 3) (v := ?_) rfl (by kernel_rfl) (by kernel_rfl) (by kernel_rfl) (fun _ _ _ h => h) (Or.inl ⟨by rfl, by intro w; go_simp; with_reducible rfl⟩) ?_
  refine wpAny_ready (rs := [1, 4, 6]) (by kernel_rfl) (by simp) ?_
  refine AllReady.cons (o := ⟨some 8, .load 22 (.tmp 7), 22, "wraps.go:16", #[⟨0, .data⟩], none⟩) rfl (fun K hK => ?_) ?_
  · go_simp
    refine hK _ _ ?_
    clear hK K
    refine wpAny_ready (rs := [4, 6]) (by kernel_rfl) (by simp) ?_
    refine AllReady.cons (o := ⟨some 11, .load 53 (.tmp 10), 53, "wraps.go:16", #[⟨3, .data⟩], none⟩) rfl (fun K hK => ?_) ?_
    · refine step_of rfl ?_
      refine wp_load_row 53 (.tmp 10) rfl g (by rfl) 5 (bs.map bV).toArray (0, 0) _ (HR.out.blk 0 rfl) Try.underlying53 rfl HSz.out ?_
      (try go_simp)
      refine hK _ _ ?_
      clear hK K
      refine wpAny_ready (rs := [5, 6]) (by kernel_rfl) (by simp) ?_
      refine AllReady.cons (o := ⟨some 12, .call { callee := .value (.func 77), args := #[.tmp 8, .tmp 11], argTypes := #[22, 53] }, 53, "wraps.go:16", #[⟨1, .data⟩, ⟨4, .data⟩], none⟩) rfl (fun K hK => ?_) ?_
      · go_simp
        go_at_call 77
        refine (mixed_any _ s bs HX.out).mono ?_
        rw [HM.out]
        rintro e w2 ⟨rfl, hH⟩
        replace HR := Aside0.mk (HR.out.app hH)
        clear hH
        go_simp
        refine hK _ _ ?_
        clear hK K
        refine wpAny_ready (rs := [6]) (by kernel_rfl) (by simp) ?_
        refine AllReady.cons (o := ⟨some 6, .alloc 53, 0, "wraps.go:16", #[], none⟩) rfl (fun K hK => ?_) ?_
        · refine step_of rfl ?_
          refine alloc_wp 53 rfl (.agg #[.int .u8 0, .int .u8 0, .int .u8 0, .int .u8 0, .int .u8 0, .int .u8 0, .int .u8 0, .int .u8 0, .int .u8 0, .int .u8 0, .int .u8 0, .int .u8 0, .int .u8 0, .int .u8 0, .int .u8 0, .int .u8 0]) #[.int .u8 0, .int .u8 0, .int .u8 0, .int .u8 0, .int .u8 0, .int .u8 0, .int .u8 0, .int .u8 0, .int .u8 0, .int .u8 0, .int .u8 0, .int .u8 0, .int .u8 0, .int .u8 0, .int .u8 0, .int .u8 0] (by kernel_rfl) rfl ?_
          replace HR := Aside0.mk (HR.out.alloc (.cells #[.int .u8 0, .int .u8 0, .int .u8 0, .int .u8 0, .int .u8 0, .int .u8 0, .int .u8 0, .int .u8 0, .int .u8 0, .int .u8 0, .int .u8 0, .int .u8 0, .int .u8 0, .int .u8 0, .int .u8 0, .int .u8 0] 53)).swap
          (try go_simp)
          refine hK _ _ ?_
          clear hK K
          refine wpAny_ready (rs := [7]) (by kernel_rfl) (by simp) ?_
          refine AllReady.cons (o := ⟨none, .store 53 (.tmp 6) (.tmp 12), 0, "wraps.go:16", #[⟨6, .data⟩, ⟨5, .data⟩, ⟨5, .chain⟩, ⟨0, .phase⟩, ⟨1, .phase⟩, ⟨2, .phase⟩, ⟨3, .phase⟩, ⟨4, .phase⟩, ⟨5, .phase⟩, ⟨6, .phase⟩], none⟩) rfl (fun K hK => ?_) ?_
          · refine step_of rfl ?_
            refine wp_store_row 53 (.tmp 6) (.tmp 12) rfl _ (ms.map bV).toArray (by rfl) (by rfl) 53 _ (HR.out.blk 1 rfl) HMz.out HMs.out (bV_all ms) ?_
            replace HR := Aside0.mk (HR.out.setRow (cs' := (ms.map bV).toArray) 1 rfl)
            (try go_simp)
            refine hK _ _ ?_
            clear hK K
            refine wpAny_done (by kernel_rfl) ?_ _
            have HCo := C_blk HR.out 1 rfl (by rw [HMl.out]; decide)
            rw [HMl.out] at HCo
            have HC2 := Aside0.mk HCo
            have HZc : Aside0 (bs.take 0 ++ ms.take 16 ++ bs.drop (0 + 16) = ms) := ⟨by rw [List.take_zero, List.take_of_length_le (by rw [HMl.out]; exact Nat.le_refl _), List.drop_eq_nil_of_le (by rw [HX.out]; exact Nat.le_refl _), List.nil_append, List.append_nil]⟩
            clear HCo
            go_wp2_with ((with_reducible refine at_bi (b := .copy) (xs := #[.tmp 13, .tmp 14]) rfl ?_); refine wpList_plain rfl fun K hK => ?_; refine copy_wp (zs := bs) (ys := ms) (t := 5) (HR.out.blk 0 rfl) (.tmp 13) (.tmp 14) 23 23 rfl Try.underlying23 (by kernel_rfl) 0 16 c 16 16 _ rfl rfl HC2.out 16 rfl (by rw [HX.out]; decide) ms HZc.out ?_; refine hK _ _ ?_; clear hK K)
            go_end0
            refine ⟨rfl, ?_⟩
            exact (HR.out.setRow (cs' := (ms.map bV).toArray) 0 rfl).swap.tail
          exact AllReady.nil
        exact AllReady.nil
      refine AllReady.cons (o := ⟨some 6, .alloc 53, 0, "wraps.go:16", #[], none⟩) rfl (fun K hK => ?_) ?_
      · refine step_of rfl ?_
        refine alloc_wp 53 rfl (.agg #[.int .u8 0, .int .u8 0, .int .u8 0, .int .u8 0, .int .u8 0, .int .u8 0, .int .u8 0, .int .u8 0, .int .u8 0, .int .u8 0, .int .u8 0, .int .u8 0, .int .u8 0, .int .u8 0, .int .u8 0, .int .u8 0]) #[.int .u8 0, .int .u8 0, .int .u8 0, .int .u8 0, .int .u8 0, .int .u8 0, .int .u8 0, .int .u8 0, .int .u8 0, .int .u8 0, .int .u8 0, .int .u8 0, .int .u8 0, .int .u8 0, .int .u8 0, .int .u8 0] (by kernel_rfl) rfl ?_
        replace HR := Aside0.mk (HR.out.alloc (.cells #[.int .u8 0, .int .u8 0, .int .u8 0, .int .u8 0, .int .u8 0, .int .u8 0, .int .u8 0, .int .u8 0, .int .u8 0, .int .u8 0, .int .u8 0, .int .u8 0, .int .u8 0, .int .u8 0, .int .u8 0, .int .u8 0] 53)).swap
        have es : (w.alloc (.cells #[.int .u64 (s.toNat : Int)] 48)).drew.heap.size = w.heap.size + 1 := by simp
        rw [es] at HR
        clear es
        (try go_simp)
        refine hK _ _ ?_
        clear hK K
        refine wpAny_ready (rs := [5]) (by kernel_rfl) (by simp) ?_
        refine AllReady.cons (o := ⟨some 12, .call { callee := .value (.func 77), args := #[.tmp 8, .tmp 11], argTypes := #[22, 53] }, 53, "wraps.go:16", #[⟨1, .data⟩, ⟨4, .data⟩], none⟩) rfl (fun K hK => ?_) ?_
        · go_simp
          go_at_call 77
          refine (mixed_any _ s bs HX.out).mono ?_
          rw [HM.out]
          rintro e w2 ⟨rfl, hH⟩
          replace HR := Aside0.mk (HR.out.app hH)
          clear hH
          go_simp
          refine hK _ _ ?_
          clear hK K
          refine wpAny_ready (rs := [7]) (by kernel_rfl) (by simp) ?_
          refine AllReady.cons (o := ⟨none, .store 53 (.tmp 6) (.tmp 12), 0, "wraps.go:16", #[⟨6, .data⟩, ⟨5, .data⟩, ⟨5, .chain⟩, ⟨0, .phase⟩, ⟨1, .phase⟩, ⟨2, .phase⟩, ⟨3, .phase⟩, ⟨4, .phase⟩, ⟨5, .phase⟩, ⟨6, .phase⟩], none⟩) rfl (fun K hK => ?_) ?_
          · refine step_of rfl ?_
            refine wp_store_row 53 (.tmp 6) (.tmp 12) rfl _ (ms.map bV).toArray (by rfl) (by rfl) 53 _ (HR.out.blk 1 rfl) HMz.out HMs.out (bV_all ms) ?_
            replace HR := Aside0.mk (HR.out.setRow (cs' := (ms.map bV).toArray) 1 rfl)
            (try go_simp)
            refine hK _ _ ?_
            clear hK K
            refine wpAny_done (by kernel_rfl) ?_ _
            have HCo := C_blk HR.out 1 rfl (by rw [HMl.out]; decide)
            rw [HMl.out] at HCo
            have HC2 := Aside0.mk HCo
            have HZc : Aside0 (bs.take 0 ++ ms.take 16 ++ bs.drop (0 + 16) = ms) := ⟨by rw [List.take_zero, List.take_of_length_le (by rw [HMl.out]; exact Nat.le_refl _), List.drop_eq_nil_of_le (by rw [HX.out]; exact Nat.le_refl _), List.nil_append, List.append_nil]⟩
            clear HCo
            go_wp2_with ((with_reducible refine at_bi (b := .copy) (xs := #[.tmp 13, .tmp 14]) rfl ?_); refine wpList_plain rfl fun K hK => ?_; refine copy_wp (zs := bs) (ys := ms) (t := 5) (HR.out.blk 0 rfl) (.tmp 13) (.tmp 14) 23 23 rfl Try.underlying23 (by kernel_rfl) 0 16 c 16 16 _ rfl rfl HC2.out 16 rfl (by rw [HX.out]; decide) ms HZc.out ?_; refine hK _ _ ?_; clear hK K)
            go_end0
            refine ⟨rfl, ?_⟩
            exact (HR.out.setRow (cs' := (ms.map bV).toArray) 0 rfl).swap.tail
          exact AllReady.nil
        exact AllReady.nil
      exact AllReady.nil
    refine AllReady.cons (o := ⟨some 6, .alloc 53, 0, "wraps.go:16", #[], none⟩) rfl (fun K hK => ?_) ?_
    · refine step_of rfl ?_
      refine alloc_wp 53 rfl (.agg #[.int .u8 0, .int .u8 0, .int .u8 0, .int .u8 0, .int .u8 0, .int .u8 0, .int .u8 0, .int .u8 0, .int .u8 0, .int .u8 0, .int .u8 0, .int .u8 0, .int .u8 0, .int .u8 0, .int .u8 0, .int .u8 0]) #[.int .u8 0, .int .u8 0, .int .u8 0, .int .u8 0, .int .u8 0, .int .u8 0, .int .u8 0, .int .u8 0, .int .u8 0, .int .u8 0, .int .u8 0, .int .u8 0, .int .u8 0, .int .u8 0, .int .u8 0, .int .u8 0] (by kernel_rfl) rfl ?_
      replace HR := Aside0.mk (HR.out.alloc (.cells #[.int .u8 0, .int .u8 0, .int .u8 0, .int .u8 0, .int .u8 0, .int .u8 0, .int .u8 0, .int .u8 0, .int .u8 0, .int .u8 0, .int .u8 0, .int .u8 0, .int .u8 0, .int .u8 0, .int .u8 0, .int .u8 0] 53)).swap
      have es : (w.alloc (.cells #[.int .u64 (s.toNat : Int)] 48)).drew.heap.size = w.heap.size + 1 := by simp
      rw [es] at HR
      clear es
      (try go_simp)
      refine hK _ _ ?_
      clear hK K
      refine wpAny_ready (rs := [4]) (by kernel_rfl) (by simp) ?_
      refine AllReady.cons (o := ⟨some 11, .load 53 (.tmp 10), 53, "wraps.go:16", #[⟨3, .data⟩], none⟩) rfl (fun K hK => ?_) ?_
      · refine step_of rfl ?_
        refine wp_load_row 53 (.tmp 10) rfl g (by rfl) 5 (bs.map bV).toArray (0, 0) _ (HR.out.blk 0 rfl) Try.underlying53 rfl HSz.out ?_
        (try go_simp)
        refine hK _ _ ?_
        clear hK K
        refine wpAny_ready (rs := [5]) (by kernel_rfl) (by simp) ?_
        refine AllReady.cons (o := ⟨some 12, .call { callee := .value (.func 77), args := #[.tmp 8, .tmp 11], argTypes := #[22, 53] }, 53, "wraps.go:16", #[⟨1, .data⟩, ⟨4, .data⟩], none⟩) rfl (fun K hK => ?_) ?_
        · go_simp
          go_at_call 77
          refine (mixed_any _ s bs HX.out).mono ?_
          rw [HM.out]
          rintro e w2 ⟨rfl, hH⟩
          replace HR := Aside0.mk (HR.out.app hH)
          clear hH
          go_simp
          refine hK _ _ ?_
          clear hK K
          refine wpAny_ready (rs := [7]) (by kernel_rfl) (by simp) ?_
          refine AllReady.cons (o := ⟨none, .store 53 (.tmp 6) (.tmp 12), 0, "wraps.go:16", #[⟨6, .data⟩, ⟨5, .data⟩, ⟨5, .chain⟩, ⟨0, .phase⟩, ⟨1, .phase⟩, ⟨2, .phase⟩, ⟨3, .phase⟩, ⟨4, .phase⟩, ⟨5, .phase⟩, ⟨6, .phase⟩], none⟩) rfl (fun K hK => ?_) ?_
          · refine step_of rfl ?_
            refine wp_store_row 53 (.tmp 6) (.tmp 12) rfl _ (ms.map bV).toArray (by rfl) (by rfl) 53 _ (HR.out.blk 1 rfl) HMz.out HMs.out (bV_all ms) ?_
            replace HR := Aside0.mk (HR.out.setRow (cs' := (ms.map bV).toArray) 1 rfl)
            (try go_simp)
            refine hK _ _ ?_
            clear hK K
            refine wpAny_done (by kernel_rfl) ?_ _
            have HCo := C_blk HR.out 1 rfl (by rw [HMl.out]; decide)
            rw [HMl.out] at HCo
            have HC2 := Aside0.mk HCo
            have HZc : Aside0 (bs.take 0 ++ ms.take 16 ++ bs.drop (0 + 16) = ms) := ⟨by rw [List.take_zero, List.take_of_length_le (by rw [HMl.out]; exact Nat.le_refl _), List.drop_eq_nil_of_le (by rw [HX.out]; exact Nat.le_refl _), List.nil_append, List.append_nil]⟩
            clear HCo
            go_wp2_with ((with_reducible refine at_bi (b := .copy) (xs := #[.tmp 13, .tmp 14]) rfl ?_); refine wpList_plain rfl fun K hK => ?_; refine copy_wp (zs := bs) (ys := ms) (t := 5) (HR.out.blk 0 rfl) (.tmp 13) (.tmp 14) 23 23 rfl Try.underlying23 (by kernel_rfl) 0 16 c 16 16 _ rfl rfl HC2.out 16 rfl (by rw [HX.out]; decide) ms HZc.out ?_; refine hK _ _ ?_; clear hK K)
            go_end0
            refine ⟨rfl, ?_⟩
            exact (HR.out.setRow (cs' := (ms.map bV).toArray) 0 rfl).swap.tail
          exact AllReady.nil
        exact AllReady.nil
      exact AllReady.nil
    exact AllReady.nil
  refine AllReady.cons (o := ⟨some 11, .load 53 (.tmp 10), 53, "wraps.go:16", #[⟨3, .data⟩], none⟩) rfl (fun K hK => ?_) ?_
  · refine step_of rfl ?_
    refine wp_load_row 53 (.tmp 10) rfl g (by rfl) 5 (bs.map bV).toArray (0, 0) _ (HR.out.blk 0 rfl) Try.underlying53 rfl HSz.out ?_
    (try go_simp)
    refine hK _ _ ?_
    clear hK K
    refine wpAny_ready (rs := [1, 6]) (by kernel_rfl) (by simp) ?_
    refine AllReady.cons (o := ⟨some 8, .load 22 (.tmp 7), 22, "wraps.go:16", #[⟨0, .data⟩], none⟩) rfl (fun K hK => ?_) ?_
    · go_simp
      refine hK _ _ ?_
      clear hK K
      refine wpAny_ready (rs := [5, 6]) (by kernel_rfl) (by simp) ?_
      refine AllReady.cons (o := ⟨some 12, .call { callee := .value (.func 77), args := #[.tmp 8, .tmp 11], argTypes := #[22, 53] }, 53, "wraps.go:16", #[⟨1, .data⟩, ⟨4, .data⟩], none⟩) rfl (fun K hK => ?_) ?_
      · go_simp
        go_at_call 77
        refine (mixed_any _ s bs HX.out).mono ?_
        rw [HM.out]
        rintro e w2 ⟨rfl, hH⟩
        replace HR := Aside0.mk (HR.out.app hH)
        clear hH
        go_simp
        refine hK _ _ ?_
        clear hK K
        refine wpAny_ready (rs := [6]) (by kernel_rfl) (by simp) ?_
        refine AllReady.cons (o := ⟨some 6, .alloc 53, 0, "wraps.go:16", #[], none⟩) rfl (fun K hK => ?_) ?_
        · refine step_of rfl ?_
          refine alloc_wp 53 rfl (.agg #[.int .u8 0, .int .u8 0, .int .u8 0, .int .u8 0, .int .u8 0, .int .u8 0, .int .u8 0, .int .u8 0, .int .u8 0, .int .u8 0, .int .u8 0, .int .u8 0, .int .u8 0, .int .u8 0, .int .u8 0, .int .u8 0]) #[.int .u8 0, .int .u8 0, .int .u8 0, .int .u8 0, .int .u8 0, .int .u8 0, .int .u8 0, .int .u8 0, .int .u8 0, .int .u8 0, .int .u8 0, .int .u8 0, .int .u8 0, .int .u8 0, .int .u8 0, .int .u8 0] (by kernel_rfl) rfl ?_
          replace HR := Aside0.mk (HR.out.alloc (.cells #[.int .u8 0, .int .u8 0, .int .u8 0, .int .u8 0, .int .u8 0, .int .u8 0, .int .u8 0, .int .u8 0, .int .u8 0, .int .u8 0, .int .u8 0, .int .u8 0, .int .u8 0, .int .u8 0, .int .u8 0, .int .u8 0] 53)).swap
          (try go_simp)
          refine hK _ _ ?_
          clear hK K
          refine wpAny_ready (rs := [7]) (by kernel_rfl) (by simp) ?_
          refine AllReady.cons (o := ⟨none, .store 53 (.tmp 6) (.tmp 12), 0, "wraps.go:16", #[⟨6, .data⟩, ⟨5, .data⟩, ⟨5, .chain⟩, ⟨0, .phase⟩, ⟨1, .phase⟩, ⟨2, .phase⟩, ⟨3, .phase⟩, ⟨4, .phase⟩, ⟨5, .phase⟩, ⟨6, .phase⟩], none⟩) rfl (fun K hK => ?_) ?_
          · refine step_of rfl ?_
            refine wp_store_row 53 (.tmp 6) (.tmp 12) rfl _ (ms.map bV).toArray (by rfl) (by rfl) 53 _ (HR.out.blk 1 rfl) HMz.out HMs.out (bV_all ms) ?_
            replace HR := Aside0.mk (HR.out.setRow (cs' := (ms.map bV).toArray) 1 rfl)
            (try go_simp)
            refine hK _ _ ?_
            clear hK K
            refine wpAny_done (by kernel_rfl) ?_ _
            have HCo := C_blk HR.out 1 rfl (by rw [HMl.out]; decide)
            rw [HMl.out] at HCo
            have HC2 := Aside0.mk HCo
            have HZc : Aside0 (bs.take 0 ++ ms.take 16 ++ bs.drop (0 + 16) = ms) := ⟨by rw [List.take_zero, List.take_of_length_le (by rw [HMl.out]; exact Nat.le_refl _), List.drop_eq_nil_of_le (by rw [HX.out]; exact Nat.le_refl _), List.nil_append, List.append_nil]⟩
            clear HCo
            go_wp2_with ((with_reducible refine at_bi (b := .copy) (xs := #[.tmp 13, .tmp 14]) rfl ?_); refine wpList_plain rfl fun K hK => ?_; refine copy_wp (zs := bs) (ys := ms) (t := 5) (HR.out.blk 0 rfl) (.tmp 13) (.tmp 14) 23 23 rfl Try.underlying23 (by kernel_rfl) 0 16 c 16 16 _ rfl rfl HC2.out 16 rfl (by rw [HX.out]; decide) ms HZc.out ?_; refine hK _ _ ?_; clear hK K)
            go_end0
            refine ⟨rfl, ?_⟩
            exact (HR.out.setRow (cs' := (ms.map bV).toArray) 0 rfl).swap.tail
          exact AllReady.nil
        exact AllReady.nil
      refine AllReady.cons (o := ⟨some 6, .alloc 53, 0, "wraps.go:16", #[], none⟩) rfl (fun K hK => ?_) ?_
      · refine step_of rfl ?_
        refine alloc_wp 53 rfl (.agg #[.int .u8 0, .int .u8 0, .int .u8 0, .int .u8 0, .int .u8 0, .int .u8 0, .int .u8 0, .int .u8 0, .int .u8 0, .int .u8 0, .int .u8 0, .int .u8 0, .int .u8 0, .int .u8 0, .int .u8 0, .int .u8 0]) #[.int .u8 0, .int .u8 0, .int .u8 0, .int .u8 0, .int .u8 0, .int .u8 0, .int .u8 0, .int .u8 0, .int .u8 0, .int .u8 0, .int .u8 0, .int .u8 0, .int .u8 0, .int .u8 0, .int .u8 0, .int .u8 0] (by kernel_rfl) rfl ?_
        replace HR := Aside0.mk (HR.out.alloc (.cells #[.int .u8 0, .int .u8 0, .int .u8 0, .int .u8 0, .int .u8 0, .int .u8 0, .int .u8 0, .int .u8 0, .int .u8 0, .int .u8 0, .int .u8 0, .int .u8 0, .int .u8 0, .int .u8 0, .int .u8 0, .int .u8 0] 53)).swap
        have es : (w.alloc (.cells #[.int .u64 (s.toNat : Int)] 48)).drew.heap.size = w.heap.size + 1 := by simp
        rw [es] at HR
        clear es
        (try go_simp)
        refine hK _ _ ?_
        clear hK K
        refine wpAny_ready (rs := [5]) (by kernel_rfl) (by simp) ?_
        refine AllReady.cons (o := ⟨some 12, .call { callee := .value (.func 77), args := #[.tmp 8, .tmp 11], argTypes := #[22, 53] }, 53, "wraps.go:16", #[⟨1, .data⟩, ⟨4, .data⟩], none⟩) rfl (fun K hK => ?_) ?_
        · go_simp
          go_at_call 77
          refine (mixed_any _ s bs HX.out).mono ?_
          rw [HM.out]
          rintro e w2 ⟨rfl, hH⟩
          replace HR := Aside0.mk (HR.out.app hH)
          clear hH
          go_simp
          refine hK _ _ ?_
          clear hK K
          refine wpAny_ready (rs := [7]) (by kernel_rfl) (by simp) ?_
          refine AllReady.cons (o := ⟨none, .store 53 (.tmp 6) (.tmp 12), 0, "wraps.go:16", #[⟨6, .data⟩, ⟨5, .data⟩, ⟨5, .chain⟩, ⟨0, .phase⟩, ⟨1, .phase⟩, ⟨2, .phase⟩, ⟨3, .phase⟩, ⟨4, .phase⟩, ⟨5, .phase⟩, ⟨6, .phase⟩], none⟩) rfl (fun K hK => ?_) ?_
          · refine step_of rfl ?_
            refine wp_store_row 53 (.tmp 6) (.tmp 12) rfl _ (ms.map bV).toArray (by rfl) (by rfl) 53 _ (HR.out.blk 1 rfl) HMz.out HMs.out (bV_all ms) ?_
            replace HR := Aside0.mk (HR.out.setRow (cs' := (ms.map bV).toArray) 1 rfl)
            (try go_simp)
            refine hK _ _ ?_
            clear hK K
            refine wpAny_done (by kernel_rfl) ?_ _
            have HCo := C_blk HR.out 1 rfl (by rw [HMl.out]; decide)
            rw [HMl.out] at HCo
            have HC2 := Aside0.mk HCo
            have HZc : Aside0 (bs.take 0 ++ ms.take 16 ++ bs.drop (0 + 16) = ms) := ⟨by rw [List.take_zero, List.take_of_length_le (by rw [HMl.out]; exact Nat.le_refl _), List.drop_eq_nil_of_le (by rw [HX.out]; exact Nat.le_refl _), List.nil_append, List.append_nil]⟩
            clear HCo
            go_wp2_with ((with_reducible refine at_bi (b := .copy) (xs := #[.tmp 13, .tmp 14]) rfl ?_); refine wpList_plain rfl fun K hK => ?_; refine copy_wp (zs := bs) (ys := ms) (t := 5) (HR.out.blk 0 rfl) (.tmp 13) (.tmp 14) 23 23 rfl Try.underlying23 (by kernel_rfl) 0 16 c 16 16 _ rfl rfl HC2.out 16 rfl (by rw [HX.out]; decide) ms HZc.out ?_; refine hK _ _ ?_; clear hK K)
            go_end0
            refine ⟨rfl, ?_⟩
            exact (HR.out.setRow (cs' := (ms.map bV).toArray) 0 rfl).swap.tail
          exact AllReady.nil
        exact AllReady.nil
      exact AllReady.nil
    refine AllReady.cons (o := ⟨some 6, .alloc 53, 0, "wraps.go:16", #[], none⟩) rfl (fun K hK => ?_) ?_
    · refine step_of rfl ?_
      refine alloc_wp 53 rfl (.agg #[.int .u8 0, .int .u8 0, .int .u8 0, .int .u8 0, .int .u8 0, .int .u8 0, .int .u8 0, .int .u8 0, .int .u8 0, .int .u8 0, .int .u8 0, .int .u8 0, .int .u8 0, .int .u8 0, .int .u8 0, .int .u8 0]) #[.int .u8 0, .int .u8 0, .int .u8 0, .int .u8 0, .int .u8 0, .int .u8 0, .int .u8 0, .int .u8 0, .int .u8 0, .int .u8 0, .int .u8 0, .int .u8 0, .int .u8 0, .int .u8 0, .int .u8 0, .int .u8 0] (by kernel_rfl) rfl ?_
      replace HR := Aside0.mk (HR.out.alloc (.cells #[.int .u8 0, .int .u8 0, .int .u8 0, .int .u8 0, .int .u8 0, .int .u8 0, .int .u8 0, .int .u8 0, .int .u8 0, .int .u8 0, .int .u8 0, .int .u8 0, .int .u8 0, .int .u8 0, .int .u8 0, .int .u8 0] 53)).swap
      have es : (w.alloc (.cells #[.int .u64 (s.toNat : Int)] 48)).drew.heap.size = w.heap.size + 1 := by simp
      rw [es] at HR
      clear es
      (try go_simp)
      refine hK _ _ ?_
      clear hK K
      refine wpAny_ready (rs := [1]) (by kernel_rfl) (by simp) ?_
      refine AllReady.cons (o := ⟨some 8, .load 22 (.tmp 7), 22, "wraps.go:16", #[⟨0, .data⟩], none⟩) rfl (fun K hK => ?_) ?_
      · go_simp
        refine hK _ _ ?_
        clear hK K
        refine wpAny_ready (rs := [5]) (by kernel_rfl) (by simp) ?_
        refine AllReady.cons (o := ⟨some 12, .call { callee := .value (.func 77), args := #[.tmp 8, .tmp 11], argTypes := #[22, 53] }, 53, "wraps.go:16", #[⟨1, .data⟩, ⟨4, .data⟩], none⟩) rfl (fun K hK => ?_) ?_
        · go_simp
          go_at_call 77
          refine (mixed_any _ s bs HX.out).mono ?_
          rw [HM.out]
          rintro e w2 ⟨rfl, hH⟩
          replace HR := Aside0.mk (HR.out.app hH)
          clear hH
          go_simp
          refine hK _ _ ?_
          clear hK K
          refine wpAny_ready (rs := [7]) (by kernel_rfl) (by simp) ?_
          refine AllReady.cons (o := ⟨none, .store 53 (.tmp 6) (.tmp 12), 0, "wraps.go:16", #[⟨6, .data⟩, ⟨5, .data⟩, ⟨5, .chain⟩, ⟨0, .phase⟩, ⟨1, .phase⟩, ⟨2, .phase⟩, ⟨3, .phase⟩, ⟨4, .phase⟩, ⟨5, .phase⟩, ⟨6, .phase⟩], none⟩) rfl (fun K hK => ?_) ?_
          · refine step_of rfl ?_
            refine wp_store_row 53 (.tmp 6) (.tmp 12) rfl _ (ms.map bV).toArray (by rfl) (by rfl) 53 _ (HR.out.blk 1 rfl) HMz.out HMs.out (bV_all ms) ?_
            replace HR := Aside0.mk (HR.out.setRow (cs' := (ms.map bV).toArray) 1 rfl)
            (try go_simp)
            refine hK _ _ ?_
            clear hK K
            refine wpAny_done (by kernel_rfl) ?_ _
            have HCo := C_blk HR.out 1 rfl (by rw [HMl.out]; decide)
            rw [HMl.out] at HCo
            have HC2 := Aside0.mk HCo
            have HZc : Aside0 (bs.take 0 ++ ms.take 16 ++ bs.drop (0 + 16) = ms) := ⟨by rw [List.take_zero, List.take_of_length_le (by rw [HMl.out]; exact Nat.le_refl _), List.drop_eq_nil_of_le (by rw [HX.out]; exact Nat.le_refl _), List.nil_append, List.append_nil]⟩
            clear HCo
            go_wp2_with ((with_reducible refine at_bi (b := .copy) (xs := #[.tmp 13, .tmp 14]) rfl ?_); refine wpList_plain rfl fun K hK => ?_; refine copy_wp (zs := bs) (ys := ms) (t := 5) (HR.out.blk 0 rfl) (.tmp 13) (.tmp 14) 23 23 rfl Try.underlying23 (by kernel_rfl) 0 16 c 16 16 _ rfl rfl HC2.out 16 rfl (by rw [HX.out]; decide) ms HZc.out ?_; refine hK _ _ ?_; clear hK K)
            go_end0
            refine ⟨rfl, ?_⟩
            exact (HR.out.setRow (cs' := (ms.map bV).toArray) 0 rfl).swap.tail
          exact AllReady.nil
        exact AllReady.nil
      exact AllReady.nil
    exact AllReady.nil
  refine AllReady.cons (o := ⟨some 6, .alloc 53, 0, "wraps.go:16", #[], none⟩) rfl (fun K hK => ?_) ?_
  · refine step_of rfl ?_
    refine alloc_wp 53 rfl (.agg #[.int .u8 0, .int .u8 0, .int .u8 0, .int .u8 0, .int .u8 0, .int .u8 0, .int .u8 0, .int .u8 0, .int .u8 0, .int .u8 0, .int .u8 0, .int .u8 0, .int .u8 0, .int .u8 0, .int .u8 0, .int .u8 0]) #[.int .u8 0, .int .u8 0, .int .u8 0, .int .u8 0, .int .u8 0, .int .u8 0, .int .u8 0, .int .u8 0, .int .u8 0, .int .u8 0, .int .u8 0, .int .u8 0, .int .u8 0, .int .u8 0, .int .u8 0, .int .u8 0] (by kernel_rfl) rfl ?_
    replace HR := Aside0.mk (HR.out.alloc (.cells #[.int .u8 0, .int .u8 0, .int .u8 0, .int .u8 0, .int .u8 0, .int .u8 0, .int .u8 0, .int .u8 0, .int .u8 0, .int .u8 0, .int .u8 0, .int .u8 0, .int .u8 0, .int .u8 0, .int .u8 0, .int .u8 0] 53)).swap
    have es : (w.alloc (.cells #[.int .u64 (s.toNat : Int)] 48)).drew.heap.size = w.heap.size + 1 := by simp
    rw [es] at HR
    clear es
    (try go_simp)
    refine hK _ _ ?_
    clear hK K
    refine wpAny_ready (rs := [1, 4]) (by kernel_rfl) (by simp) ?_
    refine AllReady.cons (o := ⟨some 8, .load 22 (.tmp 7), 22, "wraps.go:16", #[⟨0, .data⟩], none⟩) rfl (fun K hK => ?_) ?_
    · go_simp
      refine hK _ _ ?_
      clear hK K
      refine wpAny_ready (rs := [4]) (by kernel_rfl) (by simp) ?_
      refine AllReady.cons (o := ⟨some 11, .load 53 (.tmp 10), 53, "wraps.go:16", #[⟨3, .data⟩], none⟩) rfl (fun K hK => ?_) ?_
      · refine step_of rfl ?_
        refine wp_load_row 53 (.tmp 10) rfl g (by rfl) 5 (bs.map bV).toArray (0, 0) _ (HR.out.blk 0 rfl) Try.underlying53 rfl HSz.out ?_
        (try go_simp)
        refine hK _ _ ?_
        clear hK K
        refine wpAny_ready (rs := [5]) (by kernel_rfl) (by simp) ?_
        refine AllReady.cons (o := ⟨some 12, .call { callee := .value (.func 77), args := #[.tmp 8, .tmp 11], argTypes := #[22, 53] }, 53, "wraps.go:16", #[⟨1, .data⟩, ⟨4, .data⟩], none⟩) rfl (fun K hK => ?_) ?_
        · go_simp
          go_at_call 77
          refine (mixed_any _ s bs HX.out).mono ?_
          rw [HM.out]
          rintro e w2 ⟨rfl, hH⟩
          replace HR := Aside0.mk (HR.out.app hH)
          clear hH
          go_simp
          refine hK _ _ ?_
          clear hK K
          refine wpAny_ready (rs := [7]) (by kernel_rfl) (by simp) ?_
          refine AllReady.cons (o := ⟨none, .store 53 (.tmp 6) (.tmp 12), 0, "wraps.go:16", #[⟨6, .data⟩, ⟨5, .data⟩, ⟨5, .chain⟩, ⟨0, .phase⟩, ⟨1, .phase⟩, ⟨2, .phase⟩, ⟨3, .phase⟩, ⟨4, .phase⟩, ⟨5, .phase⟩, ⟨6, .phase⟩], none⟩) rfl (fun K hK => ?_) ?_
          · refine step_of rfl ?_
            refine wp_store_row 53 (.tmp 6) (.tmp 12) rfl _ (ms.map bV).toArray (by rfl) (by rfl) 53 _ (HR.out.blk 1 rfl) HMz.out HMs.out (bV_all ms) ?_
            replace HR := Aside0.mk (HR.out.setRow (cs' := (ms.map bV).toArray) 1 rfl)
            (try go_simp)
            refine hK _ _ ?_
            clear hK K
            refine wpAny_done (by kernel_rfl) ?_ _
            have HCo := C_blk HR.out 1 rfl (by rw [HMl.out]; decide)
            rw [HMl.out] at HCo
            have HC2 := Aside0.mk HCo
            have HZc : Aside0 (bs.take 0 ++ ms.take 16 ++ bs.drop (0 + 16) = ms) := ⟨by rw [List.take_zero, List.take_of_length_le (by rw [HMl.out]; exact Nat.le_refl _), List.drop_eq_nil_of_le (by rw [HX.out]; exact Nat.le_refl _), List.nil_append, List.append_nil]⟩
            clear HCo
            go_wp2_with ((with_reducible refine at_bi (b := .copy) (xs := #[.tmp 13, .tmp 14]) rfl ?_); refine wpList_plain rfl fun K hK => ?_; refine copy_wp (zs := bs) (ys := ms) (t := 5) (HR.out.blk 0 rfl) (.tmp 13) (.tmp 14) 23 23 rfl Try.underlying23 (by kernel_rfl) 0 16 c 16 16 _ rfl rfl HC2.out 16 rfl (by rw [HX.out]; decide) ms HZc.out ?_; refine hK _ _ ?_; clear hK K)
            go_end0
            refine ⟨rfl, ?_⟩
            exact (HR.out.setRow (cs' := (ms.map bV).toArray) 0 rfl).swap.tail
          exact AllReady.nil
        exact AllReady.nil
      exact AllReady.nil
    refine AllReady.cons (o := ⟨some 11, .load 53 (.tmp 10), 53, "wraps.go:16", #[⟨3, .data⟩], none⟩) rfl (fun K hK => ?_) ?_
    · refine step_of rfl ?_
      refine wp_load_row 53 (.tmp 10) rfl g (by rfl) 5 (bs.map bV).toArray (0, 0) _ (HR.out.blk 0 rfl) Try.underlying53 rfl HSz.out ?_
      (try go_simp)
      refine hK _ _ ?_
      clear hK K
      refine wpAny_ready (rs := [1]) (by kernel_rfl) (by simp) ?_
      refine AllReady.cons (o := ⟨some 8, .load 22 (.tmp 7), 22, "wraps.go:16", #[⟨0, .data⟩], none⟩) rfl (fun K hK => ?_) ?_
      · go_simp
        refine hK _ _ ?_
        clear hK K
        refine wpAny_ready (rs := [5]) (by kernel_rfl) (by simp) ?_
        refine AllReady.cons (o := ⟨some 12, .call { callee := .value (.func 77), args := #[.tmp 8, .tmp 11], argTypes := #[22, 53] }, 53, "wraps.go:16", #[⟨1, .data⟩, ⟨4, .data⟩], none⟩) rfl (fun K hK => ?_) ?_
        · go_simp
          go_at_call 77
          refine (mixed_any _ s bs HX.out).mono ?_
          rw [HM.out]
          rintro e w2 ⟨rfl, hH⟩
          replace HR := Aside0.mk (HR.out.app hH)
          clear hH
          go_simp
          refine hK _ _ ?_
          clear hK K
          refine wpAny_ready (rs := [7]) (by kernel_rfl) (by simp) ?_
          refine AllReady.cons (o := ⟨none, .store 53 (.tmp 6) (.tmp 12), 0, "wraps.go:16", #[⟨6, .data⟩, ⟨5, .data⟩, ⟨5, .chain⟩, ⟨0, .phase⟩, ⟨1, .phase⟩, ⟨2, .phase⟩, ⟨3, .phase⟩, ⟨4, .phase⟩, ⟨5, .phase⟩, ⟨6, .phase⟩], none⟩) rfl (fun K hK => ?_) ?_
          · refine step_of rfl ?_
            refine wp_store_row 53 (.tmp 6) (.tmp 12) rfl _ (ms.map bV).toArray (by rfl) (by rfl) 53 _ (HR.out.blk 1 rfl) HMz.out HMs.out (bV_all ms) ?_
            replace HR := Aside0.mk (HR.out.setRow (cs' := (ms.map bV).toArray) 1 rfl)
            (try go_simp)
            refine hK _ _ ?_
            clear hK K
            refine wpAny_done (by kernel_rfl) ?_ _
            have HCo := C_blk HR.out 1 rfl (by rw [HMl.out]; decide)
            rw [HMl.out] at HCo
            have HC2 := Aside0.mk HCo
            have HZc : Aside0 (bs.take 0 ++ ms.take 16 ++ bs.drop (0 + 16) = ms) := ⟨by rw [List.take_zero, List.take_of_length_le (by rw [HMl.out]; exact Nat.le_refl _), List.drop_eq_nil_of_le (by rw [HX.out]; exact Nat.le_refl _), List.nil_append, List.append_nil]⟩
            clear HCo
            go_wp2_with ((with_reducible refine at_bi (b := .copy) (xs := #[.tmp 13, .tmp 14]) rfl ?_); refine wpList_plain rfl fun K hK => ?_; refine copy_wp (zs := bs) (ys := ms) (t := 5) (HR.out.blk 0 rfl) (.tmp 13) (.tmp 14) 23 23 rfl Try.underlying23 (by kernel_rfl) 0 16 c 16 16 _ rfl rfl HC2.out 16 rfl (by rw [HX.out]; decide) ms HZc.out ?_; refine hK _ _ ?_; clear hK K)
            go_end0
            refine ⟨rfl, ?_⟩
            exact (HR.out.setRow (cs' := (ms.map bV).toArray) 0 rfl).swap.tail
          exact AllReady.nil
        exact AllReady.nil
      exact AllReady.nil
    exact AllReady.nil
  exact AllReady.nil
set_option maxRecDepth 100000 in
set_option maxHeartbeats 4000000 in
theorem decrypt_any {w0 : World} {B : Nat} {L : List Asrt} (w : World) (s : UInt64) (g c c2 : Nat) (bs : List UInt8) (h16 : bs.length = 16) (H : Hold w0 B w (.blk g (.cells (bs.map bV).toArray 5 (0, 0)) :: L)) :
    Calls Try.prog 74 #[.agg #[hv s], .slice (some ⟨g, 0, none⟩) 16 c, .slice (some ⟨g, 0, none⟩) 16 c2] w fun e w' => e = .returned (.tuple #[]) ∧ Hold w0 B w' (.blk g (.cells ((backB s bs).map bV).toArray 5 (0, 0)) :: L) := by
  have H1 := Aside0.mk H
  have HX := Aside0.mk h16
  clear h16 H
  obtain ⟨ms, hms⟩ : ∃ ms, ms = backB s bs := ⟨_, rfl⟩
  have HM : Aside0 (blockOf (backU s (halvesOf bs)) = ms) := ⟨hms.symm⟩
  have HMz : Aside0 ((Try.prog.info? 53).map (·.size) = some (ms.map bV).toArray.size) := ⟨by
    rw [hms]
    kernel_rfl⟩
  rw [← hms]
  have HMs : Aside0 (16 = (ms.map bV).toArray.size) := ⟨by rw [hms]; rfl⟩
  have HMl : Aside0 (ms.length = 16) := ⟨by rw [hms]; rfl⟩
  clear hms
  unfold hv
  go_enter Try.func74, Try.ntmps74
  go_wp2
  have HR := Aside0.mk (H1.out.alloc_ (.cells #[.int .u64 (s.toNat : Int)] 48)).drew
  have HSz : Aside0 ((Try.prog.info? 53).map (·.size) = some (bs.map bV).toArray.size) := ⟨by
    rw [List.size_toArray, List.length_map, HX.out]
    kernel_rfl⟩
  have ha := fun W => run_arrayAt (P := Try.prog) 53 _ 16 (some ⟨g, 0, none⟩) 16 c2 Try.underlying53 (Nat.le_refl _) (w := W)
  refine wp_region_any (by kernel_rfl) ?_
  change wpAny _ _ _ _ _ _ _ (World.drew _)
  refine wpAny_take (i := 0) (v := ?_) rfl (by kernel_rfl) (by kernel_rfl) (by kernel_rfl) (fun _ _ _ h => h) (Or.inl ⟨by rfl, by intro w; go_simp; with_reducible rfl⟩) ?_
  refine wpAny_take (i := 2) (v := ?_) rfl (by kernel_rfl) (by kernel_rfl) (by kernel_rfl) (fun _ _ _ h => h) (Or.inl ⟨by rfl, by intro w; go_simp; with_reducible rfl⟩) ?_
  refine wpAny_take (i := 3) (v := ?_) rfl (by kernel_rfl) (by kernel_rfl) (by kernel_rfl) (fun _ _ _ h => h) (Or.inl ⟨by rfl, by intro w; go_simp; with_reducible rfl⟩) ?_
  refine wpAny_ready (rs := [1, 4, 6]) (by kernel_rfl) (by simp) ?_
  refine AllReady.cons (o := ⟨some 8, .load 22 (.tmp 7), 22, "wraps.go:21", #[⟨0, .data⟩], none⟩) rfl (fun K hK => ?_) ?_
  · go_simp
    refine hK _ _ ?_
    clear hK K
    refine wpAny_ready (rs := [4, 6]) (by kernel_rfl) (by simp) ?_
    refine AllReady.cons (o := ⟨some 11, .load 53 (.tmp 10), 53, "wraps.go:21", #[⟨3, .data⟩], none⟩) rfl (fun K hK => ?_) ?_
    · refine step_of rfl ?_
      refine wp_load_row 53 (.tmp 10) rfl g (by rfl) 5 (bs.map bV).toArray (0, 0) _ (HR.out.blk 0 rfl) Try.underlying53 rfl HSz.out ?_
      (try go_simp)
      refine hK _ _ ?_
      clear hK K
      refine wpAny_ready (rs := [5, 6]) (by kernel_rfl) (by simp) ?_
      refine AllReady.cons (o := ⟨some 12, .call { callee := .value (.func 76), args := #[.tmp 8, .tmp 11], argTypes := #[22, 53] }, 53, "wraps.go:21", #[⟨1, .data⟩, ⟨4, .data⟩], none⟩) rfl (fun K hK => ?_) ?_
      · go_simp
        go_at_call 76
        refine (mixedBack_any _ s bs HX.out).mono ?_
        rw [HM.out]
        rintro e w2 ⟨rfl, hH⟩
        replace HR := Aside0.mk (HR.out.app hH)
        clear hH
        go_simp
        refine hK _ _ ?_
        clear hK K
        refine wpAny_ready (rs := [6]) (by kernel_rfl) (by simp) ?_
        refine AllReady.cons (o := ⟨some 6, .alloc 53, 0, "wraps.go:21", #[], none⟩) rfl (fun K hK => ?_) ?_
        · refine step_of rfl ?_
          refine alloc_wp 53 rfl (.agg #[.int .u8 0, .int .u8 0, .int .u8 0, .int .u8 0, .int .u8 0, .int .u8 0, .int .u8 0, .int .u8 0, .int .u8 0, .int .u8 0, .int .u8 0, .int .u8 0, .int .u8 0, .int .u8 0, .int .u8 0, .int .u8 0]) #[.int .u8 0, .int .u8 0, .int .u8 0, .int .u8 0, .int .u8 0, .int .u8 0, .int .u8 0, .int .u8 0, .int .u8 0, .int .u8 0, .int .u8 0, .int .u8 0, .int .u8 0, .int .u8 0, .int .u8 0, .int .u8 0] (by kernel_rfl) rfl ?_
          replace HR := Aside0.mk (HR.out.alloc (.cells #[.int .u8 0, .int .u8 0, .int .u8 0, .int .u8 0, .int .u8 0, .int .u8 0, .int .u8 0, .int .u8 0, .int .u8 0, .int .u8 0, .int .u8 0, .int .u8 0, .int .u8 0, .int .u8 0, .int .u8 0, .int .u8 0] 53)).swap
          (try go_simp)
          refine hK _ _ ?_
          clear hK K
          refine wpAny_ready (rs := [7]) (by kernel_rfl) (by simp) ?_
          refine AllReady.cons (o := ⟨none, .store 53 (.tmp 6) (.tmp 12), 0, "wraps.go:21", #[⟨6, .data⟩, ⟨5, .data⟩, ⟨5, .chain⟩, ⟨0, .phase⟩, ⟨1, .phase⟩, ⟨2, .phase⟩, ⟨3, .phase⟩, ⟨4, .phase⟩, ⟨5, .phase⟩, ⟨6, .phase⟩], none⟩) rfl (fun K hK => ?_) ?_
          · refine step_of rfl ?_
            refine wp_store_row 53 (.tmp 6) (.tmp 12) rfl _ (ms.map bV).toArray (by rfl) (by rfl) 53 _ (HR.out.blk 1 rfl) HMz.out HMs.out (bV_all ms) ?_
            replace HR := Aside0.mk (HR.out.setRow (cs' := (ms.map bV).toArray) 1 rfl)
            (try go_simp)
            refine hK _ _ ?_
            clear hK K
            refine wpAny_done (by kernel_rfl) ?_ _
            have HCo := C_blk HR.out 1 rfl (by rw [HMl.out]; decide)
            rw [HMl.out] at HCo
            have HC2 := Aside0.mk HCo
            have HZc : Aside0 (bs.take 0 ++ ms.take 16 ++ bs.drop (0 + 16) = ms) := ⟨by rw [List.take_zero, List.take_of_length_le (by rw [HMl.out]; exact Nat.le_refl _), List.drop_eq_nil_of_le (by rw [HX.out]; exact Nat.le_refl _), List.nil_append, List.append_nil]⟩
            clear HCo
            go_wp2_with ((with_reducible refine at_bi (b := .copy) (xs := #[.tmp 13, .tmp 14]) rfl ?_); refine wpList_plain rfl fun K hK => ?_; refine copy_wp (zs := bs) (ys := ms) (t := 5) (HR.out.blk 0 rfl) (.tmp 13) (.tmp 14) 23 23 rfl Try.underlying23 (by kernel_rfl) 0 16 c 16 16 _ rfl rfl HC2.out 16 rfl (by rw [HX.out]; decide) ms HZc.out ?_; refine hK _ _ ?_; clear hK K)
            go_end0
            refine ⟨rfl, ?_⟩
            exact (HR.out.setRow (cs' := (ms.map bV).toArray) 0 rfl).swap.tail
          exact AllReady.nil
        exact AllReady.nil
      refine AllReady.cons (o := ⟨some 6, .alloc 53, 0, "wraps.go:21", #[], none⟩) rfl (fun K hK => ?_) ?_
      · refine step_of rfl ?_
        refine alloc_wp 53 rfl (.agg #[.int .u8 0, .int .u8 0, .int .u8 0, .int .u8 0, .int .u8 0, .int .u8 0, .int .u8 0, .int .u8 0, .int .u8 0, .int .u8 0, .int .u8 0, .int .u8 0, .int .u8 0, .int .u8 0, .int .u8 0, .int .u8 0]) #[.int .u8 0, .int .u8 0, .int .u8 0, .int .u8 0, .int .u8 0, .int .u8 0, .int .u8 0, .int .u8 0, .int .u8 0, .int .u8 0, .int .u8 0, .int .u8 0, .int .u8 0, .int .u8 0, .int .u8 0, .int .u8 0] (by kernel_rfl) rfl ?_
        replace HR := Aside0.mk (HR.out.alloc (.cells #[.int .u8 0, .int .u8 0, .int .u8 0, .int .u8 0, .int .u8 0, .int .u8 0, .int .u8 0, .int .u8 0, .int .u8 0, .int .u8 0, .int .u8 0, .int .u8 0, .int .u8 0, .int .u8 0, .int .u8 0, .int .u8 0] 53)).swap
        have es : (w.alloc (.cells #[.int .u64 (s.toNat : Int)] 48)).drew.heap.size = w.heap.size + 1 := by simp
        rw [es] at HR
        clear es
        (try go_simp)
        refine hK _ _ ?_
        clear hK K
        refine wpAny_ready (rs := [5]) (by kernel_rfl) (by simp) ?_
        refine AllReady.cons (o := ⟨some 12, .call { callee := .value (.func 76), args := #[.tmp 8, .tmp 11], argTypes := #[22, 53] }, 53, "wraps.go:21", #[⟨1, .data⟩, ⟨4, .data⟩], none⟩) rfl (fun K hK => ?_) ?_
        · go_simp
          go_at_call 76
          refine (mixedBack_any _ s bs HX.out).mono ?_
          rw [HM.out]
          rintro e w2 ⟨rfl, hH⟩
          replace HR := Aside0.mk (HR.out.app hH)
          clear hH
          go_simp
          refine hK _ _ ?_
          clear hK K
          refine wpAny_ready (rs := [7]) (by kernel_rfl) (by simp) ?_
          refine AllReady.cons (o := ⟨none, .store 53 (.tmp 6) (.tmp 12), 0, "wraps.go:21", #[⟨6, .data⟩, ⟨5, .data⟩, ⟨5, .chain⟩, ⟨0, .phase⟩, ⟨1, .phase⟩, ⟨2, .phase⟩, ⟨3, .phase⟩, ⟨4, .phase⟩, ⟨5, .phase⟩, ⟨6, .phase⟩], none⟩) rfl (fun K hK => ?_) ?_
          · refine step_of rfl ?_
            refine wp_store_row 53 (.tmp 6) (.tmp 12) rfl _ (ms.map bV).toArray (by rfl) (by rfl) 53 _ (HR.out.blk 1 rfl) HMz.out HMs.out (bV_all ms) ?_
            replace HR := Aside0.mk (HR.out.setRow (cs' := (ms.map bV).toArray) 1 rfl)
            (try go_simp)
            refine hK _ _ ?_
            clear hK K
            refine wpAny_done (by kernel_rfl) ?_ _
            have HCo := C_blk HR.out 1 rfl (by rw [HMl.out]; decide)
            rw [HMl.out] at HCo
            have HC2 := Aside0.mk HCo
            have HZc : Aside0 (bs.take 0 ++ ms.take 16 ++ bs.drop (0 + 16) = ms) := ⟨by rw [List.take_zero, List.take_of_length_le (by rw [HMl.out]; exact Nat.le_refl _), List.drop_eq_nil_of_le (by rw [HX.out]; exact Nat.le_refl _), List.nil_append, List.append_nil]⟩
            clear HCo
            go_wp2_with ((with_reducible refine at_bi (b := .copy) (xs := #[.tmp 13, .tmp 14]) rfl ?_); refine wpList_plain rfl fun K hK => ?_; refine copy_wp (zs := bs) (ys := ms) (t := 5) (HR.out.blk 0 rfl) (.tmp 13) (.tmp 14) 23 23 rfl Try.underlying23 (by kernel_rfl) 0 16 c 16 16 _ rfl rfl HC2.out 16 rfl (by rw [HX.out]; decide) ms HZc.out ?_; refine hK _ _ ?_; clear hK K)
            go_end0
            refine ⟨rfl, ?_⟩
            exact (HR.out.setRow (cs' := (ms.map bV).toArray) 0 rfl).swap.tail
          exact AllReady.nil
        exact AllReady.nil
      exact AllReady.nil
    refine AllReady.cons (o := ⟨some 6, .alloc 53, 0, "wraps.go:21", #[], none⟩) rfl (fun K hK => ?_) ?_
    · refine step_of rfl ?_
      refine alloc_wp 53 rfl (.agg #[.int .u8 0, .int .u8 0, .int .u8 0, .int .u8 0, .int .u8 0, .int .u8 0, .int .u8 0, .int .u8 0, .int .u8 0, .int .u8 0, .int .u8 0, .int .u8 0, .int .u8 0, .int .u8 0, .int .u8 0, .int .u8 0]) #[.int .u8 0, .int .u8 0, .int .u8 0, .int .u8 0, .int .u8 0, .int .u8 0, .int .u8 0, .int .u8 0, .int .u8 0, .int .u8 0, .int .u8 0, .int .u8 0, .int .u8 0, .int .u8 0, .int .u8 0, .int .u8 0] (by kernel_rfl) rfl ?_
      replace HR := Aside0.mk (HR.out.alloc (.cells #[.int .u8 0, .int .u8 0, .int .u8 0, .int .u8 0, .int .u8 0, .int .u8 0, .int .u8 0, .int .u8 0, .int .u8 0, .int .u8 0, .int .u8 0, .int .u8 0, .int .u8 0, .int .u8 0, .int .u8 0, .int .u8 0] 53)).swap
      have es : (w.alloc (.cells #[.int .u64 (s.toNat : Int)] 48)).drew.heap.size = w.heap.size + 1 := by simp
      rw [es] at HR
      clear es
      (try go_simp)
      refine hK _ _ ?_
      clear hK K
      refine wpAny_ready (rs := [4]) (by kernel_rfl) (by simp) ?_
      refine AllReady.cons (o := ⟨some 11, .load 53 (.tmp 10), 53, "wraps.go:21", #[⟨3, .data⟩], none⟩) rfl (fun K hK => ?_) ?_
      · refine step_of rfl ?_
        refine wp_load_row 53 (.tmp 10) rfl g (by rfl) 5 (bs.map bV).toArray (0, 0) _ (HR.out.blk 0 rfl) Try.underlying53 rfl HSz.out ?_
        (try go_simp)
        refine hK _ _ ?_
        clear hK K
        refine wpAny_ready (rs := [5]) (by kernel_rfl) (by simp) ?_
        refine AllReady.cons (o := ⟨some 12, .call { callee := .value (.func 76), args := #[.tmp 8, .tmp 11], argTypes := #[22, 53] }, 53, "wraps.go:21", #[⟨1, .data⟩, ⟨4, .data⟩], none⟩) rfl (fun K hK => ?_) ?_
        · go_simp
          go_at_call 76
          refine (mixedBack_any _ s bs HX.out).mono ?_
          rw [HM.out]
          rintro e w2 ⟨rfl, hH⟩
          replace HR := Aside0.mk (HR.out.app hH)
          clear hH
          go_simp
          refine hK _ _ ?_
          clear hK K
          refine wpAny_ready (rs := [7]) (by kernel_rfl) (by simp) ?_
          refine AllReady.cons (o := ⟨none, .store 53 (.tmp 6) (.tmp 12), 0, "wraps.go:21", #[⟨6, .data⟩, ⟨5, .data⟩, ⟨5, .chain⟩, ⟨0, .phase⟩, ⟨1, .phase⟩, ⟨2, .phase⟩, ⟨3, .phase⟩, ⟨4, .phase⟩, ⟨5, .phase⟩, ⟨6, .phase⟩], none⟩) rfl (fun K hK => ?_) ?_
          · refine step_of rfl ?_
            refine wp_store_row 53 (.tmp 6) (.tmp 12) rfl _ (ms.map bV).toArray (by rfl) (by rfl) 53 _ (HR.out.blk 1 rfl) HMz.out HMs.out (bV_all ms) ?_
            replace HR := Aside0.mk (HR.out.setRow (cs' := (ms.map bV).toArray) 1 rfl)
            (try go_simp)
            refine hK _ _ ?_
            clear hK K
            refine wpAny_done (by kernel_rfl) ?_ _
            have HCo := C_blk HR.out 1 rfl (by rw [HMl.out]; decide)
            rw [HMl.out] at HCo
            have HC2 := Aside0.mk HCo
            have HZc : Aside0 (bs.take 0 ++ ms.take 16 ++ bs.drop (0 + 16) = ms) := ⟨by rw [List.take_zero, List.take_of_length_le (by rw [HMl.out]; exact Nat.le_refl _), List.drop_eq_nil_of_le (by rw [HX.out]; exact Nat.le_refl _), List.nil_append, List.append_nil]⟩
            clear HCo
            go_wp2_with ((with_reducible refine at_bi (b := .copy) (xs := #[.tmp 13, .tmp 14]) rfl ?_); refine wpList_plain rfl fun K hK => ?_; refine copy_wp (zs := bs) (ys := ms) (t := 5) (HR.out.blk 0 rfl) (.tmp 13) (.tmp 14) 23 23 rfl Try.underlying23 (by kernel_rfl) 0 16 c 16 16 _ rfl rfl HC2.out 16 rfl (by rw [HX.out]; decide) ms HZc.out ?_; refine hK _ _ ?_; clear hK K)
            go_end0
            refine ⟨rfl, ?_⟩
            exact (HR.out.setRow (cs' := (ms.map bV).toArray) 0 rfl).swap.tail
          exact AllReady.nil
        exact AllReady.nil
      exact AllReady.nil
    exact AllReady.nil
  refine AllReady.cons (o := ⟨some 11, .load 53 (.tmp 10), 53, "wraps.go:21", #[⟨3, .data⟩], none⟩) rfl (fun K hK => ?_) ?_
  · refine step_of rfl ?_
    refine wp_load_row 53 (.tmp 10) rfl g (by rfl) 5 (bs.map bV).toArray (0, 0) _ (HR.out.blk 0 rfl) Try.underlying53 rfl HSz.out ?_
    (try go_simp)
    refine hK _ _ ?_
    clear hK K
    refine wpAny_ready (rs := [1, 6]) (by kernel_rfl) (by simp) ?_
    refine AllReady.cons (o := ⟨some 8, .load 22 (.tmp 7), 22, "wraps.go:21", #[⟨0, .data⟩], none⟩) rfl (fun K hK => ?_) ?_
    · go_simp
      refine hK _ _ ?_
      clear hK K
      refine wpAny_ready (rs := [5, 6]) (by kernel_rfl) (by simp) ?_
      refine AllReady.cons (o := ⟨some 12, .call { callee := .value (.func 76), args := #[.tmp 8, .tmp 11], argTypes := #[22, 53] }, 53, "wraps.go:21", #[⟨1, .data⟩, ⟨4, .data⟩], none⟩) rfl (fun K hK => ?_) ?_
      · go_simp
        go_at_call 76
        refine (mixedBack_any _ s bs HX.out).mono ?_
        rw [HM.out]
        rintro e w2 ⟨rfl, hH⟩
        replace HR := Aside0.mk (HR.out.app hH)
        clear hH
        go_simp
        refine hK _ _ ?_
        clear hK K
        refine wpAny_ready (rs := [6]) (by kernel_rfl) (by simp) ?_
        refine AllReady.cons (o := ⟨some 6, .alloc 53, 0, "wraps.go:21", #[], none⟩) rfl (fun K hK => ?_) ?_
        · refine step_of rfl ?_
          refine alloc_wp 53 rfl (.agg #[.int .u8 0, .int .u8 0, .int .u8 0, .int .u8 0, .int .u8 0, .int .u8 0, .int .u8 0, .int .u8 0, .int .u8 0, .int .u8 0, .int .u8 0, .int .u8 0, .int .u8 0, .int .u8 0, .int .u8 0, .int .u8 0]) #[.int .u8 0, .int .u8 0, .int .u8 0, .int .u8 0, .int .u8 0, .int .u8 0, .int .u8 0, .int .u8 0, .int .u8 0, .int .u8 0, .int .u8 0, .int .u8 0, .int .u8 0, .int .u8 0, .int .u8 0, .int .u8 0] (by kernel_rfl) rfl ?_
          replace HR := Aside0.mk (HR.out.alloc (.cells #[.int .u8 0, .int .u8 0, .int .u8 0, .int .u8 0, .int .u8 0, .int .u8 0, .int .u8 0, .int .u8 0, .int .u8 0, .int .u8 0, .int .u8 0, .int .u8 0, .int .u8 0, .int .u8 0, .int .u8 0, .int .u8 0] 53)).swap
          (try go_simp)
          refine hK _ _ ?_
          clear hK K
          refine wpAny_ready (rs := [7]) (by kernel_rfl) (by simp) ?_
          refine AllReady.cons (o := ⟨none, .store 53 (.tmp 6) (.tmp 12), 0, "wraps.go:21", #[⟨6, .data⟩, ⟨5, .data⟩, ⟨5, .chain⟩, ⟨0, .phase⟩, ⟨1, .phase⟩, ⟨2, .phase⟩, ⟨3, .phase⟩, ⟨4, .phase⟩, ⟨5, .phase⟩, ⟨6, .phase⟩], none⟩) rfl (fun K hK => ?_) ?_
          · refine step_of rfl ?_
            refine wp_store_row 53 (.tmp 6) (.tmp 12) rfl _ (ms.map bV).toArray (by rfl) (by rfl) 53 _ (HR.out.blk 1 rfl) HMz.out HMs.out (bV_all ms) ?_
            replace HR := Aside0.mk (HR.out.setRow (cs' := (ms.map bV).toArray) 1 rfl)
            (try go_simp)
            refine hK _ _ ?_
            clear hK K
            refine wpAny_done (by kernel_rfl) ?_ _
            have HCo := C_blk HR.out 1 rfl (by rw [HMl.out]; decide)
            rw [HMl.out] at HCo
            have HC2 := Aside0.mk HCo
            have HZc : Aside0 (bs.take 0 ++ ms.take 16 ++ bs.drop (0 + 16) = ms) := ⟨by rw [List.take_zero, List.take_of_length_le (by rw [HMl.out]; exact Nat.le_refl _), List.drop_eq_nil_of_le (by rw [HX.out]; exact Nat.le_refl _), List.nil_append, List.append_nil]⟩
            clear HCo
            go_wp2_with ((with_reducible refine at_bi (b := .copy) (xs := #[.tmp 13, .tmp 14]) rfl ?_); refine wpList_plain rfl fun K hK => ?_; refine copy_wp (zs := bs) (ys := ms) (t := 5) (HR.out.blk 0 rfl) (.tmp 13) (.tmp 14) 23 23 rfl Try.underlying23 (by kernel_rfl) 0 16 c 16 16 _ rfl rfl HC2.out 16 rfl (by rw [HX.out]; decide) ms HZc.out ?_; refine hK _ _ ?_; clear hK K)
            go_end0
            refine ⟨rfl, ?_⟩
            exact (HR.out.setRow (cs' := (ms.map bV).toArray) 0 rfl).swap.tail
          exact AllReady.nil
        exact AllReady.nil
      refine AllReady.cons (o := ⟨some 6, .alloc 53, 0, "wraps.go:21", #[], none⟩) rfl (fun K hK => ?_) ?_
      · refine step_of rfl ?_
        refine alloc_wp 53 rfl (.agg #[.int .u8 0, .int .u8 0, .int .u8 0, .int .u8 0, .int .u8 0, .int .u8 0, .int .u8 0, .int .u8 0, .int .u8 0, .int .u8 0, .int .u8 0, .int .u8 0, .int .u8 0, .int .u8 0, .int .u8 0, .int .u8 0]) #[.int .u8 0, .int .u8 0, .int .u8 0, .int .u8 0, .int .u8 0, .int .u8 0, .int .u8 0, .int .u8 0, .int .u8 0, .int .u8 0, .int .u8 0, .int .u8 0, .int .u8 0, .int .u8 0, .int .u8 0, .int .u8 0] (by kernel_rfl) rfl ?_
        replace HR := Aside0.mk (HR.out.alloc (.cells #[.int .u8 0, .int .u8 0, .int .u8 0, .int .u8 0, .int .u8 0, .int .u8 0, .int .u8 0, .int .u8 0, .int .u8 0, .int .u8 0, .int .u8 0, .int .u8 0, .int .u8 0, .int .u8 0, .int .u8 0, .int .u8 0] 53)).swap
        have es : (w.alloc (.cells #[.int .u64 (s.toNat : Int)] 48)).drew.heap.size = w.heap.size + 1 := by simp
        rw [es] at HR
        clear es
        (try go_simp)
        refine hK _ _ ?_
        clear hK K
        refine wpAny_ready (rs := [5]) (by kernel_rfl) (by simp) ?_
        refine AllReady.cons (o := ⟨some 12, .call { callee := .value (.func 76), args := #[.tmp 8, .tmp 11], argTypes := #[22, 53] }, 53, "wraps.go:21", #[⟨1, .data⟩, ⟨4, .data⟩], none⟩) rfl (fun K hK => ?_) ?_
        · go_simp
          go_at_call 76
          refine (mixedBack_any _ s bs HX.out).mono ?_
          rw [HM.out]
          rintro e w2 ⟨rfl, hH⟩
          replace HR := Aside0.mk (HR.out.app hH)
          clear hH
          go_simp
          refine hK _ _ ?_
          clear hK K
          refine wpAny_ready (rs := [7]) (by kernel_rfl) (by simp) ?_
          refine AllReady.cons (o := ⟨none, .store 53 (.tmp 6) (.tmp 12), 0, "wraps.go:21", #[⟨6, .data⟩, ⟨5, .data⟩, ⟨5, .chain⟩, ⟨0, .phase⟩, ⟨1, .phase⟩, ⟨2, .phase⟩, ⟨3, .phase⟩, ⟨4, .phase⟩, ⟨5, .phase⟩, ⟨6, .phase⟩], none⟩) rfl (fun K hK => ?_) ?_
          · refine step_of rfl ?_
            refine wp_store_row 53 (.tmp 6) (.tmp 12) rfl _ (ms.map bV).toArray (by rfl) (by rfl) 53 _ (HR.out.blk 1 rfl) HMz.out HMs.out (bV_all ms) ?_
            replace HR := Aside0.mk (HR.out.setRow (cs' := (ms.map bV).toArray) 1 rfl)
            (try go_simp)
            refine hK _ _ ?_
            clear hK K
            refine wpAny_done (by kernel_rfl) ?_ _
            have HCo := C_blk HR.out 1 rfl (by rw [HMl.out]; decide)
            rw [HMl.out] at HCo
            have HC2 := Aside0.mk HCo
            have HZc : Aside0 (bs.take 0 ++ ms.take 16 ++ bs.drop (0 + 16) = ms) := ⟨by rw [List.take_zero, List.take_of_length_le (by rw [HMl.out]; exact Nat.le_refl _), List.drop_eq_nil_of_le (by rw [HX.out]; exact Nat.le_refl _), List.nil_append, List.append_nil]⟩
            clear HCo
            go_wp2_with ((with_reducible refine at_bi (b := .copy) (xs := #[.tmp 13, .tmp 14]) rfl ?_); refine wpList_plain rfl fun K hK => ?_; refine copy_wp (zs := bs) (ys := ms) (t := 5) (HR.out.blk 0 rfl) (.tmp 13) (.tmp 14) 23 23 rfl Try.underlying23 (by kernel_rfl) 0 16 c 16 16 _ rfl rfl HC2.out 16 rfl (by rw [HX.out]; decide) ms HZc.out ?_; refine hK _ _ ?_; clear hK K)
            go_end0
            refine ⟨rfl, ?_⟩
            exact (HR.out.setRow (cs' := (ms.map bV).toArray) 0 rfl).swap.tail
          exact AllReady.nil
        exact AllReady.nil
      exact AllReady.nil
    refine AllReady.cons (o := ⟨some 6, .alloc 53, 0, "wraps.go:21", #[], none⟩) rfl (fun K hK => ?_) ?_
    · refine step_of rfl ?_
      refine alloc_wp 53 rfl (.agg #[.int .u8 0, .int .u8 0, .int .u8 0, .int .u8 0, .int .u8 0, .int .u8 0, .int .u8 0, .int .u8 0, .int .u8 0, .int .u8 0, .int .u8 0, .int .u8 0, .int .u8 0, .int .u8 0, .int .u8 0, .int .u8 0]) #[.int .u8 0, .int .u8 0, .int .u8 0, .int .u8 0, .int .u8 0, .int .u8 0, .int .u8 0, .int .u8 0, .int .u8 0, .int .u8 0, .int .u8 0, .int .u8 0, .int .u8 0, .int .u8 0, .int .u8 0, .int .u8 0] (by kernel_rfl) rfl ?_
      replace HR := Aside0.mk (HR.out.alloc (.cells #[.int .u8 0, .int .u8 0, .int .u8 0, .int .u8 0, .int .u8 0, .int .u8 0, .int .u8 0, .int .u8 0, .int .u8 0, .int .u8 0, .int .u8 0, .int .u8 0, .int .u8 0, .int .u8 0, .int .u8 0, .int .u8 0] 53)).swap
      have es : (w.alloc (.cells #[.int .u64 (s.toNat : Int)] 48)).drew.heap.size = w.heap.size + 1 := by simp
      rw [es] at HR
      clear es
      (try go_simp)
      refine hK _ _ ?_
      clear hK K
      refine wpAny_ready (rs := [1]) (by kernel_rfl) (by simp) ?_
      refine AllReady.cons (o := ⟨some 8, .load 22 (.tmp 7), 22, "wraps.go:21", #[⟨0, .data⟩], none⟩) rfl (fun K hK => ?_) ?_
      · go_simp
        refine hK _ _ ?_
        clear hK K
        refine wpAny_ready (rs := [5]) (by kernel_rfl) (by simp) ?_
        refine AllReady.cons (o := ⟨some 12, .call { callee := .value (.func 76), args := #[.tmp 8, .tmp 11], argTypes := #[22, 53] }, 53, "wraps.go:21", #[⟨1, .data⟩, ⟨4, .data⟩], none⟩) rfl (fun K hK => ?_) ?_
        · go_simp
          go_at_call 76
          refine (mixedBack_any _ s bs HX.out).mono ?_
          rw [HM.out]
          rintro e w2 ⟨rfl, hH⟩
          replace HR := Aside0.mk (HR.out.app hH)
          clear hH
          go_simp
          refine hK _ _ ?_
          clear hK K
          refine wpAny_ready (rs := [7]) (by kernel_rfl) (by simp) ?_
          refine AllReady.cons (o := ⟨none, .store 53 (.tmp 6) (.tmp 12), 0, "wraps.go:21", #[⟨6, .data⟩, ⟨5, .data⟩, ⟨5, .chain⟩, ⟨0, .phase⟩, ⟨1, .phase⟩, ⟨2, .phase⟩, ⟨3, .phase⟩, ⟨4, .phase⟩, ⟨5, .phase⟩, ⟨6, .phase⟩], none⟩) rfl (fun K hK => ?_) ?_
          · refine step_of rfl ?_
            refine wp_store_row 53 (.tmp 6) (.tmp 12) rfl _ (ms.map bV).toArray (by rfl) (by rfl) 53 _ (HR.out.blk 1 rfl) HMz.out HMs.out (bV_all ms) ?_
            replace HR := Aside0.mk (HR.out.setRow (cs' := (ms.map bV).toArray) 1 rfl)
            (try go_simp)
            refine hK _ _ ?_
            clear hK K
            refine wpAny_done (by kernel_rfl) ?_ _
            have HCo := C_blk HR.out 1 rfl (by rw [HMl.out]; decide)
            rw [HMl.out] at HCo
            have HC2 := Aside0.mk HCo
            have HZc : Aside0 (bs.take 0 ++ ms.take 16 ++ bs.drop (0 + 16) = ms) := ⟨by rw [List.take_zero, List.take_of_length_le (by rw [HMl.out]; exact Nat.le_refl _), List.drop_eq_nil_of_le (by rw [HX.out]; exact Nat.le_refl _), List.nil_append, List.append_nil]⟩
            clear HCo
            go_wp2_with ((with_reducible refine at_bi (b := .copy) (xs := #[.tmp 13, .tmp 14]) rfl ?_); refine wpList_plain rfl fun K hK => ?_; refine copy_wp (zs := bs) (ys := ms) (t := 5) (HR.out.blk 0 rfl) (.tmp 13) (.tmp 14) 23 23 rfl Try.underlying23 (by kernel_rfl) 0 16 c 16 16 _ rfl rfl HC2.out 16 rfl (by rw [HX.out]; decide) ms HZc.out ?_; refine hK _ _ ?_; clear hK K)
            go_end0
            refine ⟨rfl, ?_⟩
            exact (HR.out.setRow (cs' := (ms.map bV).toArray) 0 rfl).swap.tail
          exact AllReady.nil
        exact AllReady.nil
      exact AllReady.nil
    exact AllReady.nil
  refine AllReady.cons (o := ⟨some 6, .alloc 53, 0, "wraps.go:21", #[], none⟩) rfl (fun K hK => ?_) ?_
  · refine step_of rfl ?_
    refine alloc_wp 53 rfl (.agg #[.int .u8 0, .int .u8 0, .int .u8 0, .int .u8 0, .int .u8 0, .int .u8 0, .int .u8 0, .int .u8 0, .int .u8 0, .int .u8 0, .int .u8 0, .int .u8 0, .int .u8 0, .int .u8 0, .int .u8 0, .int .u8 0]) #[.int .u8 0, .int .u8 0, .int .u8 0, .int .u8 0, .int .u8 0, .int .u8 0, .int .u8 0, .int .u8 0, .int .u8 0, .int .u8 0, .int .u8 0, .int .u8 0, .int .u8 0, .int .u8 0, .int .u8 0, .int .u8 0] (by kernel_rfl) rfl ?_
    replace HR := Aside0.mk (HR.out.alloc (.cells #[.int .u8 0, .int .u8 0, .int .u8 0, .int .u8 0, .int .u8 0, .int .u8 0, .int .u8 0, .int .u8 0, .int .u8 0, .int .u8 0, .int .u8 0, .int .u8 0, .int .u8 0, .int .u8 0, .int .u8 0, .int .u8 0] 53)).swap
    have es : (w.alloc (.cells #[.int .u64 (s.toNat : Int)] 48)).drew.heap.size = w.heap.size + 1 := by simp
    rw [es] at HR
    clear es
    (try go_simp)
    refine hK _ _ ?_
    clear hK K
    refine wpAny_ready (rs := [1, 4]) (by kernel_rfl) (by simp) ?_
    refine AllReady.cons (o := ⟨some 8, .load 22 (.tmp 7), 22, "wraps.go:21", #[⟨0, .data⟩], none⟩) rfl (fun K hK => ?_) ?_
    · go_simp
      refine hK _ _ ?_
      clear hK K
      refine wpAny_ready (rs := [4]) (by kernel_rfl) (by simp) ?_
      refine AllReady.cons (o := ⟨some 11, .load 53 (.tmp 10), 53, "wraps.go:21", #[⟨3, .data⟩], none⟩) rfl (fun K hK => ?_) ?_
      · refine step_of rfl ?_
        refine wp_load_row 53 (.tmp 10) rfl g (by rfl) 5 (bs.map bV).toArray (0, 0) _ (HR.out.blk 0 rfl) Try.underlying53 rfl HSz.out ?_
        (try go_simp)
        refine hK _ _ ?_
        clear hK K
        refine wpAny_ready (rs := [5]) (by kernel_rfl) (by simp) ?_
        refine AllReady.cons (o := ⟨some 12, .call { callee := .value (.func 76), args := #[.tmp 8, .tmp 11], argTypes := #[22, 53] }, 53, "wraps.go:21", #[⟨1, .data⟩, ⟨4, .data⟩], none⟩) rfl (fun K hK => ?_) ?_
        · go_simp
          go_at_call 76
          refine (mixedBack_any _ s bs HX.out).mono ?_
          rw [HM.out]
          rintro e w2 ⟨rfl, hH⟩
          replace HR := Aside0.mk (HR.out.app hH)
          clear hH
          go_simp
          refine hK _ _ ?_
          clear hK K
          refine wpAny_ready (rs := [7]) (by kernel_rfl) (by simp) ?_
          refine AllReady.cons (o := ⟨none, .store 53 (.tmp 6) (.tmp 12), 0, "wraps.go:21", #[⟨6, .data⟩, ⟨5, .data⟩, ⟨5, .chain⟩, ⟨0, .phase⟩, ⟨1, .phase⟩, ⟨2, .phase⟩, ⟨3, .phase⟩, ⟨4, .phase⟩, ⟨5, .phase⟩, ⟨6, .phase⟩], none⟩) rfl (fun K hK => ?_) ?_
          · refine step_of rfl ?_
            refine wp_store_row 53 (.tmp 6) (.tmp 12) rfl _ (ms.map bV).toArray (by rfl) (by rfl) 53 _ (HR.out.blk 1 rfl) HMz.out HMs.out (bV_all ms) ?_
            replace HR := Aside0.mk (HR.out.setRow (cs' := (ms.map bV).toArray) 1 rfl)
            (try go_simp)
            refine hK _ _ ?_
            clear hK K
            refine wpAny_done (by kernel_rfl) ?_ _
            have HCo := C_blk HR.out 1 rfl (by rw [HMl.out]; decide)
            rw [HMl.out] at HCo
            have HC2 := Aside0.mk HCo
            have HZc : Aside0 (bs.take 0 ++ ms.take 16 ++ bs.drop (0 + 16) = ms) := ⟨by rw [List.take_zero, List.take_of_length_le (by rw [HMl.out]; exact Nat.le_refl _), List.drop_eq_nil_of_le (by rw [HX.out]; exact Nat.le_refl _), List.nil_append, List.append_nil]⟩
            clear HCo
            go_wp2_with ((with_reducible refine at_bi (b := .copy) (xs := #[.tmp 13, .tmp 14]) rfl ?_); refine wpList_plain rfl fun K hK => ?_; refine copy_wp (zs := bs) (ys := ms) (t := 5) (HR.out.blk 0 rfl) (.tmp 13) (.tmp 14) 23 23 rfl Try.underlying23 (by kernel_rfl) 0 16 c 16 16 _ rfl rfl HC2.out 16 rfl (by rw [HX.out]; decide) ms HZc.out ?_; refine hK _ _ ?_; clear hK K)
            go_end0
            refine ⟨rfl, ?_⟩
            exact (HR.out.setRow (cs' := (ms.map bV).toArray) 0 rfl).swap.tail
          exact AllReady.nil
        exact AllReady.nil
      exact AllReady.nil
    refine AllReady.cons (o := ⟨some 11, .load 53 (.tmp 10), 53, "wraps.go:21", #[⟨3, .data⟩], none⟩) rfl (fun K hK => ?_) ?_
    · refine step_of rfl ?_
      refine wp_load_row 53 (.tmp 10) rfl g (by rfl) 5 (bs.map bV).toArray (0, 0) _ (HR.out.blk 0 rfl) Try.underlying53 rfl HSz.out ?_
      (try go_simp)
      refine hK _ _ ?_
      clear hK K
      refine wpAny_ready (rs := [1]) (by kernel_rfl) (by simp) ?_
      refine AllReady.cons (o := ⟨some 8, .load 22 (.tmp 7), 22, "wraps.go:21", #[⟨0, .data⟩], none⟩) rfl (fun K hK => ?_) ?_
      · go_simp
        refine hK _ _ ?_
        clear hK K
        refine wpAny_ready (rs := [5]) (by kernel_rfl) (by simp) ?_
        refine AllReady.cons (o := ⟨some 12, .call { callee := .value (.func 76), args := #[.tmp 8, .tmp 11], argTypes := #[22, 53] }, 53, "wraps.go:21", #[⟨1, .data⟩, ⟨4, .data⟩], none⟩) rfl (fun K hK => ?_) ?_
        · go_simp
          go_at_call 76
          refine (mixedBack_any _ s bs HX.out).mono ?_
          rw [HM.out]
          rintro e w2 ⟨rfl, hH⟩
          replace HR := Aside0.mk (HR.out.app hH)
          clear hH
          go_simp
          refine hK _ _ ?_
          clear hK K
          refine wpAny_ready (rs := [7]) (by kernel_rfl) (by simp) ?_
          refine AllReady.cons (o := ⟨none, .store 53 (.tmp 6) (.tmp 12), 0, "wraps.go:21", #[⟨6, .data⟩, ⟨5, .data⟩, ⟨5, .chain⟩, ⟨0, .phase⟩, ⟨1, .phase⟩, ⟨2, .phase⟩, ⟨3, .phase⟩, ⟨4, .phase⟩, ⟨5, .phase⟩, ⟨6, .phase⟩], none⟩) rfl (fun K hK => ?_) ?_
          · refine step_of rfl ?_
            refine wp_store_row 53 (.tmp 6) (.tmp 12) rfl _ (ms.map bV).toArray (by rfl) (by rfl) 53 _ (HR.out.blk 1 rfl) HMz.out HMs.out (bV_all ms) ?_
            replace HR := Aside0.mk (HR.out.setRow (cs' := (ms.map bV).toArray) 1 rfl)
            (try go_simp)
            refine hK _ _ ?_
            clear hK K
            refine wpAny_done (by kernel_rfl) ?_ _
            have HCo := C_blk HR.out 1 rfl (by rw [HMl.out]; decide)
            rw [HMl.out] at HCo
            have HC2 := Aside0.mk HCo
            have HZc : Aside0 (bs.take 0 ++ ms.take 16 ++ bs.drop (0 + 16) = ms) := ⟨by rw [List.take_zero, List.take_of_length_le (by rw [HMl.out]; exact Nat.le_refl _), List.drop_eq_nil_of_le (by rw [HX.out]; exact Nat.le_refl _), List.nil_append, List.append_nil]⟩
            clear HCo
            go_wp2_with ((with_reducible refine at_bi (b := .copy) (xs := #[.tmp 13, .tmp 14]) rfl ?_); refine wpList_plain rfl fun K hK => ?_; refine copy_wp (zs := bs) (ys := ms) (t := 5) (HR.out.blk 0 rfl) (.tmp 13) (.tmp 14) 23 23 rfl Try.underlying23 (by kernel_rfl) 0 16 c 16 16 _ rfl rfl HC2.out 16 rfl (by rw [HX.out]; decide) ms HZc.out ?_; refine hK _ _ ?_; clear hK K)
            go_end0
            refine ⟨rfl, ?_⟩
            exact (HR.out.setRow (cs' := (ms.map bV).toArray) 0 rfl).swap.tail
          exact AllReady.nil
        exact AllReady.nil
      exact AllReady.nil
    exact AllReady.nil
  exact AllReady.nil
end Go.Proofs.Ythbdlghkfibbaaa
