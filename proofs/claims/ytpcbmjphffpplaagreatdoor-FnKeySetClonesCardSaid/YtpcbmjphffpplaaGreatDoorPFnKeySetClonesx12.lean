-- PRINTED BY print.sh 35421559b90ae4d0a3588c463048766b98c2df88dd9212a6774a882060cdf62d: not written by this session
import Derived.Test.YtpcbmjphffpplaaGreatDoorPFnKeySetClonesx0
import Derived.Test.YtpcbmjphffpplaaGreatDoorPFnKeySetClonesx11
namespace Go.Proofs.YtpcbmjphffpplaaGreatDoor.PFnKeySetClones
open Go.RowKit Go.Proofs.YtpcbmjphffpplaaGreatDoorW.PrintWords Go.Proofs.YtpcbmjphffpplaaGreatDoorW.PrintLast Go.Proofs.YtpcbmjphffpplaaGreatDoorW.PrintMore
attribute [local go_sem] max2_int min2_int max_two min_two max_three min_three max_four min_four   -- for this text's walks alone
set_option linter.unusedVariables false
set_option linter.unusedSimpArgs false

/-! ### laws_sameRun: function 10 -/
mutual
def laws_sameRun.j0 : Nat → List (S37) → List (S37) → List (S32) → Bool → Option (Bool)
  | 0, _, _, _, _ => none
  | k + 1, x0, x1, x2, x19 => if x19 = true then (some false) else (laws_sameRun.l0 k x0 x1 x2 (x2.length : Int) 0)
def laws_sameRun.l0 : Nat → List (S37) → List (S37) → List (S32) → Int → Int → Option (Bool)
  | 0, _, _, _, _, _ => none
  | k + 1, x0, x1, x2, x21, x22 => if x22 < x21 then (if 0 ≤ x22 then (if x22 < (x0.length : Int) then (if x22 < (x1.length : Int) then (if x22 < (x2.length : Int) then ((laws_sameSet.f k ((rd_T37 x0 x22).f0) ((rd_T37 x0 x22).f1) ((rd_T37 x0 x22).f2) ((rd_T37 x0 x22).f3) ((rd_T37 x0 x22).f4) ((rd_T37 x0 x22).f5) ((rd_T37 x1 x22).f0) ((rd_T37 x1 x22).f1) ((rd_T37 x1 x22).f2) ((rd_T37 x1 x22).f3) ((rd_T37 x1 x22).f4) ((rd_T37 x1 x22).f5) ((rd_T32 x2 x22).f0) ((rd_T32 x2 x22).f1) ((rd_T32 x2 x22).f2) ((rd_T32 x2 x22).f3) ((rd_T32 x2 x22).f4)).bind fun t404 => (if t404 = true then (laws_sameRun.l0 k x0 x1 x2 x21 (wrap64 (x22 + 1))) else (some false))) else (none)) else (none)) else (none)) else (none)) else (some true)
end
def laws_sameRun.f (k : Nat) (l0 : List (S37)) (l1 : List (S37)) (l2 : List (S32)) : Option (Bool) := if (l0.length : Int) = (l2.length : Int) then (laws_sameRun.j0 k l0 l1 l2 ((l1.length : Int) != (l2.length : Int))) else (laws_sameRun.j0 k l0 l1 l2 true)
theorem laws_sameRun.mono_l : ∀ k, (∀ y0 y1 y2 y3, LeO (laws_sameRun.j0 k y0 y1 y2 y3) (laws_sameRun.j0 (k + 1) y0 y1 y2 y3)) ∧ (∀ y0 y1 y2 y3 y4, LeO (laws_sameRun.l0 k y0 y1 y2 y3 y4) (laws_sameRun.l0 (k + 1) y0 y1 y2 y3 y4))
  | 0 => ⟨fun _ _ _ _ r h => by simp [laws_sameRun.j0] at h, fun _ _ _ _ _ r h => by simp [laws_sameRun.l0] at h⟩
  | k + 1 => by
    obtain ⟨ih0, ih1⟩ := laws_sameRun.mono_l k
    refine ⟨?_, ?_⟩
    · intro y0 y1 y2 y3
      unfold laws_sameRun.j0
      repeat' first
      | (with_reducible exact ih0 _ _ _ _)
      | (with_reducible exact ih1 _ _ _ _ _)
      | (with_reducible exact laws_sameSet.mono _ _ _ _ _ _ _ _ _ _ _ _ _ _ _ _ _ _)
      | (with_reducible exact LeO.refl _)
      | (with_reducible exact LeO.none _)
      | (with_reducible refine LeO.ite ?_ ?_)
      | (with_reducible refine LeO.bind ?_ (fun _ => ?_))
      | exact ih0 _ _ _ _
      | exact ih1 _ _ _ _ _
      | exact laws_sameSet.mono _ _ _ _ _ _ _ _ _ _ _ _ _ _ _ _ _ _
      | exact LeO.none _
      | refine LeO.ite ?_ ?_
      | refine LeO.bind ?_ (fun _ => ?_)
    · intro y0 y1 y2 y3 y4
      unfold laws_sameRun.l0
      repeat' first
      | (with_reducible exact ih0 _ _ _ _)
      | (with_reducible exact ih1 _ _ _ _ _)
      | (with_reducible exact laws_sameSet.mono _ _ _ _ _ _ _ _ _ _ _ _ _ _ _ _ _ _)
      | (with_reducible exact LeO.refl _)
      | (with_reducible exact LeO.none _)
      | (with_reducible refine LeO.ite ?_ ?_)
      | (with_reducible refine LeO.bind ?_ (fun _ => ?_))
      | exact ih0 _ _ _ _
      | exact ih1 _ _ _ _ _
      | exact laws_sameSet.mono _ _ _ _ _ _ _ _ _ _ _ _ _ _ _ _ _ _
      | exact LeO.none _
      | refine LeO.ite ?_ ?_
      | refine LeO.bind ?_ (fun _ => ?_)
theorem laws_sameRun.mono : ∀ a0 a1 a2 k, LeO (laws_sameRun.f k a0 a1 a2) (laws_sameRun.f (k + 1) a0 a1 a2) := by
  intro a0 a1 a2 k
  obtain ⟨ih0, ih1⟩ := laws_sameRun.mono_l k
  unfold laws_sameRun.f
  repeat' first
      | (with_reducible exact ih0 _ _ _ _)
      | (with_reducible exact ih1 _ _ _ _ _)
      | (with_reducible exact laws_sameSet.mono _ _ _ _ _ _ _ _ _ _ _ _ _ _ _ _ _ _)
      | (with_reducible exact LeO.refl _)
      | (with_reducible exact LeO.none _)
      | (with_reducible refine LeO.ite ?_ ?_)
      | (with_reducible refine LeO.bind ?_ (fun _ => ?_))
      | exact ih0 _ _ _ _
      | exact ih1 _ _ _ _ _
      | exact laws_sameSet.mono _ _ _ _ _ _ _ _ _ _ _ _ _ _ _ _ _ _
      | exact LeO.none _
      | refine LeO.ite ?_ ?_
      | refine LeO.bind ?_ (fun _ => ?_)
def laws_sameRun.T6 : Bool × List (List Nat × List Nat) := (true, [([], []), ([], []), ([0, 1], [0, 1]), ([2], [2]), ([], []), ([], []), ([4, 5], [4, 5]), ([6], [6]), ([], []), ([], []), ([8, 9], [8, 9]), ([10], [10]), ([3, 7, 11], [3, 7, 11]), ([12], [12])])
def laws_sameRun.B6 : List Nat := [0, 0, 3, 7, 0, 0, 48, 112, 0, 0, 768, 1792, 4095, 8191]
theorem laws_sameRun.tab6 : rtab .any (opsOf Tryz.f10 6) = laws_sameRun.T6 := by kernel_rfl
theorem laws_sameRun.bits6 : waitsOk laws_sameRun.T6.2 laws_sameRun.B6 = true := by kernel_rfl
set_option maxHeartbeats 8000000 in
set_option maxRecDepth 100000 in
theorem laws_sameRun.calls (k : Nat) (A0 : Option Addr) (c0 : Nat) (l0 : List (S37)) (A1 : Option Addr) (c1 : Nat) (l1 : List (S37)) (A2 : Option Addr) (c2 : Nat) (l2 : List (S32)) (r : Bool) (w : World) (hr0 : Kd.C k37 w A0 l0.length l0) (hc0 : l0.length ≤ c0) (hr1 : Kd.C k37 w A1 l1.length l1) (hc1 : l1.length ≤ c1) (hr2 : Kd.C k32 w A2 l2.length l2) (hc2 : l2.length ≤ c2) (h : laws_sameRun.f k l0 l1 l2 = some r) :
    Calls Tryz.prog 10 #[.slice A0 l0.length c0, .slice A1 l1.length c1, .slice A2 l2.length c2] w fun e w' => e = .returned (.bool r) ∧ Below w.heap.size w w' := by
  have hu37 := Tryz.underlying37
  have hu32 := Tryz.underlying32
  have HR0 := Aside0.mk hr0
  have HC0 := Aside0.mk hc0
  clear hr0 hc0
  have HR1 := Aside0.mk hr1
  have HC1 := Aside0.mk hc1
  clear hr1 hc1
  have HR2 := Aside0.mk hr2
  have HC2 := Aside0.mk hc2
  clear hr2 hc2
  have HB := Aside0.mk (Below.refl w.heap.size w)
  have H : (if (l0.length : Int) = (l2.length : Int) then (laws_sameRun.j0 k l0 l1 l2 ((l1.length : Int) != (l2.length : Int))) else (laws_sameRun.j0 k l0 l1 l2 true)) = some r := h
  clear h
  have HC4 := Aside0.mk H
  clear H
  go_enter Tryz.func10, Tryz.ntmps10
  go_upto_region 1 with (fail)
  go_cut [19] (fun v19 wc => ∃ (kq : Nat) (x19_3 : Bool), v19 = .bool x19_3 ∧ Aside0 (laws_sameRun.j0 kq l0 l1 l2 x19_3 = some r) ∧ Aside0 (kq ≤ k) ∧ Aside0 (Below w.heap.size w wc))
  case first =>
    have H := HC4.out
    clear HC4
    by_cases c5 : (l0.length : Int) = (l2.length : Int)
    · rw [if_pos c5] at H
      have c5b0 : ((l0.length : Int) == (l2.length : Int)) = true := beq_iff_eq.mpr c5
      have c5b1 : ((l0.length : Int) != (l2.length : Int)) = false := bne_eq_false_iff_eq.mpr c5
      have c5b2 : (l0.length == l2.length) = true := by first | simpa using c5 | (simp at c5 ⊢; omega)
      clear c5
      (first | rw [c5b0] | (simp only [i64_w, i32_w]; rw [c5b0]) | skip)
      have H' := Aside0.mk H
      clear H
      go_wp2
      go_meet
      case rel => exact ⟨_, (((l1.length : Int) != (l2.length : Int))), (by first | rfl | (simp; done) | (simp [*]; done)), H', ⟨by first | omega | exact Nat.le_refl _⟩, ⟨by repeat (first | (with_reducible first | exact HB.out | apply below_alloc | apply pw_below_drewN | apply below_drew1) | exact HB.out)⟩⟩
    · rw [if_neg c5] at H
      have c5b0 : ((l0.length : Int) == (l2.length : Int)) = false := beq_eq_false_iff_ne.mpr c5
      have c5b1 : ((l0.length : Int) != (l2.length : Int)) = true := bne_iff_ne.mpr c5
      have c5b2 : (l0.length == l2.length) = false := by first | simpa using c5 | (simp at c5 ⊢; omega)
      (first | rw [c5b0] | (simp only [i64_w, i32_w]; rw [c5b0]) | skip)
      have H' := Aside0.mk H
      clear H
      go_wp2
      go_meet
      case rel => exact ⟨_, (true), (by first | rfl | (simp; done) | (simp [*]; done)), H', ⟨by first | omega | exact Nat.le_refl _⟩, ⟨by repeat (first | (with_reducible first | exact HB.out | apply below_alloc | apply pw_below_drewN | apply below_drew1) | exact HB.out)⟩⟩
  case rest =>
    clear HC4
    try clear c1
    try clear c2
    try clear p2
    try clear c5
    try clear c5b0
    try clear c5b1
    try clear c5b2
    obtain ⟨kq, x19_3, rfl, HA, HJ3, HB⟩ := hcut
    cases kq with
    | zero => exact absurd HA.out (by simp [laws_sameRun.j0])
    | succ kj3 =>
      have H := HA.out
      clear HA
      simp only [laws_sameRun.j0] at H
      by_cases c6 : x19_3 = true
      · subst c6
        have H1 : (some false) = some r := by rw [if_pos rfl] at H; exact H
        clear H
        have H := H1
        clear H1
        obtain rfl := Option.some.inj H
        go_wp2
        go_ret
        exact ⟨by first | rfl | (simp [errW_none, errW_some] <;> rfl) | (simp [*, errW_none, errW_some] <;> rfl), by repeat (first | (with_reducible first | exact HB.out | apply below_alloc | apply pw_below_drewN | apply below_drew1) | exact HB.out)⟩
      · replace c6 := Bool.eq_false_iff.mpr c6
        subst c6
        have H1 : (laws_sameRun.l0 kj3 l0 l1 l2 (l2.length : Int) 0) = some r := by rw [if_neg (show ¬ (false = true) by decide)] at H; exact H
        clear H
        have H := H1
        clear H1
        have H' := Aside0.mk H
        clear H
        go_wp2
        go_loopg [22] kj3 (fun kq v22 w' => ∃ (x22_2 : Int), v22 = .int .i64 x22_2 ∧ Aside0 (laws_sameRun.l0 kq l0 l1 l2 (l2.length : Int) x22_2 = some r) ∧ Aside0 (kq ≤ kj3) ∧ Aside0 (Below w.heap.size w w'))
        case atStart => exact ⟨(0), (by first | rfl | (simp; done) | (simp [*]; done)), H', ⟨Nat.le_refl _⟩, ⟨by repeat (first | (with_reducible first | exact HB.out | apply below_alloc | apply pw_below_drewN | apply below_drew1) | exact HB.out)⟩⟩
        case round =>
          clear H'
          try clear c1
          try clear c2
          try clear p2
          try clear c5
          try clear c5b0
          try clear c5b1
          try clear c5b2
          try clear c6
          try clear p2
          obtain ⟨x22_2, rfl, HA, HK2, HB⟩ := hrel
          cases gk with
          | zero => exact absurd HA.out (by simp [laws_sameRun.l0])
          | succ k2 =>
            have H := HA.out
            clear HA
            simp only [laws_sameRun.l0] at H
            by_cases c7 : x22_2 < (l2.length : Int)
            · rw [if_pos c7] at H
              have c7b0 : decide (x22_2 < (l2.length : Int)) = true := decide_eq_true c7
              clear c7
              by_cases c8 : 0 ≤ x22_2
              · rw [if_pos c8] at H
                have c8b0 : decide (0 ≤ x22_2) = true := decide_eq_true c8
                clear c8
                by_cases c9 : x22_2 < (l0.length : Int)
                · rw [if_pos c9] at H
                  have c9b0 : decide (x22_2 < (l0.length : Int)) = true := decide_eq_true c9
                  clear c9
                  by_cases c10 : x22_2 < (l1.length : Int)
                  · rw [if_pos c10] at H
                    have c10b0 : decide (x22_2 < (l1.length : Int)) = true := decide_eq_true c10
                    clear c10
                    by_cases c11 : x22_2 < (l2.length : Int)
                    · rw [if_pos c11] at H
                      have c11b0 : decide (x22_2 < (l2.length : Int)) = true := decide_eq_true c11
                      clear c11
                      replace H := Option.bind_eq_some_iff.mp H
                      obtain ⟨t404, A120, H⟩ := H
                      replace H : (if t404 = true then (laws_sameRun.l0 k2 l0 l1 l2 (l2.length : Int) (wrap64 (x22_2 + 1))) else (some false)) = some r := H
                      have A12 := Aside0.mk A120
                      clear A120
                      by_cases c13 : t404 = true
                      · subst c13
                        have H1 : (laws_sameRun.l0 k2 l0 l1 l2 (l2.length : Int) (wrap64 (x22_2 + 1))) = some r := by rw [if_pos rfl] at H; exact H
                        clear H
                        have H := H1
                        clear H1
                        have H' := Aside0.mk H
                        clear H
                        try go_wp2
                        have n0_ := Aside0.mk (below_drew1 HB.out)
                        clear HB
                        have HB := n0_
                        clear n0_
                        have p401 : 0 ≤ (x22_2 : Int) := of_decide_eq_true (by first | (with_reducible assumption) | assumption)
                        have q401 : x22_2 < (l0.length : Int) := of_decide_eq_true (by first | (with_reducible assumption) | assumption)
                        obtain ⟨ad401, A401_4, c401_4, A401_5, c401_5, e401, hx401_0, hx401_1, hx401_2, hx401_3, hx401_4, hx401_5, hl401_4, hi401_4, hl401_5, hi401_5⟩ := at_T37 HR0.out x22_2 p401 q401
                        have hw401_5 := hx401_5
                        have hw401_4 := hx401_4
                        have hw401_3 := hx401_3
                        have hw401_2 := hx401_2
                        have hw401_1 := hx401_1
                        have hw401_0 := hx401_0
                        cases e401
                        replace hx401_0 := (HB.out.cell (World.block_lt_of_cell? w _ hx401_0)).trans hx401_0
                        replace hx401_1 := (HB.out.cell (World.block_lt_of_cell? w _ hx401_1)).trans hx401_1
                        replace hx401_2 := (HB.out.cell (World.block_lt_of_cell? w _ hx401_2)).trans hx401_2
                        replace hx401_3 := (HB.out.cell (World.block_lt_of_cell? w _ hx401_3)).trans hx401_3
                        replace hx401_4 := (HB.out.cell (World.block_lt_of_cell? w _ hx401_4)).trans hx401_4
                        replace hx401_5 := (HB.out.cell (World.block_lt_of_cell? w _ hx401_5)).trans hx401_5
                        have HR401_4 := Aside0.mk hi401_4
                        have HC401_4 := Aside0.mk hl401_4
                        clear hi401_4 hl401_4
                        have HR401_5 := Aside0.mk hi401_5
                        have HC401_5 := Aside0.mk hl401_5
                        clear hi401_5 hl401_5
                        replace p401 := eq_true p401
                        replace q401 := eq_true q401
                        have p402 : 0 ≤ (x22_2 : Int) := of_decide_eq_true (by first | (with_reducible assumption) | assumption)
                        have q402 : x22_2 < (l1.length : Int) := of_decide_eq_true (by first | (with_reducible assumption) | assumption)
                        obtain ⟨ad402, A402_4, c402_4, A402_5, c402_5, e402, hx402_0, hx402_1, hx402_2, hx402_3, hx402_4, hx402_5, hl402_4, hi402_4, hl402_5, hi402_5⟩ := at_T37 HR1.out x22_2 p402 q402
                        have hw402_5 := hx402_5
                        have hw402_4 := hx402_4
                        have hw402_3 := hx402_3
                        have hw402_2 := hx402_2
                        have hw402_1 := hx402_1
                        have hw402_0 := hx402_0
                        cases e402
                        replace hx402_0 := (HB.out.cell (World.block_lt_of_cell? w _ hx402_0)).trans hx402_0
                        replace hx402_1 := (HB.out.cell (World.block_lt_of_cell? w _ hx402_1)).trans hx402_1
                        replace hx402_2 := (HB.out.cell (World.block_lt_of_cell? w _ hx402_2)).trans hx402_2
                        replace hx402_3 := (HB.out.cell (World.block_lt_of_cell? w _ hx402_3)).trans hx402_3
                        replace hx402_4 := (HB.out.cell (World.block_lt_of_cell? w _ hx402_4)).trans hx402_4
                        replace hx402_5 := (HB.out.cell (World.block_lt_of_cell? w _ hx402_5)).trans hx402_5
                        have HR402_4 := Aside0.mk hi402_4
                        have HC402_4 := Aside0.mk hl402_4
                        clear hi402_4 hl402_4
                        have HR402_5 := Aside0.mk hi402_5
                        have HC402_5 := Aside0.mk hl402_5
                        clear hi402_5 hl402_5
                        replace p402 := eq_true p402
                        replace q402 := eq_true q402
                        have p403 : 0 ≤ (x22_2 : Int) := of_decide_eq_true (by first | (with_reducible assumption) | assumption)
                        have q403 : x22_2 < (l2.length : Int) := of_decide_eq_true (by first | (with_reducible assumption) | assumption)
                        obtain ⟨ad403, e403, hx403_0, hx403_1, hx403_2, hx403_3, hx403_4⟩ := at_T32 HR2.out x22_2 p403 q403
                        have hw403_4 := hx403_4
                        have hw403_3 := hx403_3
                        have hw403_2 := hx403_2
                        have hw403_1 := hx403_1
                        have hw403_0 := hx403_0
                        cases e403
                        replace hx403_0 := (HB.out.cell (World.block_lt_of_cell? w _ hx403_0)).trans hx403_0
                        replace hx403_1 := (HB.out.cell (World.block_lt_of_cell? w _ hx403_1)).trans hx403_1
                        replace hx403_2 := (HB.out.cell (World.block_lt_of_cell? w _ hx403_2)).trans hx403_2
                        replace hx403_3 := (HB.out.cell (World.block_lt_of_cell? w _ hx403_3)).trans hx403_3
                        replace hx403_4 := (HB.out.cell (World.block_lt_of_cell? w _ hx403_4)).trans hx403_4
                        replace p403 := eq_true p403
                        replace q403 := eq_true q403
                        refine start_ (n := 14) (S := fun w' => w'.cell? (ad401.add ((x22_2).toNat * 6)) = some (.bool ((rd_T37 l0 x22_2).f0)) ∧ w'.cell? ⟨(ad401.add ((x22_2).toNat * 6)).block, (ad401.add ((x22_2).toNat * 6)).off + 1, none⟩ = some (.int .i64 ((rd_T37 l0 x22_2).f1)) ∧ w'.cell? ⟨(ad401.add ((x22_2).toNat * 6)).block, (ad401.add ((x22_2).toNat * 6)).off + 2, none⟩ = some (.int .i64 ((rd_T37 l0 x22_2).f2)) ∧ w'.cell? ⟨(ad401.add ((x22_2).toNat * 6)).block, (ad401.add ((x22_2).toNat * 6)).off + 3, none⟩ = some (.int .i64 ((rd_T37 l0 x22_2).f3)) ∧ w'.cell? ⟨(ad401.add ((x22_2).toNat * 6)).block, (ad401.add ((x22_2).toNat * 6)).off + 4, none⟩ = some (.slice A401_4 ((rd_T37 l0 x22_2).f4).length c401_4) ∧ w'.cell? ⟨(ad401.add ((x22_2).toNat * 6)).block, (ad401.add ((x22_2).toNat * 6)).off + 5, none⟩ = some (.slice A401_5 ((rd_T37 l0 x22_2).f5).length c401_5) ∧ w'.cell? (ad402.add ((x22_2).toNat * 6)) = some (.bool ((rd_T37 l1 x22_2).f0)) ∧ w'.cell? ⟨(ad402.add ((x22_2).toNat * 6)).block, (ad402.add ((x22_2).toNat * 6)).off + 1, none⟩ = some (.int .i64 ((rd_T37 l1 x22_2).f1)) ∧ w'.cell? ⟨(ad402.add ((x22_2).toNat * 6)).block, (ad402.add ((x22_2).toNat * 6)).off + 2, none⟩ = some (.int .i64 ((rd_T37 l1 x22_2).f2)) ∧ w'.cell? ⟨(ad402.add ((x22_2).toNat * 6)).block, (ad402.add ((x22_2).toNat * 6)).off + 3, none⟩ = some (.int .i64 ((rd_T37 l1 x22_2).f3)) ∧ w'.cell? ⟨(ad402.add ((x22_2).toNat * 6)).block, (ad402.add ((x22_2).toNat * 6)).off + 4, none⟩ = some (.slice A402_4 ((rd_T37 l1 x22_2).f4).length c402_4) ∧ w'.cell? ⟨(ad402.add ((x22_2).toNat * 6)).block, (ad402.add ((x22_2).toNat * 6)).off + 5, none⟩ = some (.slice A402_5 ((rd_T37 l1 x22_2).f5).length c402_5) ∧ w'.cell? (ad403.add ((x22_2).toNat * 5)) = some (.int .i64 ((rd_T32 l2 x22_2).f0)) ∧ w'.cell? ⟨(ad403.add ((x22_2).toNat * 5)).block, (ad403.add ((x22_2).toNat * 5)).off + 1, none⟩ = some (.int .i64 ((rd_T32 l2 x22_2).f1)) ∧ w'.cell? ⟨(ad403.add ((x22_2).toNat * 5)).block, (ad403.add ((x22_2).toNat * 5)).off + 2, none⟩ = some (.int .i64 ((rd_T32 l2 x22_2).f2)) ∧ w'.cell? ⟨(ad403.add ((x22_2).toNat * 5)).block, (ad403.add ((x22_2).toNat * 5)).off + 3, none⟩ = some (.string ((rd_T32 l2 x22_2).f3)) ∧ w'.cell? ⟨(ad403.add ((x22_2).toNat * 5)).block, (ad403.add ((x22_2).toNat * 5)).off + 4, none⟩ = some (.string ((rd_T32 l2 x22_2).f4))) (ds := []) #[false, false, false, false, false, false, false, false, false, false, false, false, false, false] (by kernel_rfl) rfl rfl ⟨((HB.out.cell (World.block_lt_of_cell? w _ hw401_0)).trans hw401_0), ((HB.out.cell (World.block_lt_of_cell? w _ hw401_1)).trans hw401_1), ((HB.out.cell (World.block_lt_of_cell? w _ hw401_2)).trans hw401_2), ((HB.out.cell (World.block_lt_of_cell? w _ hw401_3)).trans hw401_3), ((HB.out.cell (World.block_lt_of_cell? w _ hw401_4)).trans hw401_4), ((HB.out.cell (World.block_lt_of_cell? w _ hw401_5)).trans hw401_5), ((HB.out.cell (World.block_lt_of_cell? w _ hw402_0)).trans hw402_0), ((HB.out.cell (World.block_lt_of_cell? w _ hw402_1)).trans hw402_1), ((HB.out.cell (World.block_lt_of_cell? w _ hw402_2)).trans hw402_2), ((HB.out.cell (World.block_lt_of_cell? w _ hw402_3)).trans hw402_3), ((HB.out.cell (World.block_lt_of_cell? w _ hw402_4)).trans hw402_4), ((HB.out.cell (World.block_lt_of_cell? w _ hw402_5)).trans hw402_5), ((HB.out.cell (World.block_lt_of_cell? w _ hw403_0)).trans hw403_0), ((HB.out.cell (World.block_lt_of_cell? w _ hw403_1)).trans hw403_1), ((HB.out.cell (World.block_lt_of_cell? w _ hw403_2)).trans hw403_2), ((HB.out.cell (World.block_lt_of_cell? w _ hw403_3)).trans hw403_3), ((HB.out.cell (World.block_lt_of_cell? w _ hw403_4)).trans hw403_4)⟩ (fun hHeld => ?_); refine with_tabW laws_sameRun.tab6 laws_sameRun.bits6 (fun HT_ HW_ => ?_)
                        generalize wr.drew = w14 at HB HR401_4 HR401_5 HR402_4 HR402_5 hx401_0 hx401_1 hx401_2 hx401_3 hx401_4 hx401_5 hx402_0 hx402_1 hx402_2 hx402_3 hx402_4 hx402_5 hx403_0 hx403_1 hx403_2 hx403_3 hx403_4 hHeld ⊢
                        refine pure_ (i := 0) (N := some 25) (v := ?_) (a' := ?_) #[true, false, false, false, false, false, false, false, false, false, false, false, false, false] rfl rfl (any_of HT_.out (by kernel_rfl)) (fun _ _ _ h => h) (Or.inl ⟨by rfl, ?_⟩) ?_ ?_
                        rotate_left
                        · intro w'
                          go_simp
                          with_reducible rfl
                        rotate_left
                        · simp only [Act.put, List.setIfInBounds_toArray, List.set_cons_zero, List.set_cons_succ, i64_w, i32_w]
                          rfl
                        refine pure_ (i := 1) (N := some 26) (v := ?_) (a' := ?_) #[true, true, false, false, false, false, false, false, false, false, false, false, false, false] rfl rfl (any_of HT_.out (by kernel_rfl)) (fun _ _ _ h => h) (Or.inl ⟨by rfl, ?_⟩) ?_ ?_
                        rotate_left
                        · intro w'
                          go_simp
                          with_reducible rfl
                        rotate_left
                        · simp only [Act.put, List.setIfInBounds_toArray, List.set_cons_zero, List.set_cons_succ, i64_w, i32_w]
                          rfl
                        refine pure_ (i := 2) (N := some 27) (v := ?_) (a' := ?_) #[true, true, true, false, false, false, false, false, false, false, false, false, false, false] rfl rfl (any_of HT_.out (by kernel_rfl)) (fun _ _ _ h => h) (Or.inl ⟨by rfl, ?_⟩) ?_ ?_
                        rotate_left
                        · intro w'
                          go_simp
                          with_reducible rfl
                        rotate_left
                        · simp only [Act.put, List.setIfInBounds_toArray, List.set_cons_zero, List.set_cons_succ, i64_w, i32_w]
                          rfl
                        refine pure_ (i := 4) (N := some 29) (v := ?_) (a' := ?_) #[true, true, true, false, true, false, false, false, false, false, false, false, false, false] rfl rfl (any_of HT_.out (by kernel_rfl)) (fun _ _ _ h => h) (Or.inl ⟨by rfl, ?_⟩) ?_ ?_
                        rotate_left
                        · intro w'
                          go_simp
                          with_reducible rfl
                        rotate_left
                        · simp only [Act.put, List.setIfInBounds_toArray, List.set_cons_zero, List.set_cons_succ, i64_w, i32_w]
                          rfl
                        refine pure_ (i := 5) (N := some 30) (v := ?_) (a' := ?_) #[true, true, true, false, true, true, false, false, false, false, false, false, false, false] rfl rfl (any_of HT_.out (by kernel_rfl)) (fun _ _ _ h => h) (Or.inl ⟨by rfl, ?_⟩) ?_ ?_
                        rotate_left
                        · intro w'
                          go_simp
                          with_reducible rfl
                        rotate_left
                        · simp only [Act.put, List.setIfInBounds_toArray, List.set_cons_zero, List.set_cons_succ, i64_w, i32_w]
                          rfl
                        refine pure_ (i := 6) (N := some 31) (v := ?_) (a' := ?_) #[true, true, true, false, true, true, true, false, false, false, false, false, false, false] rfl rfl (any_of HT_.out (by kernel_rfl)) (fun _ _ _ h => h) (Or.inl ⟨by rfl, ?_⟩) ?_ ?_
                        rotate_left
                        · intro w'
                          go_simp
                          with_reducible rfl
                        rotate_left
                        · simp only [Act.put, List.setIfInBounds_toArray, List.set_cons_zero, List.set_cons_succ, i64_w, i32_w]
                          rfl
                        refine pure_ (i := 8) (N := some 33) (v := ?_) (a' := ?_) #[true, true, true, false, true, true, true, false, true, false, false, false, false, false] rfl rfl (any_of HT_.out (by kernel_rfl)) (fun _ _ _ h => h) (Or.inl ⟨by rfl, ?_⟩) ?_ ?_
                        rotate_left
                        · intro w'
                          go_simp
                          with_reducible rfl
                        rotate_left
                        · simp only [Act.put, List.setIfInBounds_toArray, List.set_cons_zero, List.set_cons_succ, i64_w, i32_w]
                          rfl
                        refine pure_ (i := 9) (N := some 34) (v := ?_) (a' := ?_) #[true, true, true, false, true, true, true, false, true, true, false, false, false, false] rfl rfl (any_of HT_.out (by kernel_rfl)) (fun _ _ _ h => h) (Or.inl ⟨by rfl, ?_⟩) ?_ ?_
                        rotate_left
                        · intro w'
                          go_simp
                          with_reducible rfl
                        rotate_left
                        · simp only [Act.put, List.setIfInBounds_toArray, List.set_cons_zero, List.set_cons_succ, i64_w, i32_w]
                          rfl
                        refine pure_ (i := 10) (N := some 35) (v := ?_) (a' := ?_) #[true, true, true, false, true, true, true, false, true, true, true, false, false, false] rfl rfl (any_of HT_.out (by kernel_rfl)) (fun _ _ _ h => h) (Or.inl ⟨by rfl, ?_⟩) ?_ ?_
                        rotate_left
                        · intro w'
                          go_simp
                          with_reducible rfl
                        rotate_left
                        · simp only [Act.put, List.setIfInBounds_toArray, List.set_cons_zero, List.set_cons_succ, i64_w, i32_w]
                          rfl
                        refine take_ (i := 3) (N := some 28) (v := ?_) (a' := ?_) #[true, true, true, true, true, true, true, false, true, true, true, false, false, false] rfl rfl (take_ofW HT_.out HW_.out (by kernel_rfl)) (fun _ _ _ h => h) (Or.inl ⟨by rfl, ?_⟩) hHeld ?_ ?_
                        rotate_left
                        · rintro w' ⟨s0, s1, s2, s3, s4, s5, s6, s7, s8, s9, s10, s11, s12, s13, s14, s15, s16⟩
                          go_simp
                          with_reducible rfl
                        rotate_left
                        · simp only [Act.put, List.setIfInBounds_toArray, List.set_cons_zero, List.set_cons_succ, i64_w, i32_w]
                          rfl
                        refine take_ (i := 7) (N := some 32) (v := ?_) (a' := ?_) #[true, true, true, true, true, true, true, true, true, true, true, false, false, false] rfl rfl (take_ofW HT_.out HW_.out (by kernel_rfl)) (fun _ _ _ h => h) (Or.inl ⟨by rfl, ?_⟩) hHeld ?_ ?_
                        rotate_left
                        · rintro w' ⟨s0, s1, s2, s3, s4, s5, s6, s7, s8, s9, s10, s11, s12, s13, s14, s15, s16⟩
                          go_simp
                          with_reducible rfl
                        rotate_left
                        · simp only [Act.put, List.setIfInBounds_toArray, List.set_cons_zero, List.set_cons_succ, i64_w, i32_w]
                          rfl
                        refine take_ (i := 11) (N := some 36) (v := ?_) (a' := ?_) #[true, true, true, true, true, true, true, true, true, true, true, true, false, false] rfl rfl (take_ofW HT_.out HW_.out (by kernel_rfl)) (fun _ _ _ h => h) (Or.inl ⟨by rfl, ?_⟩) hHeld ?_ ?_
                        rotate_left
                        · rintro w' ⟨s0, s1, s2, s3, s4, s5, s6, s7, s8, s9, s10, s11, s12, s13, s14, s15, s16⟩
                          go_simp
                          with_reducible rfl
                        rotate_left
                        · simp only [Act.put, List.setIfInBounds_toArray, List.set_cons_zero, List.set_cons_succ, i64_w, i32_w]
                          rfl
                        refine one_ (i := 12) (N := some 37) #[true, true, true, true, true, true, true, true, true, true, true, true, true, false] rfl rfl (one_of HT_.out (by kernel_rfl)) (by decide) (fun K hK => ?_)
                        refine goes_ Tryz.func20 (by kernel_rfl) rfl #[.agg #[.bool ((rd_T37 l0 x22_2).f0), .int .i64 ((rd_T37 l0 x22_2).f1), .int .i64 ((rd_T37 l0 x22_2).f2), .int .i64 ((rd_T37 l0 x22_2).f3), .slice A401_4 ((rd_T37 l0 x22_2).f4).length c401_4, .slice A401_5 ((rd_T37 l0 x22_2).f5).length c401_5], .agg #[.bool ((rd_T37 l1 x22_2).f0), .int .i64 ((rd_T37 l1 x22_2).f1), .int .i64 ((rd_T37 l1 x22_2).f2), .int .i64 ((rd_T37 l1 x22_2).f3), .slice A402_4 ((rd_T37 l1 x22_2).f4).length c402_4, .slice A402_5 ((rd_T37 l1 x22_2).f5).length c402_5], .agg #[.int .i64 ((rd_T32 l2 x22_2).f0), .int .i64 ((rd_T32 l2 x22_2).f1), .int .i64 ((rd_T32 l2 x22_2).f2), .string ((rd_T32 l2 x22_2).f3), .string ((rd_T32 l2 x22_2).f4)]] (by rfl) rfl rfl (by (try simp only [List.map_toArray, List.map_cons, List.map_nil]); first | done | rfl | (simp only [List.length_drop, List.length_take]; rfl)) ?_
                        with_reducible refine (laws_sameSet.calls k2 ((rd_T37 l0 x22_2).f0) ((rd_T37 l0 x22_2).f1) ((rd_T37 l0 x22_2).f2) ((rd_T37 l0 x22_2).f3) _ _ ((rd_T37 l0 x22_2).f4) _ _ ((rd_T37 l0 x22_2).f5) ((rd_T37 l1 x22_2).f0) ((rd_T37 l1 x22_2).f1) ((rd_T37 l1 x22_2).f2) ((rd_T37 l1 x22_2).f3) _ _ ((rd_T37 l1 x22_2).f4) _ _ ((rd_T37 l1 x22_2).f5) ((rd_T32 l2 x22_2).f0) ((rd_T32 l2 x22_2).f1) ((rd_T32 l2 x22_2).f2) ((rd_T32 l2 x22_2).f3) ((rd_T32 l2 x22_2).f4) true _ ?side1 ?side2 ?side3 ?side4 ?side5 ?side6 ?side7 ?side8 A12.out).mono ?_
                        (case side1 => repeat (first | exact (Kd.C_below HR401_4.out HB.out) | (with_reducible refine Kd.C_alloc ?_ _) | (with_reducible refine Kd.C_drewN ?_ _) | (with_reducible refine Kd.C_drew ?_)))
                        (case side2 => exact HC401_4.out)
                        (case side3 => repeat (first | exact (Kd.C_below HR401_5.out HB.out) | (with_reducible refine Kd.C_alloc ?_ _) | (with_reducible refine Kd.C_drewN ?_ _) | (with_reducible refine Kd.C_drew ?_)))
                        (case side4 => exact HC401_5.out)
                        (case side5 => repeat (first | exact (Kd.C_below HR402_4.out HB.out) | (with_reducible refine Kd.C_alloc ?_ _) | (with_reducible refine Kd.C_drewN ?_ _) | (with_reducible refine Kd.C_drew ?_)))
                        (case side6 => exact HC402_4.out)
                        (case side7 => repeat (first | exact (Kd.C_below HR402_5.out HB.out) | (with_reducible refine Kd.C_alloc ?_ _) | (with_reducible refine Kd.C_drewN ?_ _) | (with_reducible refine Kd.C_drew ?_)))
                        (case side8 => exact HC402_5.out)
                        rintro e w15 ⟨rfl, hb⟩
                        refine ⟨_, rfl, ?_⟩
                        have n0_ := Aside0.mk (below_step (by repeat (first | (with_reducible first | exact HB.out | apply below_alloc | apply pw_below_drewN | apply below_drew1) | exact HB.out)) hb)
                        clear HB
                        have HB := n0_
                        clear n0_
                        (try clear hb)
                        (try clear hb2)
                        (try clear hk)
                        (try clear hi)
                        refine hK.out _ _ ⟨((HB.out.cell (World.block_lt_of_cell? w _ hw401_0)).trans hw401_0), ((HB.out.cell (World.block_lt_of_cell? w _ hw401_1)).trans hw401_1), ((HB.out.cell (World.block_lt_of_cell? w _ hw401_2)).trans hw401_2), ((HB.out.cell (World.block_lt_of_cell? w _ hw401_3)).trans hw401_3), ((HB.out.cell (World.block_lt_of_cell? w _ hw401_4)).trans hw401_4), ((HB.out.cell (World.block_lt_of_cell? w _ hw401_5)).trans hw401_5), ((HB.out.cell (World.block_lt_of_cell? w _ hw402_0)).trans hw402_0), ((HB.out.cell (World.block_lt_of_cell? w _ hw402_1)).trans hw402_1), ((HB.out.cell (World.block_lt_of_cell? w _ hw402_2)).trans hw402_2), ((HB.out.cell (World.block_lt_of_cell? w _ hw402_3)).trans hw402_3), ((HB.out.cell (World.block_lt_of_cell? w _ hw402_4)).trans hw402_4), ((HB.out.cell (World.block_lt_of_cell? w _ hw402_5)).trans hw402_5), ((HB.out.cell (World.block_lt_of_cell? w _ hw403_0)).trans hw403_0), ((HB.out.cell (World.block_lt_of_cell? w _ hw403_1)).trans hw403_1), ((HB.out.cell (World.block_lt_of_cell? w _ hw403_2)).trans hw403_2), ((HB.out.cell (World.block_lt_of_cell? w _ hw403_3)).trans hw403_3), ((HB.out.cell (World.block_lt_of_cell? w _ hw403_4)).trans hw403_4)⟩ (fun hHeld => ?_)
                        clear hK K
                        refine norm_ (a' := ?_) ?_ ?_
                        rotate_left
                        · show Act.put _ (some 37) _ = _
                          simp only [Act.put, List.setIfInBounds_toArray, List.set_cons_zero, List.set_cons_succ, i64_w, i32_w]
                          rfl
                        refine pure_ (i := 13) (N := some 38) (v := ?_) (a' := ?_) #[true, true, true, true, true, true, true, true, true, true, true, true, true, true] rfl rfl (any_of HT_.out (by kernel_rfl)) (fun _ _ _ h => h) (Or.inl ⟨by rfl, ?_⟩) ?_ ?_
                        rotate_left
                        · intro w'
                          go_simp
                          with_reducible rfl
                        rotate_left
                        · simp only [Act.put, List.setIfInBounds_toArray, List.set_cons_zero, List.set_cons_succ, i64_w, i32_w]
                          rfl
                        refine done_ (done_of HT_.out (by kernel_rfl)) ?_
                        try go_wp2
                        go_roundg k2
                        case measure => have := HJ3.out; have := HK2.out; omega
                        case rel => exact ⟨(wrap64 (x22_2 + 1)), (by first | rfl | (simp; done) | (simp [*]; done)), H', ⟨by have := HJ3.out; have := HK2.out; omega⟩, ⟨by repeat (first | (with_reducible first | exact HB.out | apply below_alloc | apply pw_below_drewN | apply below_drew1) | exact HB.out)⟩⟩
                      · replace c13 := Bool.eq_false_iff.mpr c13
                        subst c13
                        have H1 : (some false) = some r := by rw [if_neg (show ¬ (false = true) by decide)] at H; exact H
                        clear H
                        have H := H1
                        clear H1
                        obtain rfl := Option.some.inj H
                        try go_wp2
                        have n0_ := Aside0.mk (below_drew1 HB.out)
                        clear HB
                        have HB := n0_
                        clear n0_
                        have p401 : 0 ≤ (x22_2 : Int) := of_decide_eq_true (by first | (with_reducible assumption) | assumption)
                        have q401 : x22_2 < (l0.length : Int) := of_decide_eq_true (by first | (with_reducible assumption) | assumption)
                        obtain ⟨ad401, A401_4, c401_4, A401_5, c401_5, e401, hx401_0, hx401_1, hx401_2, hx401_3, hx401_4, hx401_5, hl401_4, hi401_4, hl401_5, hi401_5⟩ := at_T37 HR0.out x22_2 p401 q401
                        have hw401_5 := hx401_5
                        have hw401_4 := hx401_4
                        have hw401_3 := hx401_3
                        have hw401_2 := hx401_2
                        have hw401_1 := hx401_1
                        have hw401_0 := hx401_0
                        cases e401
                        replace hx401_0 := (HB.out.cell (World.block_lt_of_cell? w _ hx401_0)).trans hx401_0
                        replace hx401_1 := (HB.out.cell (World.block_lt_of_cell? w _ hx401_1)).trans hx401_1
                        replace hx401_2 := (HB.out.cell (World.block_lt_of_cell? w _ hx401_2)).trans hx401_2
                        replace hx401_3 := (HB.out.cell (World.block_lt_of_cell? w _ hx401_3)).trans hx401_3
                        replace hx401_4 := (HB.out.cell (World.block_lt_of_cell? w _ hx401_4)).trans hx401_4
                        replace hx401_5 := (HB.out.cell (World.block_lt_of_cell? w _ hx401_5)).trans hx401_5
                        have HR401_4 := Aside0.mk hi401_4
                        have HC401_4 := Aside0.mk hl401_4
                        clear hi401_4 hl401_4
                        have HR401_5 := Aside0.mk hi401_5
                        have HC401_5 := Aside0.mk hl401_5
                        clear hi401_5 hl401_5
                        replace p401 := eq_true p401
                        replace q401 := eq_true q401
                        have p402 : 0 ≤ (x22_2 : Int) := of_decide_eq_true (by first | (with_reducible assumption) | assumption)
                        have q402 : x22_2 < (l1.length : Int) := of_decide_eq_true (by first | (with_reducible assumption) | assumption)
                        obtain ⟨ad402, A402_4, c402_4, A402_5, c402_5, e402, hx402_0, hx402_1, hx402_2, hx402_3, hx402_4, hx402_5, hl402_4, hi402_4, hl402_5, hi402_5⟩ := at_T37 HR1.out x22_2 p402 q402
                        have hw402_5 := hx402_5
                        have hw402_4 := hx402_4
                        have hw402_3 := hx402_3
                        have hw402_2 := hx402_2
                        have hw402_1 := hx402_1
                        have hw402_0 := hx402_0
                        cases e402
                        replace hx402_0 := (HB.out.cell (World.block_lt_of_cell? w _ hx402_0)).trans hx402_0
                        replace hx402_1 := (HB.out.cell (World.block_lt_of_cell? w _ hx402_1)).trans hx402_1
                        replace hx402_2 := (HB.out.cell (World.block_lt_of_cell? w _ hx402_2)).trans hx402_2
                        replace hx402_3 := (HB.out.cell (World.block_lt_of_cell? w _ hx402_3)).trans hx402_3
                        replace hx402_4 := (HB.out.cell (World.block_lt_of_cell? w _ hx402_4)).trans hx402_4
                        replace hx402_5 := (HB.out.cell (World.block_lt_of_cell? w _ hx402_5)).trans hx402_5
                        have HR402_4 := Aside0.mk hi402_4
                        have HC402_4 := Aside0.mk hl402_4
                        clear hi402_4 hl402_4
                        have HR402_5 := Aside0.mk hi402_5
                        have HC402_5 := Aside0.mk hl402_5
                        clear hi402_5 hl402_5
                        replace p402 := eq_true p402
                        replace q402 := eq_true q402
                        have p403 : 0 ≤ (x22_2 : Int) := of_decide_eq_true (by first | (with_reducible assumption) | assumption)
                        have q403 : x22_2 < (l2.length : Int) := of_decide_eq_true (by first | (with_reducible assumption) | assumption)
                        obtain ⟨ad403, e403, hx403_0, hx403_1, hx403_2, hx403_3, hx403_4⟩ := at_T32 HR2.out x22_2 p403 q403
                        have hw403_4 := hx403_4
                        have hw403_3 := hx403_3
                        have hw403_2 := hx403_2
                        have hw403_1 := hx403_1
                        have hw403_0 := hx403_0
                        cases e403
                        replace hx403_0 := (HB.out.cell (World.block_lt_of_cell? w _ hx403_0)).trans hx403_0
                        replace hx403_1 := (HB.out.cell (World.block_lt_of_cell? w _ hx403_1)).trans hx403_1
                        replace hx403_2 := (HB.out.cell (World.block_lt_of_cell? w _ hx403_2)).trans hx403_2
                        replace hx403_3 := (HB.out.cell (World.block_lt_of_cell? w _ hx403_3)).trans hx403_3
                        replace hx403_4 := (HB.out.cell (World.block_lt_of_cell? w _ hx403_4)).trans hx403_4
                        replace p403 := eq_true p403
                        replace q403 := eq_true q403
                        refine start_ (n := 14) (S := fun w' => w'.cell? (ad401.add ((x22_2).toNat * 6)) = some (.bool ((rd_T37 l0 x22_2).f0)) ∧ w'.cell? ⟨(ad401.add ((x22_2).toNat * 6)).block, (ad401.add ((x22_2).toNat * 6)).off + 1, none⟩ = some (.int .i64 ((rd_T37 l0 x22_2).f1)) ∧ w'.cell? ⟨(ad401.add ((x22_2).toNat * 6)).block, (ad401.add ((x22_2).toNat * 6)).off + 2, none⟩ = some (.int .i64 ((rd_T37 l0 x22_2).f2)) ∧ w'.cell? ⟨(ad401.add ((x22_2).toNat * 6)).block, (ad401.add ((x22_2).toNat * 6)).off + 3, none⟩ = some (.int .i64 ((rd_T37 l0 x22_2).f3)) ∧ w'.cell? ⟨(ad401.add ((x22_2).toNat * 6)).block, (ad401.add ((x22_2).toNat * 6)).off + 4, none⟩ = some (.slice A401_4 ((rd_T37 l0 x22_2).f4).length c401_4) ∧ w'.cell? ⟨(ad401.add ((x22_2).toNat * 6)).block, (ad401.add ((x22_2).toNat * 6)).off + 5, none⟩ = some (.slice A401_5 ((rd_T37 l0 x22_2).f5).length c401_5) ∧ w'.cell? (ad402.add ((x22_2).toNat * 6)) = some (.bool ((rd_T37 l1 x22_2).f0)) ∧ w'.cell? ⟨(ad402.add ((x22_2).toNat * 6)).block, (ad402.add ((x22_2).toNat * 6)).off + 1, none⟩ = some (.int .i64 ((rd_T37 l1 x22_2).f1)) ∧ w'.cell? ⟨(ad402.add ((x22_2).toNat * 6)).block, (ad402.add ((x22_2).toNat * 6)).off + 2, none⟩ = some (.int .i64 ((rd_T37 l1 x22_2).f2)) ∧ w'.cell? ⟨(ad402.add ((x22_2).toNat * 6)).block, (ad402.add ((x22_2).toNat * 6)).off + 3, none⟩ = some (.int .i64 ((rd_T37 l1 x22_2).f3)) ∧ w'.cell? ⟨(ad402.add ((x22_2).toNat * 6)).block, (ad402.add ((x22_2).toNat * 6)).off + 4, none⟩ = some (.slice A402_4 ((rd_T37 l1 x22_2).f4).length c402_4) ∧ w'.cell? ⟨(ad402.add ((x22_2).toNat * 6)).block, (ad402.add ((x22_2).toNat * 6)).off + 5, none⟩ = some (.slice A402_5 ((rd_T37 l1 x22_2).f5).length c402_5) ∧ w'.cell? (ad403.add ((x22_2).toNat * 5)) = some (.int .i64 ((rd_T32 l2 x22_2).f0)) ∧ w'.cell? ⟨(ad403.add ((x22_2).toNat * 5)).block, (ad403.add ((x22_2).toNat * 5)).off + 1, none⟩ = some (.int .i64 ((rd_T32 l2 x22_2).f1)) ∧ w'.cell? ⟨(ad403.add ((x22_2).toNat * 5)).block, (ad403.add ((x22_2).toNat * 5)).off + 2, none⟩ = some (.int .i64 ((rd_T32 l2 x22_2).f2)) ∧ w'.cell? ⟨(ad403.add ((x22_2).toNat * 5)).block, (ad403.add ((x22_2).toNat * 5)).off + 3, none⟩ = some (.string ((rd_T32 l2 x22_2).f3)) ∧ w'.cell? ⟨(ad403.add ((x22_2).toNat * 5)).block, (ad403.add ((x22_2).toNat * 5)).off + 4, none⟩ = some (.string ((rd_T32 l2 x22_2).f4))) (ds := []) #[false, false, false, false, false, false, false, false, false, false, false, false, false, false] (by kernel_rfl) rfl rfl ⟨((HB.out.cell (World.block_lt_of_cell? w _ hw401_0)).trans hw401_0), ((HB.out.cell (World.block_lt_of_cell? w _ hw401_1)).trans hw401_1), ((HB.out.cell (World.block_lt_of_cell? w _ hw401_2)).trans hw401_2), ((HB.out.cell (World.block_lt_of_cell? w _ hw401_3)).trans hw401_3), ((HB.out.cell (World.block_lt_of_cell? w _ hw401_4)).trans hw401_4), ((HB.out.cell (World.block_lt_of_cell? w _ hw401_5)).trans hw401_5), ((HB.out.cell (World.block_lt_of_cell? w _ hw402_0)).trans hw402_0), ((HB.out.cell (World.block_lt_of_cell? w _ hw402_1)).trans hw402_1), ((HB.out.cell (World.block_lt_of_cell? w _ hw402_2)).trans hw402_2), ((HB.out.cell (World.block_lt_of_cell? w _ hw402_3)).trans hw402_3), ((HB.out.cell (World.block_lt_of_cell? w _ hw402_4)).trans hw402_4), ((HB.out.cell (World.block_lt_of_cell? w _ hw402_5)).trans hw402_5), ((HB.out.cell (World.block_lt_of_cell? w _ hw403_0)).trans hw403_0), ((HB.out.cell (World.block_lt_of_cell? w _ hw403_1)).trans hw403_1), ((HB.out.cell (World.block_lt_of_cell? w _ hw403_2)).trans hw403_2), ((HB.out.cell (World.block_lt_of_cell? w _ hw403_3)).trans hw403_3), ((HB.out.cell (World.block_lt_of_cell? w _ hw403_4)).trans hw403_4)⟩ (fun hHeld => ?_); refine with_tabW laws_sameRun.tab6 laws_sameRun.bits6 (fun HT_ HW_ => ?_)
                        generalize wr.drew = w16 at HB HR401_4 HR401_5 HR402_4 HR402_5 hx401_0 hx401_1 hx401_2 hx401_3 hx401_4 hx401_5 hx402_0 hx402_1 hx402_2 hx402_3 hx402_4 hx402_5 hx403_0 hx403_1 hx403_2 hx403_3 hx403_4 hHeld ⊢
                        refine pure_ (i := 0) (N := some 25) (v := ?_) (a' := ?_) #[true, false, false, false, false, false, false, false, false, false, false, false, false, false] rfl rfl (any_of HT_.out (by kernel_rfl)) (fun _ _ _ h => h) (Or.inl ⟨by rfl, ?_⟩) ?_ ?_
                        rotate_left
                        · intro w'
                          go_simp
                          with_reducible rfl
                        rotate_left
                        · simp only [Act.put, List.setIfInBounds_toArray, List.set_cons_zero, List.set_cons_succ, i64_w, i32_w]
                          rfl
                        refine pure_ (i := 1) (N := some 26) (v := ?_) (a' := ?_) #[true, true, false, false, false, false, false, false, false, false, false, false, false, false] rfl rfl (any_of HT_.out (by kernel_rfl)) (fun _ _ _ h => h) (Or.inl ⟨by rfl, ?_⟩) ?_ ?_
                        rotate_left
                        · intro w'
                          go_simp
                          with_reducible rfl
                        rotate_left
                        · simp only [Act.put, List.setIfInBounds_toArray, List.set_cons_zero, List.set_cons_succ, i64_w, i32_w]
                          rfl
                        refine pure_ (i := 2) (N := some 27) (v := ?_) (a' := ?_) #[true, true, true, false, false, false, false, false, false, false, false, false, false, false] rfl rfl (any_of HT_.out (by kernel_rfl)) (fun _ _ _ h => h) (Or.inl ⟨by rfl, ?_⟩) ?_ ?_
                        rotate_left
                        · intro w'
                          go_simp
                          with_reducible rfl
                        rotate_left
                        · simp only [Act.put, List.setIfInBounds_toArray, List.set_cons_zero, List.set_cons_succ, i64_w, i32_w]
                          rfl
                        refine pure_ (i := 4) (N := some 29) (v := ?_) (a' := ?_) #[true, true, true, false, true, false, false, false, false, false, false, false, false, false] rfl rfl (any_of HT_.out (by kernel_rfl)) (fun _ _ _ h => h) (Or.inl ⟨by rfl, ?_⟩) ?_ ?_
                        rotate_left
                        · intro w'
                          go_simp
                          with_reducible rfl
                        rotate_left
                        · simp only [Act.put, List.setIfInBounds_toArray, List.set_cons_zero, List.set_cons_succ, i64_w, i32_w]
                          rfl
                        refine pure_ (i := 5) (N := some 30) (v := ?_) (a' := ?_) #[true, true, true, false, true, true, false, false, false, false, false, false, false, false] rfl rfl (any_of HT_.out (by kernel_rfl)) (fun _ _ _ h => h) (Or.inl ⟨by rfl, ?_⟩) ?_ ?_
                        rotate_left
                        · intro w'
                          go_simp
                          with_reducible rfl
                        rotate_left
                        · simp only [Act.put, List.setIfInBounds_toArray, List.set_cons_zero, List.set_cons_succ, i64_w, i32_w]
                          rfl
                        refine pure_ (i := 6) (N := some 31) (v := ?_) (a' := ?_) #[true, true, true, false, true, true, true, false, false, false, false, false, false, false] rfl rfl (any_of HT_.out (by kernel_rfl)) (fun _ _ _ h => h) (Or.inl ⟨by rfl, ?_⟩) ?_ ?_
                        rotate_left
                        · intro w'
                          go_simp
                          with_reducible rfl
                        rotate_left
                        · simp only [Act.put, List.setIfInBounds_toArray, List.set_cons_zero, List.set_cons_succ, i64_w, i32_w]
                          rfl
                        refine pure_ (i := 8) (N := some 33) (v := ?_) (a' := ?_) #[true, true, true, false, true, true, true, false, true, false, false, false, false, false] rfl rfl (any_of HT_.out (by kernel_rfl)) (fun _ _ _ h => h) (Or.inl ⟨by rfl, ?_⟩) ?_ ?_
                        rotate_left
                        · intro w'
                          go_simp
                          with_reducible rfl
                        rotate_left
                        · simp only [Act.put, List.setIfInBounds_toArray, List.set_cons_zero, List.set_cons_succ, i64_w, i32_w]
                          rfl
                        refine pure_ (i := 9) (N := some 34) (v := ?_) (a' := ?_) #[true, true, true, false, true, true, true, false, true, true, false, false, false, false] rfl rfl (any_of HT_.out (by kernel_rfl)) (fun _ _ _ h => h) (Or.inl ⟨by rfl, ?_⟩) ?_ ?_
                        rotate_left
                        · intro w'
                          go_simp
                          with_reducible rfl
                        rotate_left
                        · simp only [Act.put, List.setIfInBounds_toArray, List.set_cons_zero, List.set_cons_succ, i64_w, i32_w]
                          rfl
                        refine pure_ (i := 10) (N := some 35) (v := ?_) (a' := ?_) #[true, true, true, false, true, true, true, false, true, true, true, false, false, false] rfl rfl (any_of HT_.out (by kernel_rfl)) (fun _ _ _ h => h) (Or.inl ⟨by rfl, ?_⟩) ?_ ?_
                        rotate_left
                        · intro w'
                          go_simp
                          with_reducible rfl
                        rotate_left
                        · simp only [Act.put, List.setIfInBounds_toArray, List.set_cons_zero, List.set_cons_succ, i64_w, i32_w]
                          rfl
                        refine take_ (i := 3) (N := some 28) (v := ?_) (a' := ?_) #[true, true, true, true, true, true, true, false, true, true, true, false, false, false] rfl rfl (take_ofW HT_.out HW_.out (by kernel_rfl)) (fun _ _ _ h => h) (Or.inl ⟨by rfl, ?_⟩) hHeld ?_ ?_
                        rotate_left
                        · rintro w' ⟨s0, s1, s2, s3, s4, s5, s6, s7, s8, s9, s10, s11, s12, s13, s14, s15, s16⟩
                          go_simp
                          with_reducible rfl
                        rotate_left
                        · simp only [Act.put, List.setIfInBounds_toArray, List.set_cons_zero, List.set_cons_succ, i64_w, i32_w]
                          rfl
                        refine take_ (i := 7) (N := some 32) (v := ?_) (a' := ?_) #[true, true, true, true, true, true, true, true, true, true, true, false, false, false] rfl rfl (take_ofW HT_.out HW_.out (by kernel_rfl)) (fun _ _ _ h => h) (Or.inl ⟨by rfl, ?_⟩) hHeld ?_ ?_
                        rotate_left
                        · rintro w' ⟨s0, s1, s2, s3, s4, s5, s6, s7, s8, s9, s10, s11, s12, s13, s14, s15, s16⟩
                          go_simp
                          with_reducible rfl
                        rotate_left
                        · simp only [Act.put, List.setIfInBounds_toArray, List.set_cons_zero, List.set_cons_succ, i64_w, i32_w]
                          rfl
                        refine take_ (i := 11) (N := some 36) (v := ?_) (a' := ?_) #[true, true, true, true, true, true, true, true, true, true, true, true, false, false] rfl rfl (take_ofW HT_.out HW_.out (by kernel_rfl)) (fun _ _ _ h => h) (Or.inl ⟨by rfl, ?_⟩) hHeld ?_ ?_
                        rotate_left
                        · rintro w' ⟨s0, s1, s2, s3, s4, s5, s6, s7, s8, s9, s10, s11, s12, s13, s14, s15, s16⟩
                          go_simp
                          with_reducible rfl
                        rotate_left
                        · simp only [Act.put, List.setIfInBounds_toArray, List.set_cons_zero, List.set_cons_succ, i64_w, i32_w]
                          rfl
                        refine one_ (i := 12) (N := some 37) #[true, true, true, true, true, true, true, true, true, true, true, true, true, false] rfl rfl (one_of HT_.out (by kernel_rfl)) (by decide) (fun K hK => ?_)
                        refine goes_ Tryz.func20 (by kernel_rfl) rfl #[.agg #[.bool ((rd_T37 l0 x22_2).f0), .int .i64 ((rd_T37 l0 x22_2).f1), .int .i64 ((rd_T37 l0 x22_2).f2), .int .i64 ((rd_T37 l0 x22_2).f3), .slice A401_4 ((rd_T37 l0 x22_2).f4).length c401_4, .slice A401_5 ((rd_T37 l0 x22_2).f5).length c401_5], .agg #[.bool ((rd_T37 l1 x22_2).f0), .int .i64 ((rd_T37 l1 x22_2).f1), .int .i64 ((rd_T37 l1 x22_2).f2), .int .i64 ((rd_T37 l1 x22_2).f3), .slice A402_4 ((rd_T37 l1 x22_2).f4).length c402_4, .slice A402_5 ((rd_T37 l1 x22_2).f5).length c402_5], .agg #[.int .i64 ((rd_T32 l2 x22_2).f0), .int .i64 ((rd_T32 l2 x22_2).f1), .int .i64 ((rd_T32 l2 x22_2).f2), .string ((rd_T32 l2 x22_2).f3), .string ((rd_T32 l2 x22_2).f4)]] (by rfl) rfl rfl (by (try simp only [List.map_toArray, List.map_cons, List.map_nil]); first | done | rfl | (simp only [List.length_drop, List.length_take]; rfl)) ?_
                        with_reducible refine (laws_sameSet.calls k2 ((rd_T37 l0 x22_2).f0) ((rd_T37 l0 x22_2).f1) ((rd_T37 l0 x22_2).f2) ((rd_T37 l0 x22_2).f3) _ _ ((rd_T37 l0 x22_2).f4) _ _ ((rd_T37 l0 x22_2).f5) ((rd_T37 l1 x22_2).f0) ((rd_T37 l1 x22_2).f1) ((rd_T37 l1 x22_2).f2) ((rd_T37 l1 x22_2).f3) _ _ ((rd_T37 l1 x22_2).f4) _ _ ((rd_T37 l1 x22_2).f5) ((rd_T32 l2 x22_2).f0) ((rd_T32 l2 x22_2).f1) ((rd_T32 l2 x22_2).f2) ((rd_T32 l2 x22_2).f3) ((rd_T32 l2 x22_2).f4) false _ ?side1 ?side2 ?side3 ?side4 ?side5 ?side6 ?side7 ?side8 A12.out).mono ?_
                        (case side1 => repeat (first | exact (Kd.C_below HR401_4.out HB.out) | (with_reducible refine Kd.C_alloc ?_ _) | (with_reducible refine Kd.C_drewN ?_ _) | (with_reducible refine Kd.C_drew ?_)))
                        (case side2 => exact HC401_4.out)
                        (case side3 => repeat (first | exact (Kd.C_below HR401_5.out HB.out) | (with_reducible refine Kd.C_alloc ?_ _) | (with_reducible refine Kd.C_drewN ?_ _) | (with_reducible refine Kd.C_drew ?_)))
                        (case side4 => exact HC401_5.out)
                        (case side5 => repeat (first | exact (Kd.C_below HR402_4.out HB.out) | (with_reducible refine Kd.C_alloc ?_ _) | (with_reducible refine Kd.C_drewN ?_ _) | (with_reducible refine Kd.C_drew ?_)))
                        (case side6 => exact HC402_4.out)
                        (case side7 => repeat (first | exact (Kd.C_below HR402_5.out HB.out) | (with_reducible refine Kd.C_alloc ?_ _) | (with_reducible refine Kd.C_drewN ?_ _) | (with_reducible refine Kd.C_drew ?_)))
                        (case side8 => exact HC402_5.out)
                        rintro e w17 ⟨rfl, hb⟩
                        refine ⟨_, rfl, ?_⟩
                        have n0_ := Aside0.mk (below_step (by repeat (first | (with_reducible first | exact HB.out | apply below_alloc | apply pw_below_drewN | apply below_drew1) | exact HB.out)) hb)
                        clear HB
                        have HB := n0_
                        clear n0_
                        (try clear hb)
                        (try clear hb2)
                        (try clear hk)
                        (try clear hi)
                        refine hK.out _ _ ⟨((HB.out.cell (World.block_lt_of_cell? w _ hw401_0)).trans hw401_0), ((HB.out.cell (World.block_lt_of_cell? w _ hw401_1)).trans hw401_1), ((HB.out.cell (World.block_lt_of_cell? w _ hw401_2)).trans hw401_2), ((HB.out.cell (World.block_lt_of_cell? w _ hw401_3)).trans hw401_3), ((HB.out.cell (World.block_lt_of_cell? w _ hw401_4)).trans hw401_4), ((HB.out.cell (World.block_lt_of_cell? w _ hw401_5)).trans hw401_5), ((HB.out.cell (World.block_lt_of_cell? w _ hw402_0)).trans hw402_0), ((HB.out.cell (World.block_lt_of_cell? w _ hw402_1)).trans hw402_1), ((HB.out.cell (World.block_lt_of_cell? w _ hw402_2)).trans hw402_2), ((HB.out.cell (World.block_lt_of_cell? w _ hw402_3)).trans hw402_3), ((HB.out.cell (World.block_lt_of_cell? w _ hw402_4)).trans hw402_4), ((HB.out.cell (World.block_lt_of_cell? w _ hw402_5)).trans hw402_5), ((HB.out.cell (World.block_lt_of_cell? w _ hw403_0)).trans hw403_0), ((HB.out.cell (World.block_lt_of_cell? w _ hw403_1)).trans hw403_1), ((HB.out.cell (World.block_lt_of_cell? w _ hw403_2)).trans hw403_2), ((HB.out.cell (World.block_lt_of_cell? w _ hw403_3)).trans hw403_3), ((HB.out.cell (World.block_lt_of_cell? w _ hw403_4)).trans hw403_4)⟩ (fun hHeld => ?_)
                        clear hK K
                        refine norm_ (a' := ?_) ?_ ?_
                        rotate_left
                        · show Act.put _ (some 37) _ = _
                          simp only [Act.put, List.setIfInBounds_toArray, List.set_cons_zero, List.set_cons_succ, i64_w, i32_w]
                          rfl
                        refine pure_ (i := 13) (N := some 38) (v := ?_) (a' := ?_) #[true, true, true, true, true, true, true, true, true, true, true, true, true, true] rfl rfl (any_of HT_.out (by kernel_rfl)) (fun _ _ _ h => h) (Or.inl ⟨by rfl, ?_⟩) ?_ ?_
                        rotate_left
                        · intro w'
                          go_simp
                          with_reducible rfl
                        rotate_left
                        · simp only [Act.put, List.setIfInBounds_toArray, List.set_cons_zero, List.set_cons_succ, i64_w, i32_w]
                          rfl
                        refine done_ (done_of HT_.out (by kernel_rfl)) ?_
                        try go_wp2
                        go_ret
                        exact ⟨by first | rfl | (simp [errW_none, errW_some] <;> rfl) | (simp [*, errW_none, errW_some] <;> rfl), by repeat (first | (with_reducible first | exact HB.out | apply below_alloc | apply pw_below_drewN | apply below_drew1) | exact HB.out)⟩
                    · rw [if_neg c11] at H
                      exact absurd H (by simp)
                  · rw [if_neg c10] at H
                    exact absurd H (by simp)
                · rw [if_neg c9] at H
                  exact absurd H (by simp)
              · rw [if_neg c8] at H
                exact absurd H (by simp)
            · rw [if_neg c7] at H
              have c7b0 : decide (x22_2 < (l2.length : Int)) = false := decide_eq_false c7
              clear c7
              obtain rfl := Option.some.inj H
              go_wp2
              go_ret
              exact ⟨by first | rfl | (simp [errW_none, errW_some] <;> rfl) | (simp [*, errW_none, errW_some] <;> rfl), by repeat (first | (with_reducible first | exact HB.out | apply below_alloc | apply pw_below_drewN | apply below_drew1) | exact HB.out)⟩

-- NOT PRINTED: function 3 (laws_FnKeySetClones)

end Go.Proofs.YtpcbmjphffpplaaGreatDoor.PFnKeySetClones
