/-
  impl.Wrapped, impl.Unwrapped, laws.wrapWhole, laws.wrapAwake: their contracts.
-/
import Derived.Test.YthbdlghkfibbaaaWr6
import Derived.Test.YthbdlghkfibbaaaClone
import Derived.Test.YthbdlghkfibbaaaSame
import Derived.Lib.SlBytesConst
namespace Go.Proofs.Ythbdlghkfibbaaa
open Go.RowKit Go.Proofs.YthbdlghkfibbaaaW.PrintWords Go.Lib
set_option linter.unusedVariables false
set_option linter.unusedSimpArgs false
theorem Hold.blkBytes {w0 w : World} {B g : Nat} {L : List Asrt} {xs : List UInt8} (hS : Hold w0 B w (.blk g (.cells (xs.map bV).toArray 5) :: L)) (n : Nat) (hn : n = xs.length) (hm : n ≤ 9223372036854775807) : Hold w0 B w (.row kB 5 (.slice (some ⟨g, 0, none⟩) n n) xs :: L) :=
  hS.blkRow (enc := bV) (h1 := fun _ => rfl) (n := n) (cap := n) (xs := xs) 0 rfl (by rw [List.size_toArray, List.length_map]; exact hn.symm) (Nat.le_refl _) hm (by
    subst hn
    show ((xs.map bV).toArray.toList).take xs.length = xs.map bV
    rw [List.toList_toArray, List.take_of_length_le (by rw [List.length_map]; exact Nat.le_refl _)]) hn
set_option maxHeartbeats 2000000 in
theorem wrapped_any (w : World) (s : UInt64) (A : Option Addr) (m c n : Nat) (xs : List UInt8) (hm : m = 8 * n) (hn : 0 < n) (hl : xs.length = m) (hmx : n ≤ 1000) (hC : kB.C w A m xs) :
    Calls Try.prog 11 #[hv s, .slice A m c] w fun e w' => ∃ v, e = .returned (.tuple #[v, .bool true]) ∧ Hold w w.heap.size w' [.row kB 5 v (wrapOut s xs)] := by
  have HL := Aside0.mk hl
  have HM := Aside0.mk hm
  have HC := Aside0.mk hC
  have hm2 : m ≤ 8000 := by omega
  clear hl hm hC
  unfold hv
  go_enter Try.func11, Try.ntmps11
  go_wp2_with fail
  refine (bclone_any _ A m c xs (by omega) HC.out).mono ?_
  rintro e w1 ⟨v1, rfl, hH⟩
  obtain ⟨A1, c1, rfl, hc1, hC1⟩ := hH.reads 0 rfl
  rw [HL.out, HM.out] at hC1 hc1
  have HH := Aside0.mk hH
  have HC1 := Aside0.mk (And.intro hC1 hc1)
  clear hH hC1 hc1
  go_wp2_with fail
  rw [HL.out, HM.out]
  refine (wrap_any _ s A1 c1 n xs hn (by rw [HL.out, HM.out]) HC1.out.2 hmx HC1.out.1).mono ?_
  rintro e w2 ⟨g, rfl, hH⟩
  have hR := (HH.out.app hH).blkBytes (8 * (n + 1)) (by rw [wrapOut_len s xs n (by rw [HL.out, HM.out])]) (by omega)
  have HR := Aside0.mk (hR.swap.tail)
  clear hH hR
  go_wp2
  go_ret2
  exact ⟨_, rfl, HR.out⟩
set_option maxHeartbeats 2000000 in
theorem unwrapped_any (w : World) (s : UInt64) (A : Option Addr) (m c n : Nat) (xs : List UInt8) (hm : m = 8 * (n + 1)) (hn : 0 < n) (hl : xs.length = m) (hmx : n ≤ 1000) (hC : kB.C w A m xs) :
    Calls Try.prog 15 #[hv s, .slice A m c] w fun e w' => ∃ v, e = .returned (.tuple #[v, .bool (decide ((openSt s xs).1 = ivU))]) ∧ Hold w w.heap.size w' [.row kB 5 v (if (openSt s xs).1 = ivU then openOut s xs else [])] := by
  have HL := Aside0.mk hl
  have HM := Aside0.mk hm
  have HC := Aside0.mk hC
  have hm2 : m ≤ 8008 := by omega
  obtain ⟨b, hb⟩ : ∃ b, b = decide ((openSt s xs).1 = ivU) := ⟨_, rfl⟩
  obtain ⟨ys, hys⟩ : ∃ ys, ys = if (openSt s xs).1 = ivU then openOut s xs else [] := ⟨_, rfl⟩
  rw [← hb, ← hys]
  have HB := Aside0.mk (And.intro hb hys)
  clear hl hm hC hb hys
  unfold hv
  go_enter Try.func15, Try.ntmps15
  go_wp2_with fail
  refine (bclone_any _ A m c xs (by omega) HC.out).mono ?_
  rintro e w1 ⟨v1, rfl, hH⟩
  obtain ⟨A1, c1, rfl, hc1, hC1⟩ := hH.reads 0 rfl
  rw [HL.out] at hC1 hc1
  have HH := Aside0.mk hH
  have HC1 := Aside0.mk (And.intro hC1 hc1)
  clear hH hC1 hc1
  go_wp2_with fail
  rw [HL.out]
  refine (unwrap_any _ s A1 m c1 n xs hn HM.out HL.out HC1.out.2 hmx HC1.out.1).mono ?_
  rintro e w2 ⟨r, rfl, hH⟩
  rcases hH with ⟨hiv, g, rfl, hH⟩ | ⟨hiv, p, rfl, hH⟩
  · have hR := (HH.out.app hH).blkBytes (8 * n) (by rw [openOut_len s xs n (by rw [HL.out, HM.out])]) (by omega)
    have HR := Aside0.mk (hR.swap.tail)
    have HI := Aside0.mk hiv
    clear hH hR hiv
    go_wp2
    go_ret2
    have h1 := HB.out.1
    have h2 := HB.out.2
    rw [decide_eq_true HI.out] at h1
    rw [if_pos HI.out] at h2
    rw [h1, h2]
    exact ⟨_, rfl, HR.out⟩
  · have HR := Aside0.mk ((HH.out.app hH).tail.nil kB 5)
    have HI := Aside0.mk hiv
    clear hH hiv
    go_wp2
    go_ret2
    have h1 := HB.out.1
    have h2 := HB.out.2
    rw [decide_eq_false HI.out] at h1
    rw [if_neg HI.out] at h2
    rw [h1, h2]
    exact ⟨_, rfl, HR.out⟩
set_option maxHeartbeats 1000000 in
theorem whole_any (w : World) (A : Option Addr) (n c : Nat) (xs : List UInt8) (hn : n ≤ 140737488355328) (hnc : n ≤ c) (hC : kB.C w A n xs) :
    Calls Try.prog 9 #[.slice A n c] w fun e w' => ∃ v, e = .returned (.tuple #[v, .bool (decide (16 ≤ 8 * (n / 8) ∧ 8 * (n / 8) ≤ 400))]) ∧ Hold w w.heap.size w' [.row kB 5 v (xs.take (8 * (n / 8)))] := by
  obtain ⟨m, hm⟩ : ∃ m, m = 8 * (n / 8) := ⟨_, rfl⟩
  rw [← hm]
  have hmn : m ≤ n := by omega
  have h8 : (n : Int) / 8 * 8 = (m : Int) := by omega
  have HT := Aside0.mk (C_takeA hC m hmn)
  have HTl : Aside0 ((xs.take m).length = m) := ⟨by rw [List.length_take, hC.1]; omega⟩
  have hmi : (m : Int) ≤ (c : Int) := by omega
  obtain ⟨b, hb⟩ : ∃ b, b = decide (16 ≤ m ∧ m ≤ 400) := ⟨_, rfl⟩
  rw [← hb]
  have HB := Aside0.mk hb
  clear hC hm hb
  go_enter Try.func9, Try.ntmps9
  go_wp2_with fail
  refine (own_any _ A m c _ (by omega) HT.out).mono ?_
  rintro e w1 ⟨v1, rfl, hH⟩
  obtain ⟨A1, c1, rfl, hc1, hC1⟩ := hH.reads 0 rfl
  rw [HTl.out] at hH ⊢
  have HH := Aside0.mk hH
  clear hH hc1 hC1 h8
  by_cases h1 : 16 ≤ m
  · have hb1 : (16 : Int) ≤ (m : Int) := by omega
    have HD : Aside0 (b = decide ((m : Int) ≤ 400)) := ⟨by
      rw [HB.out]
      by_cases h2 : m ≤ 400
      · rw [decide_eq_true (show 16 ≤ m ∧ m ≤ 400 from ⟨h1, h2⟩), decide_eq_true (show (m : Int) ≤ 400 by omega)]
      · rw [decide_eq_false (fun h => h2 h.2), decide_eq_false (show ¬ (m : Int) ≤ 400 by omega)]⟩
    clear h1
    go_wp2
    go_ret2
    rw [HD.out]
    exact ⟨_, rfl, HH.out⟩
  · have hb1 : (m : Int) < 16 := by omega
    have HD : Aside0 (b = false) := ⟨by rw [HB.out]; exact decide_eq_false (fun h => h1 h.1)⟩
    clear h1
    go_wp2
    go_ret2
    rw [HD.out]
    exact ⟨_, rfl, HH.out⟩
def awakeKey : List UInt8 := [48, 49, 50, 51, 52, 53, 54, 55, 56, 57, 97, 98, 99, 100, 101, 102]
theorem litM (w : World) (g : Nat) (hg : w.heap.size = g) (xs : List UInt8) (f : Nat × Nat) (hm : xs.length ≤ 9223372036854775807) : kB.C (w.alloc (.cells (xs.map bV).toArray 5 f)) (some ⟨g, 0, none⟩) xs.length xs := by
  subst hg
  refine C_of_cells hm fun j hj => ?_
  rw [World.cell?_alloc_mark]
  simp [List.getElem?_eq_getElem hj]
set_option maxRecDepth 100000 in
set_option maxHeartbeats 2000000 in
theorem awake_any (w : World) : Calls Try.prog 10 #[] w fun e w' => e = .returned (.bool true) ∧ Hold w w.heap.size w' [] := by
  have HK := Aside0.mk ((Hold.start w).alloc_ (.cells (awakeKey.map bV).toArray 5 (16, 17)))
  have HKC := Aside0.mk (show kB.C _ (some ⟨w.heap.size, 0, none⟩) 16 awakeKey from litM w _ rfl awakeKey (16, 17) (by decide))
  have HO : Aside0 ((openSt 7 (wrapOut 7 awakeKey)).1 = ivU ∧ openOut 7 (wrapOut 7 awakeKey) = awakeKey) := ⟨by rw [openSt_wrapOut 7 awakeKey 2 (by decide) rfl], openOut_wrapOut 7 awakeKey 2 (by decide) rfl⟩
  have HWl : Aside0 ((wrapOut 7 awakeKey).length = 24) := ⟨wrapOut_len 7 awakeKey 2 rfl⟩
  have cv : (convert 23 23 (.slice (some ⟨w.heap.size, 0, none⟩) 16 16)).run Try.prog (w.alloc (.cells #[.int .u8 48, .int .u8 49, .int .u8 50, .int .u8 51, .int .u8 52, .int .u8 53, .int .u8 54, .int .u8 55, .int .u8 56, .int .u8 57, .int .u8 97, .int .u8 98, .int .u8 99, .int .u8 100, .int .u8 101, .int .u8 102] 5)) = .ok (.slice (some ⟨w.heap.size, 0, none⟩) 16 16) (w.alloc (.cells #[.int .u8 48, .int .u8 49, .int .u8 50, .int .u8 51, .int .u8 52, .int .u8 53, .int .u8 54, .int .u8 55, .int .u8 56, .int .u8 57, .int .u8 97, .int .u8 98, .int .u8 99, .int .u8 100, .int .u8 101, .int .u8 102] 5 (16, 17))) := Lib.run_convert_bytes_const w 23 5 #[.int .u8 48, .int .u8 49, .int .u8 50, .int .u8 51, .int .u8 52, .int .u8 53, .int .u8 54, .int .u8 55, .int .u8 56, .int .u8 57, .int .u8 97, .int .u8 98, .int .u8 99, .int .u8 100, .int .u8 101, .int .u8 102] 16 16 Try.underlying23 Try.underlying5
  go_enter Try.func10, Try.ntmps10
  go_wp2_with fail
  refine (wrapped_any _ 7 _ 16 16 2 awakeKey rfl (by decide) rfl (by decide) HKC.out).mono ?_
  rintro e w1 ⟨v1, rfl, hH⟩
  obtain ⟨A1, c1, rfl, hc1, hC1⟩ := hH.reads 0 rfl
  rw [HWl.out] at hC1 ⊢
  have HH := Aside0.mk (HK.out.app hH)
  have HC1 := Aside0.mk hC1
  have HKC1 := Aside0.mk (hH.C HKC.out)
  clear hH hc1 hC1 cv
  go_wp2_with fail
  refine (unwrapped_any _ 7 _ 24 c1 2 _ rfl (by decide) HWl.out (by decide) HC1.out).mono ?_
  rw [decide_eq_true HO.out.1, if_pos HO.out.1, HO.out.2]
  rintro e w2 ⟨v2, rfl, hH⟩
  obtain ⟨A2, c2, rfl, hc2, hC2⟩ := hH.reads 0 rfl
  have HH2 := Aside0.mk (HH.out.app hH)
  have HC2 := Aside0.mk (show kB.C w2 A2 16 awakeKey from hC2)
  have HKC2 := Aside0.mk (hH.C HKC1.out)
  rw [show awakeKey.length = 16 from rfl]
  clear hH hc2 hC2
  go_wp2_with fail
  refine (same_any _ _ _ _ _ _ _ awakeKey awakeKey HC2.out HKC2.out).mono ?_
  rw [decide_eq_true (show awakeKey = awakeKey from rfl)]
  rintro e w3 ⟨rfl, k, rfl⟩
  go_wp2
  go_ret
  exact ⟨rfl, (HH2.out.tail.tail).drewN k⟩
end Go.Proofs.Ythbdlghkfibbaaa
