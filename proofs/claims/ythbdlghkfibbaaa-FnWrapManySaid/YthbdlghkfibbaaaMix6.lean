/-
  spec.PartNumber, spec.wrapHalves, spec.wrapBlock: their contracts.
-/
import Derived.Test.YthbdlghkfibbaaaMix5
import Derived.Test.YthbdlghkfibbaaaOwn
namespace Go.Proofs.Ythbdlghkfibbaaa
open Go.RowKit Go.Proofs.YthbdlghkfibbaaaW.PrintWords Go.Lib
set_option linter.unusedVariables false
set_option linter.unusedSimpArgs false
theorem beN_take_lt {xs : List UInt8} {k : Nat} (h8 : xs.length ≤ 8) (hk : k < xs.length) : beN (xs.take k) < 72057594037927936 := by
  have := beN_lt (xs.take k)
  rw [List.length_take, Nat.min_eq_left (by omega)] at this
  have h2 : 256 ^ k ≤ 256 ^ 7 := Nat.pow_le_pow_right (by decide) (by omega)
  exact Nat.lt_of_lt_of_le this h2
theorem beN_take_succ {xs : List UInt8} {k : Nat} (hk : k < xs.length) : beN (xs.take (k + 1)) = beN (xs.take k) * 256 + (xs[k]).toNat := by
  rw [List.take_succ_eq_append_getElem hk, beN_snoc]
set_option maxRecDepth 100000 in
set_option maxHeartbeats 1000000 in
theorem number_any (w : World) (A : Option Addr) (n c : Nat) (xs : List UInt8) (h8 : xs.length ≤ 8) (hC : kB.C w A n xs) :
    Calls Try.prog 25 #[.slice A n c] w fun e w' => e = .returned (.int .u64 (beN xs : Nat)) ∧ ∃ n, w' = w.drewN n := by
  obtain rfl := hC.1
  have HC := Aside0.mk hC
  have H8 := Aside0.mk h8
  have hb : xs.length ≤ 9223372036854775807 := hC.2.1
  clear hC h8
  go_enter Try.func25, Try.ntmps25
  go_wp2
  go_loopw [3, 8] (fun s i wr => ∃ k n : Nat, k ≤ xs.length ∧ i = .int .i64 k ∧ s = .int .u64 (beN (xs.take k) : Nat) ∧ wr = w.drewN n) (fun _ i _ => xs.length - (intOf i).toNat)
  case atStart => exact ⟨0, 0, Nat.zero_le _, rfl, rfl, rfl⟩
  case round =>
    obtain ⟨k, n, hk, rfl, rfl, rfl⟩ := hrel
    by_cases hlt : k < xs.length
    · obtain ⟨a1, rfl, e1⟩ := C1_get HC.out k hlt
      have HN := Aside0.mk (beN_take_succ hlt)
      have b1 := beN_take_lt H8.out hlt
      have s1 := be_step (beN (xs.take k)) xs[k] b1
      obtain ⟨n1, hn1⟩ : ∃ n1, n1 = beN (xs.take k) := ⟨_, rfl⟩
      rw [← hn1] at s1 HN ⊢
      obtain ⟨x, hx⟩ : ∃ x, x = xs[k] := ⟨_, rfl⟩
      rw [← hx] at e1 s1 HN
      change _ = some (Value.int .u8 (x.toNat : Int)) at e1
      clear hn1 b1 hx
      go_wp2
      go_roundw
      case rel => exact ⟨k + 1, _, hlt, by go_num, by rw [HN.out]; simp, by first | rfl | exact World.drewN_drewN ..⟩
      case measure => simp [intOf]; omega
    · obtain rfl : k = xs.length := by omega
      rw [List.take_length]
      go_wp2
      go_ret
      exact ⟨rfl, _, rfl⟩
theorem C_of_cells {w : World} {g : Nat} {xs : List UInt8} (hm : xs.length ≤ 9223372036854775807) (h : ∀ j, (hj : j < xs.length) → w.cell? ⟨g, j, none⟩ = some (bV xs[j])) : kB.C w (some ⟨g, 0, none⟩) xs.length xs := by
  refine ⟨rfl, hm, fun _ => ⟨_, rfl, fun j p hj => ?_⟩⟩
  obtain ⟨hjl, rfl⟩ := List.getElem?_eq_some_iff.1 hj
  refine ⟨[bV xs[j]], rfl, rfl, fun i u hu => ?_⟩
  cases i with
  | zero =>
    have hu' : bV xs[j] = u := by simpa using hu
    rw [← hu', Addr.add_mid]
    have e : 0 + (j * kB.sz + 0) = j := by show 0 + (j * 1 + 0) = j; omega
    rw [e]
    exact h j hjl
  | succ i => simp at hu
theorem C_dropA {w : World} {ad : Addr} {n : Nat} {xs : List UInt8} (h : kB.C w (some ad) n xs) (k : Nat) (hk : k ≤ n) : kB.C w (some (ad.add k)) (n - k) (xs.drop k) := by
  obtain ⟨h1, h2, h3⟩ := h
  refine ⟨by rw [List.length_drop, h1], by omega, fun hn => ?_⟩
  obtain ⟨ad', e, hc⟩ := h3 (by omega)
  injection e with e
  subst e
  refine ⟨_, rfl, fun j p hj => ?_⟩
  rw [List.getElem?_drop] at hj
  obtain ⟨c, hl, hR, hcell⟩ := hc (k + j) p hj
  refine ⟨c, hl, hR, fun i u hu => ?_⟩
  rw [Go.Deep.add_add]
  have := hcell i u hu
  have e : (k + j) * kB.sz + i = k + (j * kB.sz + i) := by show (k + j) * 1 + i = k + (j * 1 + i); omega
  rwa [e] at this
theorem C_takeA {w : World} {A : Option Addr} {n : Nat} {xs : List UInt8} (h : kB.C w A n xs) (k : Nat) (hk : k ≤ n) : kB.C w A k (xs.take k) := by
  obtain ⟨h1, h2, h3⟩ := h
  refine ⟨by rw [List.length_take]; omega, by omega, fun hn => ?_⟩
  obtain ⟨ad, e, hc⟩ := h3 (by omega)
  refine ⟨ad, e, fun j p hj => ?_⟩
  have hjk : j < k := by
    have := (List.getElem?_eq_some_iff.1 hj).1
    rw [List.length_take] at this
    omega
  rw [List.getElem?_take, if_pos hjk] at hj
  exact hc j p hj
theorem C_blk {w0 w : World} {B : Nat} {L : List Asrt} {g t : Nat} {xs : List UInt8} (hS : Hold w0 B w L) (i : Nat) (hi : L[i]? = some (.blk g (.cells (xs.map bV).toArray t (0, 0)))) (hx : xs.length ≤ 9223372036854775807) : kB.C w (some ⟨g, 0, none⟩) xs.length xs :=
  C_of_cells hx (fun j hj => (hS.cellAt i hi j (bV xs[j]) (by simp [List.getElem?_eq_getElem hj])).1)
theorem number_quiet (w : World) (n : Nat) (A : Option Addr) (m c : Nat) (xs : List UInt8) (h8 : xs.length ≤ 8) (hC : kB.C w A m xs) :
    Calls Try.prog 25 #[.slice A m c] (w.drewN n) fun e w' => e = .returned (.int .u64 (beN xs : Nat)) ∧ ∃ k, w' = w.drewN k :=
  (number_any (w.drewN n) A m c xs h8 (Kd.C_below hC (((Hold.start w).drewN n).below))).mono (by
    rintro e w' ⟨rfl, k, rfl⟩
    exact ⟨rfl, _, World.drewN_drewN ..⟩)
set_option maxRecDepth 100000 in
set_option maxHeartbeats 1000000 in
theorem shalves_any (w : World) (xs : List UInt8) (h16 : xs.length = 16) :
    Calls Try.prog 26 #[.agg (xs.map bV).toArray] w fun e w' => e = .returned (.tuple #[.int .u64 (beN (xs.take 8) : Nat), .int .u64 (beN (xs.drop 8) : Nat)]) ∧ Hold w w.heap.size w' [] := by
  have H1 := Aside0.mk ((Hold.start w).alloc (.cells (xs.map bV).toArray 53))
  have HC := C_blk H1.out 0 rfl (by omega)
  rw [h16] at HC
  have HT := C_takeA HC 8 (by omega)
  have HD : kB.C (w.alloc (.cells (xs.map bV).toArray 53)) (some ⟨w.heap.size, 8, none⟩) 8 (xs.drop 8) := C_dropA HC 8 (by omega)
  have HQ1 := fun n => number_quiet _ n _ _ 16 _ (by rw [List.length_take]; omega) HT
  have HQ2 := fun n => number_quiet _ n _ _ 8 _ (by rw [List.length_drop]; omega) HD
  have HQ := Aside0.mk (And.intro HQ1 HQ2)
  clear h16 HC HT HD HQ1 HQ2
  go_enter Try.func26, Try.ntmps26
  go_wp2
  go_quiet (first | (go_at_call 25; first | (with_reducible exact HQ.out.1 _) | (with_reducible exact HQ.out.2 _)))
  go_wp2
  go_ret2
  exact ⟨rfl, H1.out.tail.drewN _⟩
end Go.Proofs.Ythbdlghkfibbaaa
