/-
  encoding/base64: assemble32, assemble64; internal/byteorder: BEPutUint32, BEPutUint64; encoding/binary: PutUint64: their contracts.
-/
import Derived.Test.YtdldblfklalaeaaGreatDoorSb
import Derived.Laws.BitsAllLaws
namespace Go.Proofs.YtdldblfklalaeaaGreatDoor
open Go.RowKit Go.Proofs.YtdldblfklalaeaaGreatDoorW.PrintWords Go.Lib
set_option linter.unusedVariables false
set_option linter.unusedSimpArgs false
def or8 (n : Nat) (l : List UInt8) : Nat := l.foldl (fun n c => n ||| c.toNat) n
def orI (n : Int) (l : List UInt8) : Int := l.foldl (fun n c => bits .or .u8 n (c.toNat : Int)) n
theorem or_lt8 {a b k : Nat} (ha : a < 2 ^ k) (hb : b < 2 ^ k) : a ||| b < 2 ^ k := Nat.or_lt_two_pow ha hb
theorem orI_eq : ∀ (l : List UInt8) (n : Nat), n < 256 → orI (n : Int) l = ((or8 n l : Nat) : Int)
  | [], n, _ => rfl
  | c :: r, n, h => by
    have hc := c.toNat_lt
    show orI (bits .or .u8 (n : Int) (c.toNat : Int)) r = ((or8 (n ||| c.toNat) r : Nat) : Int)
    rw [u8_or_nat n c.toNat h (by omega)]
    exact orI_eq r _ (or_lt8 (k := 8) h (by omega))
theorem or8_lt : ∀ (l : List UInt8) (n : Nat), n < 64 → (∀ c ∈ l, c.toNat < 64) → or8 n l < 64
  | [], n, h, _ => h
  | c :: r, n, h, hl => or8_lt r _ (or_lt8 (k := 6) h (hl c (by simp))) (fun d hd => hl d (by simp [hd]))
theorem or255 : ∀ n : Fin 256, n.val ||| 255 = 255 ∧ 255 ||| n.val = 255 := by decide +kernel
theorem or8_255 : ∀ (l : List UInt8) (n : Nat), n < 256 → (n = 255 ∨ ∃ c ∈ l, c = 255) → or8 n l = 255
  | [], n, _, h => by
    rcases h with h | ⟨c, hc, _⟩
    · exact h
    · simp at hc
  | c :: r, n, hn, h => by
    have hc := c.toNat_lt
    refine or8_255 r _ (or_lt8 (k := 8) hn (by omega)) ?_
    rcases h with rfl | ⟨d, hd, rfl⟩
    · exact .inl (or255 ⟨c.toNat, by omega⟩).2
    · rcases List.mem_cons.1 hd with rfl | hd
      · exact .inl (or255 ⟨n, hn⟩).1
      · exact .inr ⟨_, hd, rfl⟩
theorem orI_ok (a : UInt8) (l : List UInt8) (ha : a.toNat < 64) (hl : ∀ c ∈ l, c.toNat < 64) : (orI (a.toNat : Int) l == 255) = false := by
  have h := or8_lt l a.toNat ha hl
  rw [orI_eq l a.toNat (by omega), beq_eq_false_iff_ne]
  omega
theorem orI_no (a : UInt8) (l : List UInt8) (h : ∃ c ∈ a :: l, c = 255) : (orI (a.toNat : Int) l == 255) = true := by
  have ha := a.toNat_lt
  rw [orI_eq l a.toNat (by omega), or8_255 l a.toNat (by omega) (by
    obtain ⟨c, hc, rfl⟩ := h
    rcases List.mem_cons.1 hc with rfl | hc
    · exact .inl rfl
    · exact .inr ⟨_, hc, rfl⟩)]
  rfl
def n24 (a b c d : UInt8) : Nat := a.toNat * 262144 + b.toNat * 4096 + c.toNat * 64 + d.toNat
theorem v32_eq (a b c d : UInt8) (ha : a.toNat < 64) (hb : b.toNat < 64) (hc : c.toNat < 64) (hd : d.toNat < 64) :
    bits .or .u32 (bits .or .u32 (bits .or .u32 ((a.toNat : Int) % 4294967296 * 67108864 % 4294967296) ((b.toNat : Int) % 4294967296 * 1048576 % 4294967296)) ((c.toNat : Int) % 4294967296 * 16384 % 4294967296)) ((d.toNat : Int) % 4294967296 * 256 % 4294967296) = ((n24 a b c d * 256 : Nat) : Int) := by
  rw [show (a.toNat : Int) % 4294967296 * 67108864 % 4294967296 = ((a.toNat * 67108864 : Nat) : Int) by omega, show (b.toNat : Int) % 4294967296 * 1048576 % 4294967296 = ((b.toNat * 1048576 : Nat) : Int) by omega,
    show (c.toNat : Int) % 4294967296 * 16384 % 4294967296 = ((c.toNat * 16384 : Nat) : Int) by omega, show (d.toNat : Int) % 4294967296 * 256 % 4294967296 = ((d.toNat * 256 : Nat) : Int) by omega]
  rw [u32_or_nat _ _ (by omega) (by omega), show a.toNat * 67108864 = a.toNat * 2 ^ 26 from rfl, or_add a.toNat (b.toNat * 1048576) 26 (by omega), u32_or_nat _ _ (by omega) (by omega)]
  rw [show a.toNat * 2 ^ 26 + b.toNat * 1048576 = (a.toNat * 64 + b.toNat) * 2 ^ 20 by omega, or_add _ (c.toNat * 16384) 20 (by omega), u32_or_nat _ _ (by omega) (by omega)]
  rw [show (a.toNat * 64 + b.toNat) * 2 ^ 20 + c.toNat * 16384 = ((a.toNat * 64 + b.toNat) * 64 + c.toNat) * 2 ^ 14 by omega, or_add _ (d.toNat * 256) 14 (by omega)]
  unfold n24
  omega
theorem w64 (x : UInt8) (k : Nat) (hx : x.toNat < 64) (hk : k ≤ 288230376151711744) : IntKind.u64.wrap (IntKind.u64.wrap (x.toNat : Int) * (k : Int)) = ((x.toNat * k : Nat) : Int) := by
  have : x.toNat * k ≤ 63 * k := Nat.mul_le_mul_right _ (by omega)
  rw [wrapN _ (by omega), ← Int.natCast_mul, wrapN _ (by omega)]
theorem v64_eq (a b c d a2 b2 c2 d2 : UInt8) (ha : a.toNat < 64) (hb : b.toNat < 64) (hc : c.toNat < 64) (hd : d.toNat < 64) (ha2 : a2.toNat < 64) (hb2 : b2.toNat < 64) (hc2 : c2.toNat < 64) (hd2 : d2.toNat < 64) :
    bits .or .u64 (bits .or .u64 (bits .or .u64 (bits .or .u64 (bits .or .u64 (bits .or .u64 (bits .or .u64 (IntKind.u64.wrap (IntKind.u64.wrap (a.toNat : Int) * 288230376151711744)) (IntKind.u64.wrap (IntKind.u64.wrap (b.toNat : Int) * 4503599627370496)))
      (IntKind.u64.wrap (IntKind.u64.wrap (c.toNat : Int) * 70368744177664))) (IntKind.u64.wrap (IntKind.u64.wrap (d.toNat : Int) * 1099511627776))) (IntKind.u64.wrap (IntKind.u64.wrap (a2.toNat : Int) * 17179869184)))
      (IntKind.u64.wrap (IntKind.u64.wrap (b2.toNat : Int) * 268435456))) (IntKind.u64.wrap (IntKind.u64.wrap (c2.toNat : Int) * 4194304))) (IntKind.u64.wrap (IntKind.u64.wrap (d2.toNat : Int) * 65536)) = ((n24 a b c d * 1099511627776 + n24 a2 b2 c2 d2 * 65536 : Nat) : Int) := by
  rw [show (288230376151711744 : Int) = ((288230376151711744 : Nat) : Int) from rfl, show (4503599627370496 : Int) = ((4503599627370496 : Nat) : Int) from rfl, show (70368744177664 : Int) = ((70368744177664 : Nat) : Int) from rfl, show (1099511627776 : Int) = ((1099511627776 : Nat) : Int) from rfl,
    show (17179869184 : Int) = ((17179869184 : Nat) : Int) from rfl, show (268435456 : Int) = ((268435456 : Nat) : Int) from rfl, show (4194304 : Int) = ((4194304 : Nat) : Int) from rfl, show (65536 : Int) = ((65536 : Nat) : Int) from rfl]
  rw [w64 a _ ha (by decide), w64 b _ hb (by decide), w64 c _ hc (by decide), w64 d _ hd (by decide), w64 a2 _ ha2 (by decide), w64 b2 _ hb2 (by decide), w64 c2 _ hc2 (by decide), w64 d2 _ hd2 (by decide)]
  rw [orN _ _ (by omega) (by omega), show a.toNat * 288230376151711744 = a.toNat * 2 ^ 58 from rfl, or_add a.toNat (b.toNat * 4503599627370496) 58 (by omega), orN _ _ (by omega) (by omega)]
  rw [show a.toNat * 2 ^ 58 + b.toNat * 4503599627370496 = (a.toNat * 64 + b.toNat) * 2 ^ 52 by omega, or_add _ (c.toNat * 70368744177664) 52 (by omega), orN _ _ (by omega) (by omega)]
  rw [show (a.toNat * 64 + b.toNat) * 2 ^ 52 + c.toNat * 70368744177664 = ((a.toNat * 64 + b.toNat) * 64 + c.toNat) * 2 ^ 46 by omega, or_add _ (d.toNat * 1099511627776) 46 (by omega), orN _ _ (by omega) (by omega)]
  rw [show ((a.toNat * 64 + b.toNat) * 64 + c.toNat) * 2 ^ 46 + d.toNat * 1099511627776 = n24 a b c d * 2 ^ 40 by unfold n24; omega]
  have hN : n24 a b c d < 16777216 := by unfold n24; omega
  generalize n24 a b c d = N at hN ⊢
  rw [or_add _ (a2.toNat * 17179869184) 40 (by omega), orN _ _ (by omega) (by omega)]
  rw [show N * 2 ^ 40 + a2.toNat * 17179869184 = (N * 64 + a2.toNat) * 2 ^ 34 by omega, or_add _ (b2.toNat * 268435456) 34 (by omega), orN _ _ (by omega) (by omega)]
  rw [show (N * 64 + a2.toNat) * 2 ^ 34 + b2.toNat * 268435456 = ((N * 64 + a2.toNat) * 64 + b2.toNat) * 2 ^ 28 by omega, or_add _ (c2.toNat * 4194304) 28 (by omega), orN _ _ (by omega) (by omega)]
  rw [show ((N * 64 + a2.toNat) * 64 + b2.toNat) * 2 ^ 28 + c2.toNat * 4194304 = (((N * 64 + a2.toNat) * 64 + b2.toNat) * 64 + c2.toNat) * 2 ^ 22 by omega, or_add _ (d2.toNat * 65536) 22 (by omega)]
  unfold n24
  omega
theorem by24 (a b c d : UInt8) (ha : a.toNat < 64) (hb : b.toNat < 64) (hc : c.toNat < 64) (hd : d.toNat < 64) : n24 a b c d < 16777216 ∧ n24 a b c d / 65536 = (byA a b).toNat ∧ n24 a b c d / 256 % 256 = (byB b c).toNat ∧ n24 a b c d % 256 = (byC c d).toNat := by
  unfold byA byB byC n24
  rw [UInt8.toNat_ofNat_of_lt' (show a.toNat * 4 + b.toNat / 16 < 256 by omega), UInt8.toNat_ofNat_of_lt' (show b.toNat % 16 * 16 + c.toNat / 4 < 256 by omega), UInt8.toNat_ofNat_of_lt' (show c.toNat % 4 * 64 + d.toNat < 256 by omega)]
  omega
theorem asm32_ok (w : World) (a b c d : UInt8) (ha : a.toNat < 64) (hb : b.toNat < 64) (hc : c.toNat < 64) (hd : d.toNat < 64) :
    Calls Tryz.prog 200 #[.int .u8 (a.toNat : Int), .int .u8 (b.toNat : Int), .int .u8 (c.toNat : Int), .int .u8 (d.toNat : Int)] w fun e w' => e = .returned (.tuple #[.int .u32 ((n24 a b c d * 256 : Nat) : Int), .bool true]) ∧ w = w' := by
  have HV := Aside0.mk (v32_eq a b c d ha hb hc hd)
  have ho : (orI (a.toNat : Int) [b, c, d] == 255) = false := orI_ok a _ ha (by simp [hb, hc, hd])
  obtain ⟨V, hV⟩ : ∃ V, bits .or .u8 (bits .or .u8 (bits .or .u8 (a.toNat : Int) (b.toNat : Int)) (c.toNat : Int)) (d.toNat : Int) = V := ⟨_, rfl⟩
  have hv : (V == 255) = false := by rw [← hV]; exact ho
  clear ha hb hc hd ho
  go_enter Tryz.func200, Tryz.ntmps200
  go_wp2
  go_ret2
  refine ⟨?_, rfl⟩
  rw [← HV.out]
  rfl
theorem asm32_no (w : World) (a b c d : UInt8) (h : ∃ q ∈ [a, b, c, d], q = 255) :
    Calls Tryz.prog 200 #[.int .u8 (a.toNat : Int), .int .u8 (b.toNat : Int), .int .u8 (c.toNat : Int), .int .u8 (d.toNat : Int)] w fun e w' => e = .returned (.tuple #[.int .u32 0, .bool false]) ∧ w = w' := by
  have ho : (orI (a.toNat : Int) [b, c, d] == 255) = true := orI_no a _ h
  obtain ⟨V, hV⟩ : ∃ V, bits .or .u8 (bits .or .u8 (bits .or .u8 (a.toNat : Int) (b.toNat : Int)) (c.toNat : Int)) (d.toNat : Int) = V := ⟨_, rfl⟩
  have hv : (V == 255) = true := by rw [← hV]; exact ho
  clear ho h
  go_enter Tryz.func200, Tryz.ntmps200
  go_wp2
  go_ret2
  exact ⟨rfl, rfl⟩
theorem asm64_ok (w : World) (a b c d a2 b2 c2 d2 : UInt8) (ha : a.toNat < 64) (hb : b.toNat < 64) (hc : c.toNat < 64) (hd : d.toNat < 64) (ha2 : a2.toNat < 64) (hb2 : b2.toNat < 64) (hc2 : c2.toNat < 64) (hd2 : d2.toNat < 64) :
    Calls Tryz.prog 197 #[.int .u8 (a.toNat : Int), .int .u8 (b.toNat : Int), .int .u8 (c.toNat : Int), .int .u8 (d.toNat : Int), .int .u8 (a2.toNat : Int), .int .u8 (b2.toNat : Int), .int .u8 (c2.toNat : Int), .int .u8 (d2.toNat : Int)] w fun e w' =>
      e = .returned (.tuple #[.int .u64 ((n24 a b c d * 1099511627776 + n24 a2 b2 c2 d2 * 65536 : Nat) : Int), .bool true]) ∧ w = w' := by
  have HV := Aside0.mk (v64_eq a b c d a2 b2 c2 d2 ha hb hc hd ha2 hb2 hc2 hd2)
  have ho : (orI (a.toNat : Int) [b, c, d, a2, b2, c2, d2] == 255) = false := orI_ok a _ ha (by simp [hb, hc, hd, ha2, hb2, hc2, hd2])
  obtain ⟨V, hV⟩ : ∃ V, bits .or .u8 (bits .or .u8 (bits .or .u8 (bits .or .u8 (bits .or .u8 (bits .or .u8 (bits .or .u8 (a.toNat : Int) (b.toNat : Int)) (c.toNat : Int)) (d.toNat : Int)) (a2.toNat : Int)) (b2.toNat : Int)) (c2.toNat : Int)) (d2.toNat : Int) = V := ⟨_, rfl⟩
  have hv : (V == 255) = false := by rw [← hV]; exact ho
  clear ha hb hc hd ho ha2 hb2 hc2 hd2
  go_enter Tryz.func197, Tryz.ntmps197
  go_wp2
  go_ret2
  refine ⟨?_, rfl⟩
  rw [← HV.out]
  rfl
theorem asm64_no (w : World) (a b c d a2 b2 c2 d2 : UInt8) (h : ∃ q ∈ [a, b, c, d, a2, b2, c2, d2], q = 255) :
    Calls Tryz.prog 197 #[.int .u8 (a.toNat : Int), .int .u8 (b.toNat : Int), .int .u8 (c.toNat : Int), .int .u8 (d.toNat : Int), .int .u8 (a2.toNat : Int), .int .u8 (b2.toNat : Int), .int .u8 (c2.toNat : Int), .int .u8 (d2.toNat : Int)] w fun e w' =>
      e = .returned (.tuple #[.int .u64 0, .bool false]) ∧ w = w' := by
  have ho : (orI (a.toNat : Int) [b, c, d, a2, b2, c2, d2] == 255) = true := orI_no a _ h
  obtain ⟨V, hV⟩ : ∃ V, bits .or .u8 (bits .or .u8 (bits .or .u8 (bits .or .u8 (bits .or .u8 (bits .or .u8 (bits .or .u8 (a.toNat : Int) (b.toNat : Int)) (c.toNat : Int)) (d.toNat : Int)) (a2.toNat : Int)) (b2.toNat : Int)) (c2.toNat : Int)) (d2.toNat : Int) = V := ⟨_, rfl⟩
  have hv : (V == 255) = true := by rw [← hV]; exact ho
  clear ho h
  go_enter Tryz.func197, Tryz.ntmps197
  go_wp2
  go_ret2
  exact ⟨rfl, rfl⟩
def be4 (v : Nat) : List Value := [.int .u8 ((v : Int) / 16777216 % 256), .int .u8 ((v : Int) / 65536 % 256), .int .u8 ((v : Int) / 256 % 256), .int .u8 ((v : Int) % 256)]
def be8 (v : Nat) : List Value := [.int .u8 ((v : Int) / 72057594037927936 % 256), .int .u8 ((v : Int) / 281474976710656 % 256), .int .u8 ((v : Int) / 1099511627776 % 256), .int .u8 ((v : Int) / 4294967296 % 256),
  .int .u8 ((v : Int) / 16777216 % 256), .int .u8 ((v : Int) / 65536 % 256), .int .u8 ((v : Int) / 256 % 256), .int .u8 ((v : Int) % 256)]
theorem put32_any {w0 : World} {B : Nat} {L : List Asrt} (w : World) (g off m c t v : Nat) (cs : Array Value) (hm : 4 ≤ m) (hfit : off + 4 ≤ cs.size) (H : Hold w0 B w (.blk g (.cells cs t) :: L)) :
    Calls Tryz.prog 201 #[.slice (some ⟨g, off, none⟩) m c, .int .u32 (v : Int)] w fun e w' => e = .returned (.tuple #[]) ∧ Hold w0 B w' (.blk g (.cells (putN cs off (be4 v)) t) :: L) := by
  have HH := Aside0.mk H
  obtain ⟨d0, f0⟩ := H.cellq 0 rfl off _ (Array.getElem?_eq_getElem (by omega))
  obtain ⟨d1, f1⟩ := H.cellq 0 rfl (off + 1) _ (Array.getElem?_eq_getElem (by omega))
  obtain ⟨d2, f2⟩ := H.cellq 0 rfl (off + 2) _ (Array.getElem?_eq_getElem (by omega))
  obtain ⟨d3, f3⟩ := H.cellq 0 rfl (off + 3) _ (Array.getElem?_eq_getElem (by omega))
  generalize cs[off] = o0 at d0
  generalize cs[off + 1] = o1 at d1
  generalize cs[off + 2] = o2 at d2
  generalize cs[off + 3] = o3 at d3
  clear H
  go_enter Tryz.func201, Tryz.ntmps201
  go_wp2
  go_end0
  exact ⟨rfl, (((HH.out.store 0 rfl off _).store 0 rfl (off + 1) _).store 0 rfl (off + 2) _).store 0 rfl (off + 3) _⟩
set_option maxHeartbeats 2000000 in
theorem bput64_any {w0 : World} {B : Nat} {L : List Asrt} (w : World) (g off m c t v : Nat) (cs : Array Value) (hm : 8 ≤ m) (hfit : off + 8 ≤ cs.size) (H : Hold w0 B w (.blk g (.cells cs t) :: L)) :
    Calls Tryz.prog 198 #[.slice (some ⟨g, off, none⟩) m c, .int .u64 (v : Int)] w fun e w' => e = .returned (.tuple #[]) ∧ Hold w0 B w' (.blk g (.cells (putN cs off (be8 v)) t) :: L) := by
  have HH := Aside0.mk H
  obtain ⟨d0, f0⟩ := H.cellq 0 rfl off _ (Array.getElem?_eq_getElem (by omega))
  obtain ⟨d1, f1⟩ := H.cellq 0 rfl (off + 1) _ (Array.getElem?_eq_getElem (by omega))
  obtain ⟨d2, f2⟩ := H.cellq 0 rfl (off + 2) _ (Array.getElem?_eq_getElem (by omega))
  obtain ⟨d3, f3⟩ := H.cellq 0 rfl (off + 3) _ (Array.getElem?_eq_getElem (by omega))
  obtain ⟨d4, f4⟩ := H.cellq 0 rfl (off + 4) _ (Array.getElem?_eq_getElem (by omega))
  obtain ⟨d5, f5⟩ := H.cellq 0 rfl (off + 5) _ (Array.getElem?_eq_getElem (by omega))
  obtain ⟨d6, f6⟩ := H.cellq 0 rfl (off + 6) _ (Array.getElem?_eq_getElem (by omega))
  obtain ⟨d7, f7⟩ := H.cellq 0 rfl (off + 7) _ (Array.getElem?_eq_getElem (by omega))
  generalize cs[off] = o0 at d0
  generalize cs[off + 1] = o1 at d1
  generalize cs[off + 2] = o2 at d2
  generalize cs[off + 3] = o3 at d3
  generalize cs[off + 4] = o4 at d4
  generalize cs[off + 5] = o5 at d5
  generalize cs[off + 6] = o6 at d6
  generalize cs[off + 7] = o7 at d7
  clear H
  go_enter Tryz.func198, Tryz.ntmps198
  go_wp2
  go_end0
  exact ⟨rfl, (((((((HH.out.store 0 rfl off _).store 0 rfl (off + 1) _).store 0 rfl (off + 2) _).store 0 rfl (off + 3) _).store 0 rfl (off + 4) _).store 0 rfl (off + 5) _).store 0 rfl (off + 6) _).store 0 rfl (off + 7) _⟩
end Go.Proofs.YtdldblfklalaeaaGreatDoor
