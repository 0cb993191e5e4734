/-
  encoding/base64: EncodedLen, Encode without padding: their contracts.
-/
import Derived.Test.YtlncbbmmlhammaaDoorEnc3
import Derived.Test.YtlncbbmmlhammaaDoorB24
import Derived.Laws.Rows
import Derived.Deep.MidRow
namespace Go.Proofs.YtlncbbmmlhammaaDoor
open Go.RowKit Go.Proofs.YtlncbbmmlhammaaDoorW.PrintWords Go.Lib
set_option linter.unusedVariables false
set_option linter.unusedSimpArgs false
def encLen (n : Nat) : Nat := n / 3 * 4 + (n % 3 * 8 + 5) / 6
def b64at (url : Bool) (k : Nat) : UInt8 := (letX url).getD k 0
/-- Base64 without padding. -/
def b64 (url : Bool) : List UInt8 → List UInt8
  | x :: y :: z :: r => b64at url (x.toNat / 4) :: b64at url (x.toNat % 4 * 16 + y.toNat / 16) :: b64at url (y.toNat % 16 * 4 + z.toNat / 64) :: b64at url (z.toNat % 64) :: b64 url r
  | [x, y] => [b64at url (x.toNat / 4), b64at url (x.toNat % 4 * 16 + y.toNat / 16), b64at url (y.toNat % 16 * 4)]
  | [x] => [b64at url (x.toNat / 4), b64at url (x.toNat % 4 * 16)]
  | [] => []
theorem b64_len (url : Bool) : ∀ xs : List UInt8, (b64 url xs).length = encLen xs.length
  | x :: y :: z :: r => by
    simp only [b64, List.length_cons, b64_len url r]
    unfold encLen
    omega
  | [x, y] => by simp [b64, encLen]
  | [x] => by simp [b64, encLen]
  | [] => by simp [b64, encLen]
set_option maxHeartbeats 1000000 in
theorem encLen_any {w0 : World} {B : Nat} {L : List Asrt} (w : World) (url : Bool) (g n : Nat) (hn : n ≤ 1000000000) (H : Hold w0 B w (.blk g (.cells (encX url (-1)) 70) :: L)) :
    Calls Tryd.prog 51 #[.pointer (some ⟨g, 0, none⟩), .int .i64 n] w fun e w' => e = .returned (.int .i64 (encLen n : Nat)) ∧ w = w' := by
  have hp := (H.cellq 0 rfl 320 _ (ecells_atP _ _ _ (letX_len url) (decX_len url))).1
  have hu := Tryd.underlying70
  have HE : Aside0 (encLen n = n / 3 * 4 + (n % 3 * 8 + 5) / 6) := ⟨rfl⟩
  clear H
  go_enter Tryd.func51, Tryd.ntmps51
  go_wp2
  go_ret
  refine ⟨?_, rfl⟩
  rw [HE.out]
  go_num

theorem cell_of_C {w : World} {b o n : Nat} {xs : List UInt8} (h : kB.C w (some ⟨b, o, none⟩) n xs) (k : Nat) (hk : k < xs.length) : w.cell? ⟨b, o + k, none⟩ = some (bV xs[k]) := by
  obtain ⟨ad, e, hc⟩ := C1_get h k hk
  injection e with e
  subst e
  rwa [Addr.add_mid] at hc
def putN (cs : Array Value) (off : Nat) : List Value → Array Value
  | [] => cs
  | v :: r => putN (cs.setIfInBounds off v) (off + 1) r
theorem putN_snoc : ∀ (vs : List Value) (cs : Array Value) (off : Nat) (v : Value), putN cs off (vs ++ [v]) = (putN cs off vs).setIfInBounds (off + vs.length) v
  | [], cs, off, v => rfl
  | u :: r, cs, off, v => by
    show putN (cs.setIfInBounds off u) (off + 1) (r ++ [v]) = (putN (cs.setIfInBounds off u) (off + 1) r).setIfInBounds (off + (r.length + 1)) v
    rw [putN_snoc r, show off + 1 + r.length = off + (r.length + 1) by omega]
theorem putN_size : ∀ (vs : List Value) (cs : Array Value) (off : Nat), (putN cs off vs).size = cs.size
  | [], _, _ => rfl
  | u :: r, cs, off => (putN_size r _ _).trans (Array.size_setIfInBounds ..)
theorem b64_take (url : Bool) : ∀ (k : Nat) (xs : List UInt8), 3 * k + 3 ≤ xs.length → b64 url (xs.take (3 * k + 3)) = b64 url (xs.take (3 * k)) ++ b64 url ((xs.drop (3 * k)).take 3)
  | 0, x :: y :: z :: r, _ => by simp [b64]
  | k + 1, x :: y :: z :: r, h => by
    have h' : 3 * k + 3 ≤ r.length := by simp at h; omega
    rw [show 3 * (k + 1) + 3 = (3 * k + 3) + 1 + 1 + 1 by omega, show 3 * (k + 1) = 3 * k + 1 + 1 + 1 by omega]
    simp only [List.take_succ_cons, List.drop_succ_cons, b64]
    rw [b64_take url k r h']
    rfl
theorem putN4 (vs : List Value) (cs : Array Value) (off n : Nat) (a b c d : Value) (hn : vs.length = n) : putN cs off (vs ++ [a, b, c, d]) = ((((putN cs off vs).setIfInBounds (off + n) a).setIfInBounds (off + n + 1) b).setIfInBounds (off + n + 2) c).setIfInBounds (off + n + 3) d := by
  subst hn
  rw [show vs ++ [a, b, c, d] = vs ++ [a] ++ [b] ++ [c] ++ [d] by simp, putN_snoc, putN_snoc, putN_snoc, putN_snoc]
  simp only [List.length_append, List.length_singleton, Nat.add_assoc]
theorem drop_take3 {xs : List UInt8} {j : Nat} (h0 : j < xs.length) (h1 : j + 1 < xs.length) (h2 : j + 2 < xs.length) : (xs.drop j).take 3 = [xs[j], xs[j + 1], xs[j + 2]] := by
  rw [List.drop_eq_getElem_cons h0, List.drop_eq_getElem_cons h1, List.drop_eq_getElem_cons h2]
  rfl
theorem b64_step (url : Bool) {xs : List UInt8} {k : Nat} (h0 : 3 * k < xs.length) (h1 : 3 * k + 1 < xs.length) (h2 : 3 * k + 2 < xs.length) {x y z : UInt8} (hx : x = xs[3 * k]) (hy : y = xs[3 * k + 1]) (hz : z = xs[3 * k + 2]) :
    b64 url (xs.take (3 * (k + 1))) = b64 url (xs.take (3 * k)) ++ [b64at url (x.toNat / 4), b64at url (x.toNat % 4 * 16 + y.toNat / 16), b64at url (y.toNat % 16 * 4 + z.toNat / 64), b64at url (z.toNat % 64)] := by
  rw [show 3 * (k + 1) = 3 * k + 3 by omega, b64_take url k xs (by omega), drop_take3 h0 h1 h2, ← hx, ← hy, ← hz]
  simp [b64]
theorem b64_app (url : Bool) : ∀ (k : Nat) (xs : List UInt8), 3 * k ≤ xs.length → b64 url xs = b64 url (xs.take (3 * k)) ++ b64 url (xs.drop (3 * k))
  | 0, xs, _ => by simp [b64]
  | k + 1, x :: y :: z :: r, h => by
    have h' : 3 * k ≤ r.length := by simp at h; omega
    rw [show 3 * (k + 1) = 3 * k + 1 + 1 + 1 by omega]
    simp only [List.take_succ_cons, List.drop_succ_cons, b64]
    rw [b64_app url k r h']
    rfl
theorem putN2 (vs : List Value) (cs : Array Value) (off n : Nat) (a b : Value) (hn : vs.length = n) : putN cs off (vs ++ [a, b]) = ((putN cs off vs).setIfInBounds (off + n) a).setIfInBounds (off + n + 1) b := by
  subst hn
  rw [show vs ++ [a, b] = vs ++ [a] ++ [b] by simp, putN_snoc, putN_snoc]
  simp only [List.length_append, List.length_singleton, Nat.add_assoc]
theorem putN3 (vs : List Value) (cs : Array Value) (off n : Nat) (a b c : Value) (hn : vs.length = n) : putN cs off (vs ++ [a, b, c]) = (((putN cs off vs).setIfInBounds (off + n) a).setIfInBounds (off + n + 1) b).setIfInBounds (off + n + 2) c := by
  subst hn
  rw [show vs ++ [a, b, c] = vs ++ [a] ++ [b] ++ [c] by simp, putN_snoc, putN_snoc, putN_snoc]
  simp only [List.length_append, List.length_singleton, Nat.add_assoc]
theorem b64_end1 (url : Bool) {xs : List UInt8} {k : Nat} (h0 : 3 * k < xs.length) (hl : xs.length = 3 * k + 1) {x : UInt8} (hx : x = xs[3 * k]) :
    b64 url xs = b64 url (xs.take (3 * k)) ++ [b64at url (x.toNat / 4), b64at url (x.toNat % 4 * 16)] := by
  have e : xs.drop (3 * k) = [x] := by rw [List.drop_eq_getElem_cons h0, ← hx, List.drop_of_length_le (by omega)]
  rw [b64_app url k xs (by omega), e]
  simp [b64]
theorem b64_end2 (url : Bool) {xs : List UInt8} {k : Nat} (h0 : 3 * k < xs.length) (h1 : 3 * k + 1 < xs.length) (hl : xs.length = 3 * k + 2) {x y : UInt8} (hx : x = xs[3 * k]) (hy : y = xs[3 * k + 1]) :
    b64 url xs = b64 url (xs.take (3 * k)) ++ [b64at url (x.toNat / 4), b64at url (x.toNat % 4 * 16 + y.toNat / 16), b64at url (y.toNat % 16 * 4)] := by
  have e : xs.drop (3 * k) = [x, y] := by rw [List.drop_eq_getElem_cons h0, List.drop_eq_getElem_cons h1, ← hx, ← hy, List.drop_of_length_le (by omega)]
  rw [b64_app url k xs (by omega), e]
  simp [b64]
theorem b64_len3 (url : Bool) {xs : List UInt8} {k : Nat} (h : 3 * k ≤ xs.length) : ((b64 url (xs.take (3 * k))).map bV).length = 4 * k := by
  rw [List.length_map, b64_len, List.length_take, Nat.min_eq_left h]
  unfold encLen
  omega
theorem Hold.rangeE {w0 : World} {B : Nat} {w : World} {L : List Asrt} {url : Bool} {g t : Nat} {p : Int} (H : Hold w0 B w (.blk g (.cells (encX url p) t) :: L)) : w.rangeAt g 0 ((letX url).map bV) := by
  intro j v hv
  have hj : j < 64 := by
    have := (List.getElem?_eq_some_iff.1 hv).1
    rwa [List.length_map, letX_len] at this
  have := (H.cellq 0 rfl j _ (ecells_atE (letX url) (decX url) p (letX_len url) j hj)).1
  rw [Nat.zero_add, this]
  rw [List.getElem?_map, List.getElem?_eq_getElem (by rw [letX_len]; exact hj)] at hv
  rw [List.getD_eq_getElem?_getD, List.getElem?_eq_getElem (by rw [letX_len]; exact hj)]
  exact hv
theorem sizeE (url : Bool) : (Tryd.prog.info? 67).map (·.size) = some ((letX url).map bV).length := by
  rw [List.length_map, letX_len]
  kernel_rfl
set_option maxRecDepth 100000 in
set_option maxHeartbeats 4000000 in
theorem encode_any {w0 : World} {B : Nat} {L : List Asrt} (w : World) (url : Bool) (g gd off b o n c m cap t : Nat) (A D : Option Addr) (xs : List UInt8) (cs : Array Value) (hn : n ≤ 1000000000)
    (hA : 0 < n → A = some ⟨b, o, none⟩) (hD : 0 < m → D = some ⟨gd, off, none⟩) (hm : m = encLen n) (hfit : off + m ≤ cs.size)
    (hmc : m ≤ cap) (hnc : n ≤ c) (hne : g ≠ gd) (H : Hold w0 B w (.blk g (.cells (encX url (-1)) 70) :: .blk gd (.cells cs t) :: L))
    (hsrc : ∀ w' cs', Hold w0 B w' (.blk g (.cells (encX url (-1)) 70) :: .blk gd (.cells cs' t) :: L) → kB.C w' A n xs) :
    Calls Tryd.prog 49 #[.pointer (some ⟨g, 0, none⟩), .slice D m cap, .slice A n c] w fun e w' => e = .returned (.tuple #[]) ∧
      Hold w0 B w' (.blk g (.cells (encX url (-1)) 70) :: .blk gd (.cells (putN cs off ((b64 url xs).map bV)) t) :: L) := by
  have hx := (hsrc w cs H).1
  obtain rfl := hx
  have HH := Aside0.mk H
  have hu := Tryd.underlying70
  by_cases h0 : xs.length = 0
  · have hx0 : xs = [] := List.eq_nil_of_length_eq_zero h0
    subst hx0
    clear hsrc H
    go_enter Tryd.func49, Tryd.ntmps49
    go_wp2
    (try simp only [Exit.inBlock, Exit.then])
    refine bodyPost_ret (results_none rfl _ _ _) rfl ?_
    exact ⟨rfl, HH.out⟩
  · have hA' := hA (by omega)
    subst hA'
    have HRg := Aside0.mk H.rangeE
    have HSz := Aside0.mk (sizeE url)
    have HSR := Aside0.mk hsrc
    have HFit := Aside0.mk hfit
    have HM := Aside0.mk hm
    have HD := Aside0.mk hD
    clear hsrc H hm hD
    go_enter Tryd.func49, Tryd.ntmps49
    go_wp2_with ((with_reducible refine at_dst (N := 15) rfl ?_); refine wpList_load_mid rfl 67 (.tmp 14) rfl g 0 rfl ((letX url).map bV) _ HRg.out Tryd.underlying67 rfl HSz.out ?_)
    go_loopw [1, 2] (fun v1 v2 wr => ∃ (k : Nat) (a1 a2 : Option Addr) (c1 c2 : Nat), 3 * k ≤ xs.length ∧ v1 = .slice a1 (m - 4 * k) c1 ∧ v2 = .slice a2 (xs.length - 3 * k) c2 ∧ (0 < m - 4 * k → a1 = some ⟨gd, off + 4 * k, none⟩) ∧ (0 < xs.length - 3 * k → a2 = some ⟨b, o + 3 * k, none⟩) ∧ m - 4 * k ≤ c1 ∧ xs.length - 3 * k ≤ c2 ∧
        Hold w0 B wr (.blk g (.cells (encX url (-1)) 70) :: .blk gd (.cells (putN cs off ((b64 url (xs.take (3 * k))).map bV)) t) :: L)) (fun _ v2 _ => match v2 with | .slice _ q _ => q | _ => 0)
    case atStart => exact ⟨0, _, _, _, _, Nat.zero_le _, rfl, rfl, HD.out, fun _ => rfl, hmc, hnc, by simpa [b64, putN] using HH.out⟩
    case round =>
      obtain ⟨k, a1, a2, c1, c2, hk, rfl, rfl, h1, h2, hc1', hc2', hR⟩ := hrel
      have HR := Aside0.mk hR
      clear hR
      by_cases hlt : 3 ≤ xs.length - 3 * k
      · have hmk : 4 * k + 4 ≤ m := by rw [HM.out]; unfold encLen; omega
        have ha1 := h1 (by omega)
        have ha2 := h2 (by omega)
        subst ha1 ha2
        clear h1 h2
        obtain ⟨q, hq⟩ : ∃ q, q = xs.length - 3 * k := ⟨_, rfl⟩
        obtain ⟨mm, hmm⟩ : ∃ mm, mm = m - 4 * k := ⟨_, rfl⟩
        have hb0 : 3 * k < xs.length := by omega
        have hb1 : 3 * k + 1 < xs.length := by omega
        have hb2 : 3 * k + 2 < xs.length := by omega
        have HC := HSR.out _ _ HR.out
        have e0 := cell_of_C HC (3 * k) hb0
        have e1 := cell_of_C HC (3 * k + 1) hb1
        have e2 := cell_of_C HC (3 * k + 2) hb2
        clear HC
        rw [← hq, ← hmm]
        have hq3 : 3 ≤ q := by omega
        have hmm4 : 4 ≤ mm := by omega
        have HQ := Aside0.mk hq
        have HMM := Aside0.mk hmm
        obtain ⟨x, hx⟩ : ∃ x, x = xs[3 * k]'hb0 := ⟨_, rfl⟩
        obtain ⟨y, hy⟩ : ∃ y, y = xs[3 * k + 1]'hb1 := ⟨_, rfl⟩
        obtain ⟨z, hz⟩ : ∃ z, z = xs[3 * k + 2]'hb2 := ⟨_, rfl⟩
        rw [← hx] at e0
        rw [← hy] at e1
        rw [← hz] at e2
        have HX := Aside0.mk hx
        have HY := Aside0.mk hy
        have HZ := Aside0.mk hz
        have e1' : wr.cell? ⟨b, o + 3 * k + 1, none⟩ = some (.int .u8 (y.toNat : Int)) := e1
        have e2' : wr.cell? ⟨b, o + 3 * k + 2, none⟩ = some (.int .u8 (z.toNat : Int)) := e2
        have e0' : wr.cell? ⟨b, o + 3 * k, none⟩ = some (.int .u8 (x.toNat : Int)) := e0
        have HC1 : Aside0 (mm ≤ c1) := ⟨by omega⟩
        have HC2 : Aside0 (q ≤ c2) := ⟨by omega⟩
        clear hq hmm hx hy hz e0 e1 e2 hc1' hc2'
        obtain ⟨N, hN⟩ : ∃ N, bits BinOp.or IntKind.u64 (bits BinOp.or IntKind.u64 (IntKind.u64.wrap (IntKind.u64.wrap (x.toNat : Int) * 65536)) (IntKind.u64.wrap (IntKind.u64.wrap (y.toNat : Int) * 256))) (IntKind.u64.wrap (z.toNat : Int)) = N := ⟨_, rfl⟩
        have hNv : N = ((x.toNat * 65536 + y.toNat * 256 + z.toNat : Nat) : Int) := hN.symm.trans (v3_eq x y z)
        have hxl := x.toNat_lt
        have hyl := y.toNat_lt
        have hzl := z.toNat_lt
        obtain ⟨i0, hi0⟩ : ∃ i0, i0 = x.toNat / 4 := ⟨_, rfl⟩
        obtain ⟨i1, hi1⟩ : ∃ i1, i1 = x.toNat % 4 * 16 + y.toNat / 16 := ⟨_, rfl⟩
        obtain ⟨i2, hi2⟩ : ∃ i2, i2 = y.toNat % 16 * 4 + z.toNat / 64 := ⟨_, rfl⟩
        obtain ⟨i3, hi3⟩ : ∃ i3, i3 = z.toNat % 64 := ⟨_, rfl⟩
        have hI0 : bits .and .u64 (N / 262144) 63 = (i0 : Int) := part0 _ 262144 _ hNv (by omega) (by omega)
        have hI1 : bits .and .u64 (N / 4096) 63 = (i1 : Int) := part0 _ 4096 _ hNv (by omega) (by omega)
        have hI2 : bits .and .u64 (N / 64) 63 = (i2 : Int) := part0 _ 64 _ hNv (by omega) (by omega)
        have hI3 : bits .and .u64 N 63 = (i3 : Int) := part1 _ _ hNv (by omega) (by omega)
        have hl0 : i0 < 64 := by omega
        have hl1 : i1 < 64 := by omega
        have hl2 : i2 < 64 := by omega
        have hl3 : i3 < 64 := by omega
        have hc0 := (HR.out.cellq 0 rfl i0 _ (ecells_atE _ _ _ (letX_len url) i0 hl0)).1
        have hc1 := (HR.out.cellq 0 rfl i1 _ (ecells_atE _ _ _ (letX_len url) i1 hl1)).1
        have hc2 := (HR.out.cellq 0 rfl i2 _ (ecells_atE _ _ _ (letX_len url) i2 hl2)).1
        have hc3 := (HR.out.cellq 0 rfl i3 _ (ecells_atE _ _ _ (letX_len url) i3 hl3)).1
        have HI := Aside0.mk (And.intro hi0 (And.intro hi1 (And.intro hi2 hi3)))
        obtain ⟨l0, hl0'⟩ : ∃ l0, l0 = (letX url).getD i0 0 := ⟨_, rfl⟩
        obtain ⟨l1, hl1'⟩ : ∃ l1, l1 = (letX url).getD i1 0 := ⟨_, rfl⟩
        obtain ⟨l2, hl2'⟩ : ∃ l2, l2 = (letX url).getD i2 0 := ⟨_, rfl⟩
        obtain ⟨l3, hl3'⟩ : ∃ l3, l3 = (letX url).getD i3 0 := ⟨_, rfl⟩
        have HLt := Aside0.mk (And.intro hl0' (And.intro hl1' (And.intro hl2' hl3')))
        have g0 : wr.cell? ⟨g, i0, none⟩ = some (.int .u8 (l0.toNat : Int)) := by rw [hl0']; exact hc0
        have g1 : wr.cell? ⟨g, i1, none⟩ = some (.int .u8 (l1.toNat : Int)) := by rw [hl1']; exact hc1
        have g2 : wr.cell? ⟨g, i2, none⟩ = some (.int .u8 (l2.toNat : Int)) := by rw [hl2']; exact hc2
        have g3 : wr.cell? ⟨g, i3, none⟩ = some (.int .u8 (l3.toNat : Int)) := by rw [hl3']; exact hc3
        clear hNv hi0 hi1 hi2 hi3 hl0' hl1' hl2' hl3' hc0 hc1 hc2 hc3 hxl hyl hzl
        have hcz : off + 4 * k + 4 ≤ (putN cs off ((b64 url (xs.take (3 * k))).map bV)).size := by rw [putN_size]; omega
        have hD0 := HR.out.cellq 1 rfl (off + 4 * k) _ (Array.getElem?_eq_getElem (by omega))
        have hD1 := HR.out.cellq 1 rfl (off + 4 * k + 1) _ (Array.getElem?_eq_getElem (by omega))
        have hD2 := HR.out.cellq 1 rfl (off + 4 * k + 2) _ (Array.getElem?_eq_getElem (by omega))
        have hD3 := HR.out.cellq 1 rfl (off + 4 * k + 3) _ (Array.getElem?_eq_getElem (by omega))
        obtain ⟨d0, f0⟩ := hD0
        obtain ⟨d1, f1⟩ := hD1
        obtain ⟨d2, f2⟩ := hD2
        obtain ⟨d3, f3⟩ := hD3
        generalize (putN cs off ((b64 url (xs.take (3 * k))).map bV))[off + 4 * k] = w0' at d0
        generalize (putN cs off ((b64 url (xs.take (3 * k))).map bV))[off + 4 * k + 1] = w1' at d1
        generalize (putN cs off ((b64 url (xs.take (3 * k))).map bV))[off + 4 * k + 2] = w2' at d2
        generalize (putN cs off ((b64 url (xs.take (3 * k))).map bV))[off + 4 * k + 3] = w3' at d3
        clear hcz
        go_wp2
        go_quiet (fail)
        go_wp2
        have hmm2 : mm - 4 = m - 4 * (k + 1) := by rw [HMM.out]; omega
        have hq2 : q - 3 = xs.length - 3 * (k + 1) := by rw [HQ.out]; omega
        have hcc1 := HC1.out
        have hcc2 := HC2.out
        rw [hmm2, hq2]
        refine ⟨⟨k + 1, _, _, _, _, by omega, rfl, rfl, fun h => ?_, fun h => ?_, by omega, by omega, ?_⟩, by simp only []; omega⟩
        · rw [if_neg (by omega)]; rfl
        · rw [if_neg (by omega)]; rfl
        · have h := ((((HR.out.drewN nq).store 1 rfl (off + 4 * k) (.int .u8 (l0.toNat : Int))).store 1 rfl (off + 4 * k + 1) (.int .u8 (l1.toNat : Int))).store 1 rfl (off + 4 * k + 2) (.int .u8 (l2.toNat : Int))).store 1 rfl (off + 4 * k + 3) (.int .u8 (l3.toNat : Int))
          obtain ⟨j0, j1, j2, j3⟩ := HI.out
          obtain ⟨m0, m1, m2, m3⟩ := HLt.out
          rw [b64_step url hb0 hb1 hb2 HX.out HY.out HZ.out, ← j0, ← j1, ← j2, ← j3, List.map_append, show [b64at url i0, b64at url i1, b64at url i2, b64at url i3].map bV = [.int .u8 (l0.toNat : Int), .int .u8 (l1.toNat : Int), .int .u8 (l2.toNat : Int), .int .u8 (l3.toNat : Int)] by rw [m0, m1, m2, m3]; rfl, putN4 _ _ _ _ _ _ _ _ (b64_len3 url hk)]
          exact h
      · have hrest : xs.length - 3 * k = 0 ∨ xs.length - 3 * k = 1 ∨ xs.length - 3 * k = 2 := by omega
        rcases hrest with hr | hr | hr
        · rw [hr]
          have HB : Aside0 (b64 url xs = b64 url (xs.take (3 * k))) := ⟨by rw [List.take_of_length_le (by omega)]⟩
          clear h1 h2
          go_wp2
          (try simp only [Exit.inBlock, Exit.then])
          refine bodyPost_ret (results_none rfl _ _ _) rfl ?_
          rw [HB.out]
          exact ⟨rfl, HR.out⟩
        · have hmk : m - 4 * k = 2 := by rw [HM.out]; unfold encLen; omega
          have ha1 := h1 (by omega)
          have ha2 := h2 (by omega)
          subst ha1 ha2
          rw [hr, hmk]
          clear h1 h2
          have hb0 : 3 * k < xs.length := by omega
          have HLen : Aside0 (xs.length = 3 * k + 1) := ⟨by omega⟩
          have HC := HSR.out _ _ HR.out
          have e0 := cell_of_C HC (3 * k) hb0
          obtain ⟨x, hx⟩ : ∃ x, x = xs[3 * k]'hb0 := ⟨_, rfl⟩
          rw [← hx] at e0
          have e0' : wr.cell? ⟨b, o + 3 * k, none⟩ = some (.int .u8 (x.toNat : Int)) := e0
          have HX := Aside0.mk hx
          have hp := (HR.out.cellq 0 rfl 320 _ (ecells_atP _ _ _ (letX_len url) (decX_len url))).1
          clear HC e0 hx
          obtain ⟨N, hN⟩ : ∃ N, IntKind.u64.wrap (IntKind.u64.wrap (x.toNat : Int) * 65536) = N := ⟨_, rfl⟩
          have hNv : N = ((x.toNat * 65536 : Nat) : Int) := hN.symm.trans (v1_eq x)
          have hxl := x.toNat_lt
          obtain ⟨i0, hi0⟩ : ∃ i0, i0 = x.toNat / 4 := ⟨_, rfl⟩
          obtain ⟨i1, hi1⟩ : ∃ i1, i1 = x.toNat % 4 * 16 := ⟨_, rfl⟩
          have hI0 : bits .and .u64 (N / 262144) 63 = (i0 : Int) := part0 _ 262144 _ hNv (by omega) (by omega)
          have hI1 : bits .and .u64 (N / 4096) 63 = (i1 : Int) := part0 _ 4096 _ hNv (by omega) (by omega)
          have hl0 : i0 < 64 := by omega
          have hc0 := (HR.out.cellq 0 rfl i0 _ (ecells_atE _ _ _ (letX_len url) i0 hl0)).1
          have hl1 : i1 < 64 := by omega
          have hc1 := (HR.out.cellq 0 rfl i1 _ (ecells_atE _ _ _ (letX_len url) i1 hl1)).1
          have HI0 := Aside0.mk hi0
          obtain ⟨l0, hl0'⟩ : ∃ l0, l0 = (letX url).getD i0 0 := ⟨_, rfl⟩
          have HLt0 := Aside0.mk hl0'
          have g0 : wr.cell? ⟨g, i0, none⟩ = some (.int .u8 (l0.toNat : Int)) := by rw [hl0']; exact hc0
          have HI1 := Aside0.mk hi1
          obtain ⟨l1, hl1'⟩ : ∃ l1, l1 = (letX url).getD i1 0 := ⟨_, rfl⟩
          have HLt1 := Aside0.mk hl1'
          have g1 : wr.cell? ⟨g, i1, none⟩ = some (.int .u8 (l1.toNat : Int)) := by rw [hl1']; exact hc1
          clear hNv hi0 hl0' hc0 hi1 hl1' hc1 hxl 
          have hcz : off + 4 * k + 2 ≤ (putN cs off ((b64 url (xs.take (3 * k))).map bV)).size := by rw [putN_size]; omega
          have hD0 := HR.out.cellq 1 rfl (off + 4 * k) _ (Array.getElem?_eq_getElem (by omega))
          obtain ⟨d0, f0⟩ := hD0
          generalize (putN cs off ((b64 url (xs.take (3 * k))).map bV))[off + 4 * k] = w0' at d0
          have hD1 := HR.out.cellq 1 rfl (off + 4 * k + 1) _ (Array.getElem?_eq_getElem (by omega))
          obtain ⟨d1, f1⟩ := hD1
          generalize (putN cs off ((b64 url (xs.take (3 * k))).map bV))[off + 4 * k + 1] = w1' at d1
          clear hcz
          go_wp2
          go_end0
          have h := ((HR.out).store 1 rfl (off + 4 * k) (.int .u8 (l0.toNat : Int))).store 1 rfl (off + 4 * k + 1) (.int .u8 (l1.toNat : Int))
          rw [b64_end1 url hb0 HLen.out HX.out, ← HI0.out, ← HI1.out, List.map_append, show [b64at url i0, b64at url i1].map bV = [.int .u8 (l0.toNat : Int), .int .u8 (l1.toNat : Int)] by rw [HLt0.out, HLt1.out]; rfl, putN2 _ _ _ _ _ _ (b64_len3 url hk)]
          exact ⟨rfl, h⟩
        · have hmk : m - 4 * k = 3 := by rw [HM.out]; unfold encLen; omega
          have ha1 := h1 (by omega)
          have ha2 := h2 (by omega)
          subst ha1 ha2
          rw [hr, hmk]
          clear h1 h2
          have hb0 : 3 * k < xs.length := by omega
          have hb1 : 3 * k + 1 < xs.length := by omega
          have HLen : Aside0 (xs.length = 3 * k + 2) := ⟨by omega⟩
          have HC := HSR.out _ _ HR.out
          have e0 := cell_of_C HC (3 * k) hb0
          have e1 := cell_of_C HC (3 * k + 1) hb1
          obtain ⟨x, hx⟩ : ∃ x, x = xs[3 * k]'hb0 := ⟨_, rfl⟩
          obtain ⟨y, hy⟩ : ∃ y, y = xs[3 * k + 1]'hb1 := ⟨_, rfl⟩
          rw [← hx] at e0
          rw [← hy] at e1
          have e0' : wr.cell? ⟨b, o + 3 * k, none⟩ = some (.int .u8 (x.toNat : Int)) := e0
          have e1' : wr.cell? ⟨b, o + 3 * k + 1, none⟩ = some (.int .u8 (y.toNat : Int)) := e1
          have HX := Aside0.mk hx
          have HY := Aside0.mk hy
          have hp := (HR.out.cellq 0 rfl 320 _ (ecells_atP _ _ _ (letX_len url) (decX_len url))).1
          clear HC e0 e1 hx hy
          obtain ⟨N, hN⟩ : ∃ N, bits BinOp.or IntKind.u64 (IntKind.u64.wrap (IntKind.u64.wrap (x.toNat : Int) * 65536)) (IntKind.u64.wrap (IntKind.u64.wrap (y.toNat : Int) * 256)) = N := ⟨_, rfl⟩
          have hNv : N = ((x.toNat * 65536 + y.toNat * 256 : Nat) : Int) := hN.symm.trans (v2_eq x y)
          have hxl := x.toNat_lt
          have hyl := y.toNat_lt
          obtain ⟨i0, hi0⟩ : ∃ i0, i0 = x.toNat / 4 := ⟨_, rfl⟩
          obtain ⟨i1, hi1⟩ : ∃ i1, i1 = x.toNat % 4 * 16 + y.toNat / 16 := ⟨_, rfl⟩
          obtain ⟨i2, hi2⟩ : ∃ i2, i2 = y.toNat % 16 * 4 := ⟨_, rfl⟩
          have hI0 : bits .and .u64 (N / 262144) 63 = (i0 : Int) := part0 _ 262144 _ hNv (by omega) (by omega)
          have hI1 : bits .and .u64 (N / 4096) 63 = (i1 : Int) := part0 _ 4096 _ hNv (by omega) (by omega)
          have hI2 : bits .and .u64 (N / 64) 63 = (i2 : Int) := part0 _ 64 _ hNv (by omega) (by omega)
          have hl0 : i0 < 64 := by omega
          have hc0 := (HR.out.cellq 0 rfl i0 _ (ecells_atE _ _ _ (letX_len url) i0 hl0)).1
          have hl1 : i1 < 64 := by omega
          have hc1 := (HR.out.cellq 0 rfl i1 _ (ecells_atE _ _ _ (letX_len url) i1 hl1)).1
          have hl2 : i2 < 64 := by omega
          have hc2 := (HR.out.cellq 0 rfl i2 _ (ecells_atE _ _ _ (letX_len url) i2 hl2)).1
          have HI0 := Aside0.mk hi0
          obtain ⟨l0, hl0'⟩ : ∃ l0, l0 = (letX url).getD i0 0 := ⟨_, rfl⟩
          have HLt0 := Aside0.mk hl0'
          have g0 : wr.cell? ⟨g, i0, none⟩ = some (.int .u8 (l0.toNat : Int)) := by rw [hl0']; exact hc0
          have HI1 := Aside0.mk hi1
          obtain ⟨l1, hl1'⟩ : ∃ l1, l1 = (letX url).getD i1 0 := ⟨_, rfl⟩
          have HLt1 := Aside0.mk hl1'
          have g1 : wr.cell? ⟨g, i1, none⟩ = some (.int .u8 (l1.toNat : Int)) := by rw [hl1']; exact hc1
          have HI2 := Aside0.mk hi2
          obtain ⟨l2, hl2'⟩ : ∃ l2, l2 = (letX url).getD i2 0 := ⟨_, rfl⟩
          have HLt2 := Aside0.mk hl2'
          have g2 : wr.cell? ⟨g, i2, none⟩ = some (.int .u8 (l2.toNat : Int)) := by rw [hl2']; exact hc2
          clear hNv hi0 hl0' hc0 hi1 hl1' hc1 hi2 hl2' hc2 hxl hyl
          have hcz : off + 4 * k + 3 ≤ (putN cs off ((b64 url (xs.take (3 * k))).map bV)).size := by rw [putN_size]; omega
          have hD0 := HR.out.cellq 1 rfl (off + 4 * k) _ (Array.getElem?_eq_getElem (by omega))
          obtain ⟨d0, f0⟩ := hD0
          generalize (putN cs off ((b64 url (xs.take (3 * k))).map bV))[off + 4 * k] = w0' at d0
          have hD1 := HR.out.cellq 1 rfl (off + 4 * k + 1) _ (Array.getElem?_eq_getElem (by omega))
          obtain ⟨d1, f1⟩ := hD1
          generalize (putN cs off ((b64 url (xs.take (3 * k))).map bV))[off + 4 * k + 1] = w1' at d1
          have hD2 := HR.out.cellq 1 rfl (off + 4 * k + 2) _ (Array.getElem?_eq_getElem (by omega))
          obtain ⟨d2, f2⟩ := hD2
          generalize (putN cs off ((b64 url (xs.take (3 * k))).map bV))[off + 4 * k + 2] = w2' at d2
          clear hcz
          go_wp2
          go_quiet (fail)
          go_wp2
          go_end0
          have h := (((HR.out.drewN nq).store 1 rfl (off + 4 * k) (.int .u8 (l0.toNat : Int))).store 1 rfl (off + 4 * k + 1) (.int .u8 (l1.toNat : Int))).store 1 rfl (off + 4 * k + 2) (.int .u8 (l2.toNat : Int))
          rw [b64_end2 url hb0 hb1 HLen.out HX.out HY.out, ← HI0.out, ← HI1.out, ← HI2.out, List.map_append, show [b64at url i0, b64at url i1, b64at url i2].map bV = [.int .u8 (l0.toNat : Int), .int .u8 (l1.toNat : Int), .int .u8 (l2.toNat : Int)] by rw [HLt0.out, HLt1.out, HLt2.out]; rfl, putN3 _ _ _ _ _ _ _ (b64_len3 url hk)]
          exact ⟨rfl, h⟩
end Go.Proofs.YtlncbbmmlhammaaDoor
