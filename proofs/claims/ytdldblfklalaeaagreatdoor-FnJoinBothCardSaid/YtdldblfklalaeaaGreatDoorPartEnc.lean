/-
  spec.partLetters, spec.PartEncoded, spec.PartOf: their contracts.
-/
import Derived.Test.YtdldblfklalaeaaGreatDoorSb
import Derived.LoopN
namespace Go.Proofs.YtdldblfklalaeaaGreatDoor
open Go.RowKit Go.Proofs.YtdldblfklalaeaaGreatDoorW.PrintWords Go.Lib
set_option linter.unusedVariables false
set_option linter.unusedSimpArgs false
def strX (url : Bool) : ByteArray := ⟨(letX url).toArray⟩
theorem letters_any (w : World) (url : Bool) :
    Calls Tryz.prog 108 #[.bool url] w fun e w' => e = .returned (.string (strX url)) ∧ w = w' := by
  cases url <;>
  (go_enter Tryz.func108, Tryz.ntmps108
   go_wp2
   go_ret
   exact ⟨rfl, rfl⟩)
/-- Base64, with or without padding. -/
def b64p (url padded : Bool) : List UInt8 → List UInt8
  | x :: y :: z :: r => b64at url (x.toNat / 4) :: b64at url (x.toNat % 4 * 16 + y.toNat / 16) :: b64at url (y.toNat % 16 * 4 + z.toNat / 64) :: b64at url (z.toNat % 64) :: b64p url padded r
  | [x, y] => [b64at url (x.toNat / 4), b64at url (x.toNat % 4 * 16 + y.toNat / 16), b64at url (y.toNat % 16 * 4)] ++ if padded then [61] else []
  | [x] => [b64at url (x.toNat / 4), b64at url (x.toNat % 4 * 16)] ++ if padded then [61, 61] else []
  | [] => []
theorem b64p_false (url : Bool) : ∀ xs, b64p url false xs = b64 url xs
  | x :: y :: z :: r => by simp only [b64p, b64, b64p_false url r]
  | [x, y] => by simp [b64p, b64]
  | [x] => by simp [b64p, b64]
  | [] => rfl
theorem b64p_app (url padded : Bool) : ∀ (k : Nat) (xs : List UInt8), 3 * k ≤ xs.length → b64p url padded xs = b64 url (xs.take (3 * k)) ++ b64p url padded (xs.drop (3 * k))
  | 0, xs, _ => by simp [b64]
  | k + 1, x :: y :: z :: r, h => by
    have h' : 3 * k ≤ r.length := by simp at h; omega
    rw [show 3 * (k + 1) = 3 * k + 1 + 1 + 1 by omega]
    simp only [List.take_succ_cons, List.drop_succ_cons, b64, b64p]
    rw [b64p_app url padded k r h']
    rfl
theorem strX_at {s : ByteArray} {url : Bool} (h : s = strX url) {i : Nat} (hi : i < s.size) : s[i]'hi = b64at url i := by
  subst h
  have hd : (strX url).size = 64 := by cases url <;> rfl
  unfold b64at
  rw [List.getD_eq_getElem?_getD, List.getElem?_eq_getElem (by rw [letX_len]; omega)]
  rfl
theorem b64p_end1 (url padded : Bool) {xs : List UInt8} {k : Nat} (h0 : 3 * k < xs.length) (hl : xs.length = 3 * k + 1) {x : UInt8} (hx : x = xs[3 * k]) :
    b64p url padded xs = b64 url (xs.take (3 * k)) ++ ([b64at url (x.toNat / 4), b64at url (x.toNat % 4 * 16)] ++ if padded then [61, 61] else []) := by
  have e : xs.drop (3 * k) = [x] := by rw [List.drop_eq_getElem_cons h0, ← hx, List.drop_of_length_le (by omega)]
  rw [b64p_app url padded k xs (by omega), e]
  rfl
theorem b64p_end2 (url padded : Bool) {xs : List UInt8} {k : Nat} (h0 : 3 * k < xs.length) (h1 : 3 * k + 1 < xs.length) (hl : xs.length = 3 * k + 2) {x y : UInt8} (hx : x = xs[3 * k]) (hy : y = xs[3 * k + 1]) :
    b64p url padded xs = b64 url (xs.take (3 * k)) ++ ([b64at url (x.toNat / 4), b64at url (x.toNat % 4 * 16 + y.toNat / 16), b64at url (y.toNat % 16 * 4)] ++ if padded then [61] else []) := by
  have e : xs.drop (3 * k) = [x, y] := by rw [List.drop_eq_getElem_cons h0, List.drop_eq_getElem_cons h1, ← hx, ← hy, List.drop_of_length_le (by omega)]
  rw [b64p_app url padded k xs (by omega), e]
  rfl
def encLen4 (n : Nat) : Nat := (n + 2) / 3 * 4
set_option maxRecDepth 100000 in
set_option maxHeartbeats 4000000 in
theorem partEnc_any (w : World) (url padded : Bool) (A : Option Addr) (n c : Nat) (xs : List UInt8) (hn : n ≤ 1000000000) (hnc : n ≤ c) (hC : kB.C w A n xs) :
    Calls Tryz.prog 96 #[.slice A n c, .bool url, .bool padded] w fun e w' => ∃ v, e = .returned v ∧ Hold w w.heap.size w' [.row kB 5 v (b64p url padded xs)] := by
  obtain rfl := hC.1
  have H0 := Aside0.mk (emptyRow w)
  have HC := Aside0.mk hC
  clear hC
  go_enter Tryz.func96, Tryz.ntmps96
  go_wp2_with fail
  refine (letters_any _ url).mono ?_
  rintro e w1 ⟨rfl, rfl⟩
  obtain ⟨s, hs⟩ : ∃ s, s = strX url := ⟨_, rfl⟩
  rw [← hs]
  have hsz : s.size = 64 := by rw [hs]; cases url <;> rfl
  have HS := Aside0.mk hs
  clear hs
  go_wp2_with fail
  go_loopw [0, 8] (fun v0 v8 wr => (∃ (k : Nat) (a : Option Addr) (c1 : Nat), 3 * k ≤ xs.length ∧ v0 = .slice a (xs.length - 3 * k) c1 ∧ xs.length - 3 * k ≤ c1 ∧ kB.C w a (xs.length - 3 * k) (xs.drop (3 * k)) ∧
      Hold w w.heap.size wr [.row kB 5 v8 (b64 url (xs.take (3 * k)))]) ∨ ∃ a c1, v0 = .slice a 0 c1 ∧ Hold w w.heap.size wr [.row kB 5 v8 (b64p url padded xs)]) (fun v0 _ _ => match v0 with | .slice _ q _ => q | _ => 0)
  case atStart => exact .inl ⟨0, A, c, Nat.zero_le _, rfl, hnc, HC.out, by simpa [b64] using H0.out⟩
  case round =>
    rcases hrel with ⟨k, a, c1, hk, rfl, hc1, hCk, hR⟩ | ⟨a, c1, rfl, hR⟩
    · have HR := Aside0.mk hR
      have HCk := Aside0.mk hCk
      clear hR hCk H0
      rcases Nat.lt_or_ge (xs.length - 3 * k) 3 with hlt | hge
      · have hrest : xs.length - 3 * k = 0 ∨ xs.length - 3 * k = 1 ∨ xs.length - 3 * k = 2 := by omega
        rcases hrest with hr | hr | hr
        · rw [hr]
          have HB : Aside0 (b64p url padded xs = b64 url (xs.take (3 * k))) := ⟨by
            rw [b64p_app url padded k xs hk, List.drop_of_length_le (by omega)]
            simp [b64p]⟩
          go_wp2
          go_ret
          rw [HB.out]
          exact ⟨_, rfl, HR.out⟩
        · rw [hr] at hc1 HCk ⊢
          have hb0 : 3 * k < xs.length := by omega
          have HLen : Aside0 (xs.length = 3 * k + 1) := ⟨by omega⟩
          have hCw := HR.out.C HCk.out
          obtain ⟨ad, rfl, e0⟩ := C1_get hCw 0 (by rw [List.length_drop]; omega)
          rw [List.getElem_drop] at e0
          obtain ⟨x, hx⟩ : ∃ x, x = xs[3 * k]'hb0 := ⟨_, rfl⟩
          have HX := Aside0.mk hx
          have p0 : ad.add 0 = ad := by unfold Addr.add; split <;> simp_all
          rw [p0] at e0
          have e0' : wr.cell? ad = some (.int .u8 (x.toNat : Int)) := by rw [hx]; exact e0
          have hxl := x.toNat_lt
          obtain ⟨N1, hN1⟩ : ∃ N1, bits .or .u32 0 ((x.toNat : Int) % 4294967296) = N1 := ⟨_, rfl⟩
          have hv1 : N1 = ((x.toNat : Nat) : Int) := hN1.symm.trans (or32_0 x)
          obtain ⟨N2, hN2⟩ : ∃ N2, N1 * 256 % 4294967296 = N2 := ⟨_, rfl⟩
          have hv2 : N2 = ((x.toNat * 256 : Nat) : Int) := by rw [← hN2, hv1]; omega
          obtain ⟨N3, hN3⟩ : ∃ N3, N2 * 256 % 4294967296 = N3 := ⟨_, rfl⟩
          have hv3 : N3 = ((x.toNat * 65536 : Nat) : Int) := by rw [← hN3, hv2]; omega
          clear p0 hv1 hv2
          obtain ⟨i0, hi0⟩ : ∃ i0, i0 = x.toNat / 4 := ⟨_, rfl⟩
          obtain ⟨i1, hi1⟩ : ∃ i1, i1 = x.toNat % 4 * 16 := ⟨_, rfl⟩
          have hI0 : bits .and .u32 (N3 / 262144) 63 = (i0 : Int) := and32 _ 262144 _ hv3 (by omega) (by omega)
          have hI1 : bits .and .u32 (N3 / 4096) 63 = (i1 : Int) := and32 _ 4096 _ hv3 (by omega) (by omega)
          have hl0 : i0 < 64 := by omega
          have hs0 : i0 < s.size := by omega
          obtain ⟨l0, hl0'⟩ : ∃ l0, s[i0]'hs0 = l0 := ⟨_, rfl⟩
          have HLt0 : Aside0 (l0 = b64at url i0) := ⟨(hl0'.symm.trans (strX_at HS.out hs0))⟩
          have HI0 := Aside0.mk hi0
          have hl1 : i1 < 64 := by omega
          have hs1 : i1 < s.size := by omega
          obtain ⟨l1, hl1'⟩ : ∃ l1, s[i1]'hs1 = l1 := ⟨_, rfl⟩
          have HLt1 : Aside0 (l1 = b64at url i1) := ⟨(hl1'.symm.trans (strX_at HS.out hs1))⟩
          have HI1 := Aside0.mk hi1
          obtain ⟨out, hout⟩ : ∃ out, out = b64 url (xs.take (3 * k)) := ⟨_, rfl⟩
          have hol : out.length = 4 * k := by rw [hout, ← List.length_map (f := bV)]; exact b64_len3 url hk
          rw [← hout] at HR
          have HQ0 : Aside0 (((out).length + 1) * 1 ≤ 140737488355328) := ⟨by simp; omega⟩
          have HQ1 : Aside0 (((out ++ [l0]).length + 1) * 1 ≤ 140737488355328) := ⟨by simp; omega⟩
          have HQ2 : Aside0 (((out ++ [l0] ++ [l1]).length + 1) * 1 ≤ 140737488355328) := ⟨by simp; omega⟩
          have HQ3 : Aside0 (((out ++ [l0] ++ [l1] ++ [61]).length + 1) * 1 ≤ 140737488355328) := ⟨by simp; omega⟩
          have Hout := Aside0.mk hout
          clear hi0 hi1 hout hxl 
          have HV := Aside0.mk hv3
          clear hv3 hCw hx e0 hr
          go_wp2
          refine wp_loop_rounds 4 ?_
          rw [rounds_succ]
          go_wp2
          rw [rounds_succ]
          go_wp2
          rw [rounds_succ]
          go_wp2
          rw [rounds_succ]
          go_wp2
          refine wp_loop_rounds 3 ?_
          rw [rounds_succ]
          go_wp2_with ((with_reducible refine at_bi (b := .append) (xs := #[.tmp 44, .tmp 53]) rfl ?_); at_builtin; refine Hold.append1 (kB) 0 HR.out rfl rfl (.tmp 44) (.tmp 53) 30 (.int .u8 0) 1 rfl Tryz.underlying30 info5 rfl (by decide) (by omega) (l0) [.int .u8 (l0.toNat : Int)] rfl rfl rfl HQ0.out ?_; intro _ _ HA0'; have HA0 := Aside0.mk HA0'; clear HA0' HR)
          rw [rounds_succ]
          go_wp2_with ((with_reducible refine at_bi (b := .append) (xs := #[.tmp 44, .tmp 53]) rfl ?_); at_builtin; refine Hold.append1 (kB) 0 HA0.out rfl rfl (.tmp 44) (.tmp 53) 30 (.int .u8 0) 1 rfl Tryz.underlying30 info5 rfl (by decide) (by omega) (l1) [.int .u8 (l1.toNat : Int)] rfl rfl rfl HQ1.out ?_; intro _ _ HA1'; have HA1 := Aside0.mk HA1'; clear HA1' HA0)
          rw [rounds_succ]
          go_wp2
          cases padded with
          | false =>
            refine wp_loop_rounds 1 ?_
            rw [rounds_succ]
            go_wp2
            go_roundw
            case rel =>
              right
              refine ⟨_, _, rfl, ?_⟩
              rw [b64p_end1 url _ hb0 HLen.out HX.out, ← HI0.out, ← HI1.out, ← HLt0.out, ← HLt1.out, ← Hout.out]
              rw [show out ++ ([l0, l1] ++ if false = true then [61, 61] else ([] : List UInt8)) = out ++ [l0] ++ [l1] by simp]
              exact HA1.out
            case measure => simp only []; omega
          | true =>
            refine wp_loop_rounds 3 ?_
            rw [rounds_succ]
            go_wp2_with ((with_reducible refine at_bi (b := .append) (xs := #[.tmp 63, .tmp 64]) rfl ?_); at_builtin; refine Hold.append1 (kB) 0 HA1.out rfl rfl (.tmp 63) (.tmp 64) 30 (.int .u8 0) 1 rfl Tryz.underlying30 info5 rfl (by decide) (by omega) (61) [.int .u8 61] rfl rfl rfl HQ2.out ?_; intro _ _ HP0'; have HP0 := Aside0.mk HP0'; clear HP0' HA1)
            rw [rounds_succ]
            go_wp2_with ((with_reducible refine at_bi (b := .append) (xs := #[.tmp 63, .tmp 64]) rfl ?_); at_builtin; refine Hold.append1 (kB) 0 HP0.out rfl rfl (.tmp 63) (.tmp 64) 30 (.int .u8 0) 1 rfl Tryz.underlying30 info5 rfl (by decide) (by omega) (61) [.int .u8 61] rfl rfl rfl HQ3.out ?_; intro _ _ HP1'; have HP1 := Aside0.mk HP1'; clear HP1' HP0)
            rw [rounds_succ]
            go_wp2
            go_roundw
            case rel =>
              right
              refine ⟨_, _, rfl, ?_⟩
              rw [b64p_end1 url _ hb0 HLen.out HX.out, ← HI0.out, ← HI1.out, ← HLt0.out, ← HLt1.out, ← Hout.out]
              rw [show out ++ ([l0, l1] ++ if true = true then [61, 61] else ([] : List UInt8)) = out ++ [l0] ++ [l1] ++ [61] ++ [61] by simp]
              exact HP1.out
            case measure => simp only []; omega
        · rw [hr] at hc1 HCk ⊢
          have hb0 : 3 * k < xs.length := by omega
          have hb1 : 3 * k + 1 < xs.length := by omega
          have HLen : Aside0 (xs.length = 3 * k + 2) := ⟨by omega⟩
          have hCw := HR.out.C HCk.out
          obtain ⟨ad, rfl, e0⟩ := C1_get hCw 0 (by rw [List.length_drop]; omega)
          obtain ⟨ad', had, e1⟩ := C1_get hCw 1 (by rw [List.length_drop]; omega)
          injection had with had
          subst had
          rw [List.getElem_drop] at e0 e1
          obtain ⟨x, hx⟩ : ∃ x, x = xs[3 * k]'hb0 := ⟨_, rfl⟩
          obtain ⟨y, hy⟩ : ∃ y, y = xs[3 * k + 1]'hb1 := ⟨_, rfl⟩
          have HX := Aside0.mk hx
          have HY := Aside0.mk hy
          have p0 : ad.add 0 = ad := by unfold Addr.add; split <;> simp_all
          have p1 : ad.add 1 = ⟨ad.block, ad.off + 1, none⟩ := by simp [Addr.add]
          rw [p0] at e0
          rw [p1] at e1
          have e0' : wr.cell? ad = some (.int .u8 (x.toNat : Int)) := by rw [hx]; exact e0
          have e1' : wr.cell? ⟨ad.block, ad.off + 1, none⟩ = some (.int .u8 (y.toNat : Int)) := by rw [hy]; exact e1
          have hxl := x.toNat_lt
          have hyl := y.toNat_lt
          obtain ⟨N1, hN1⟩ : ∃ N1, bits .or .u32 0 ((x.toNat : Int) % 4294967296) = N1 := ⟨_, rfl⟩
          have hv1 : N1 = ((x.toNat : Nat) : Int) := hN1.symm.trans (or32_0 x)
          obtain ⟨N2, hN2⟩ : ∃ N2, bits .or .u32 (N1 * 256 % 4294967296) ((y.toNat : Int) % 4294967296) = N2 := ⟨_, rfl⟩
          have hv2 : N2 = ((x.toNat * 256 + y.toNat : Nat) : Int) := hN2.symm.trans (by rw [hv1]; exact or32_step _ y (by omega))
          obtain ⟨N3, hN3⟩ : ∃ N3, N2 * 256 % 4294967296 = N3 := ⟨_, rfl⟩
          have hv3 : N3 = (((x.toNat * 256 + y.toNat) * 256 : Nat) : Int) := by rw [← hN3, hv2]; omega
          clear p0 p1 hv1 hv2
          obtain ⟨i0, hi0⟩ : ∃ i0, i0 = x.toNat / 4 := ⟨_, rfl⟩
          obtain ⟨i1, hi1⟩ : ∃ i1, i1 = x.toNat % 4 * 16 + y.toNat / 16 := ⟨_, rfl⟩
          obtain ⟨i2, hi2⟩ : ∃ i2, i2 = y.toNat % 16 * 4 := ⟨_, rfl⟩
          have hI0 : bits .and .u32 (N3 / 262144) 63 = (i0 : Int) := and32 _ 262144 _ hv3 (by omega) (by omega)
          have hI1 : bits .and .u32 (N3 / 4096) 63 = (i1 : Int) := and32 _ 4096 _ hv3 (by omega) (by omega)
          have hI2 : bits .and .u32 (N3 / 64) 63 = (i2 : Int) := and32 _ 64 _ hv3 (by omega) (by omega)
          have hl0 : i0 < 64 := by omega
          have hs0 : i0 < s.size := by omega
          obtain ⟨l0, hl0'⟩ : ∃ l0, s[i0]'hs0 = l0 := ⟨_, rfl⟩
          have HLt0 : Aside0 (l0 = b64at url i0) := ⟨(hl0'.symm.trans (strX_at HS.out hs0))⟩
          have HI0 := Aside0.mk hi0
          have hl1 : i1 < 64 := by omega
          have hs1 : i1 < s.size := by omega
          obtain ⟨l1, hl1'⟩ : ∃ l1, s[i1]'hs1 = l1 := ⟨_, rfl⟩
          have HLt1 : Aside0 (l1 = b64at url i1) := ⟨(hl1'.symm.trans (strX_at HS.out hs1))⟩
          have HI1 := Aside0.mk hi1
          have hl2 : i2 < 64 := by omega
          have hs2 : i2 < s.size := by omega
          obtain ⟨l2, hl2'⟩ : ∃ l2, s[i2]'hs2 = l2 := ⟨_, rfl⟩
          have HLt2 : Aside0 (l2 = b64at url i2) := ⟨(hl2'.symm.trans (strX_at HS.out hs2))⟩
          have HI2 := Aside0.mk hi2
          obtain ⟨out, hout⟩ : ∃ out, out = b64 url (xs.take (3 * k)) := ⟨_, rfl⟩
          have hol : out.length = 4 * k := by rw [hout, ← List.length_map (f := bV)]; exact b64_len3 url hk
          rw [← hout] at HR
          have HQ0 : Aside0 (((out).length + 1) * 1 ≤ 140737488355328) := ⟨by simp; omega⟩
          have HQ1 : Aside0 (((out ++ [l0]).length + 1) * 1 ≤ 140737488355328) := ⟨by simp; omega⟩
          have HQ2 : Aside0 (((out ++ [l0] ++ [l1]).length + 1) * 1 ≤ 140737488355328) := ⟨by simp; omega⟩
          have HQ3 : Aside0 (((out ++ [l0] ++ [l1] ++ [l2]).length + 1) * 1 ≤ 140737488355328) := ⟨by simp; omega⟩
          have Hout := Aside0.mk hout
          clear hi0 hi1 hi2 hout hxl hyl
          have HV := Aside0.mk hv3
          clear hv3 hCw hx hy e0 e1 hr
          go_wp2
          refine wp_loop_rounds 4 ?_
          rw [rounds_succ]
          go_wp2
          rw [rounds_succ]
          go_wp2
          rw [rounds_succ]
          go_wp2
          rw [rounds_succ]
          go_wp2
          refine wp_loop_rounds 4 ?_
          rw [rounds_succ]
          go_wp2_with ((with_reducible refine at_bi (b := .append) (xs := #[.tmp 44, .tmp 53]) rfl ?_); at_builtin; refine Hold.append1 (kB) 0 HR.out rfl rfl (.tmp 44) (.tmp 53) 30 (.int .u8 0) 1 rfl Tryz.underlying30 info5 rfl (by decide) (by omega) (l0) [.int .u8 (l0.toNat : Int)] rfl rfl rfl HQ0.out ?_; intro _ _ HA0'; have HA0 := Aside0.mk HA0'; clear HA0' HR)
          rw [rounds_succ]
          go_wp2_with ((with_reducible refine at_bi (b := .append) (xs := #[.tmp 44, .tmp 53]) rfl ?_); at_builtin; refine Hold.append1 (kB) 0 HA0.out rfl rfl (.tmp 44) (.tmp 53) 30 (.int .u8 0) 1 rfl Tryz.underlying30 info5 rfl (by decide) (by omega) (l1) [.int .u8 (l1.toNat : Int)] rfl rfl rfl HQ1.out ?_; intro _ _ HA1'; have HA1 := Aside0.mk HA1'; clear HA1' HA0)
          rw [rounds_succ]
          go_wp2_with ((with_reducible refine at_bi (b := .append) (xs := #[.tmp 44, .tmp 53]) rfl ?_); at_builtin; refine Hold.append1 (kB) 0 HA1.out rfl rfl (.tmp 44) (.tmp 53) 30 (.int .u8 0) 1 rfl Tryz.underlying30 info5 rfl (by decide) (by omega) (l2) [.int .u8 (l2.toNat : Int)] rfl rfl rfl HQ2.out ?_; intro _ _ HA2'; have HA2 := Aside0.mk HA2'; clear HA2' HA1)
          rw [rounds_succ]
          go_wp2
          cases padded with
          | false =>
            refine wp_loop_rounds 1 ?_
            rw [rounds_succ]
            go_wp2
            go_roundw
            case rel =>
              right
              refine ⟨_, _, rfl, ?_⟩
              rw [b64p_end2 url _ hb0 hb1 HLen.out HX.out HY.out, ← HI0.out, ← HI1.out, ← HI2.out, ← HLt0.out, ← HLt1.out, ← HLt2.out, ← Hout.out]
              rw [show out ++ ([l0, l1, l2] ++ if false = true then [61] else ([] : List UInt8)) = out ++ [l0] ++ [l1] ++ [l2] by simp]
              exact HA2.out
            case measure => simp only []; omega
          | true =>
            refine wp_loop_rounds 2 ?_
            rw [rounds_succ]
            go_wp2_with ((with_reducible refine at_bi (b := .append) (xs := #[.tmp 63, .tmp 64]) rfl ?_); at_builtin; refine Hold.append1 (kB) 0 HA2.out rfl rfl (.tmp 63) (.tmp 64) 30 (.int .u8 0) 1 rfl Tryz.underlying30 info5 rfl (by decide) (by omega) (61) [.int .u8 61] rfl rfl rfl HQ3.out ?_; intro _ _ HP0'; have HP0 := Aside0.mk HP0'; clear HP0' HA2)
            rw [rounds_succ]
            go_wp2
            go_roundw
            case rel =>
              right
              refine ⟨_, _, rfl, ?_⟩
              rw [b64p_end2 url _ hb0 hb1 HLen.out HX.out HY.out, ← HI0.out, ← HI1.out, ← HI2.out, ← HLt0.out, ← HLt1.out, ← HLt2.out, ← Hout.out]
              rw [show out ++ ([l0, l1, l2] ++ if true = true then [61] else ([] : List UInt8)) = out ++ [l0] ++ [l1] ++ [l2] ++ [61] by simp]
              exact HP0.out
            case measure => simp only []; omega
      · obtain ⟨q, hq⟩ : ∃ q, q = xs.length - 3 * k := ⟨_, rfl⟩
        rw [← hq] at hge hc1 ⊢
        have HQ := Aside0.mk hq
        have hb0 : 3 * k < xs.length := by omega
        have hb1 : 3 * k + 1 < xs.length := by omega
        have hb2 : 3 * k + 2 < xs.length := by omega
        rw [← hq] at HCk
        have hCw := HR.out.C HCk.out
        obtain ⟨ad, rfl, e0⟩ := C1_get hCw 0 (by rw [List.length_drop]; omega)
        obtain ⟨ad', had, e1⟩ := C1_get hCw 1 (by rw [List.length_drop]; omega)
        injection had with had
        subst had
        obtain ⟨ad', had, e2⟩ := C1_get hCw 2 (by rw [List.length_drop]; omega)
        injection had with had
        subst had
        rw [List.getElem_drop] at e0 e1 e2
        obtain ⟨x, hx⟩ : ∃ x, x = xs[3 * k]'hb0 := ⟨_, rfl⟩
        obtain ⟨y, hy⟩ : ∃ y, y = xs[3 * k + 1]'hb1 := ⟨_, rfl⟩
        obtain ⟨z, hz⟩ : ∃ z, z = xs[3 * k + 2]'hb2 := ⟨_, rfl⟩
        have HX := Aside0.mk hx
        have HY := Aside0.mk hy
        have HZ := Aside0.mk hz
        have p0 : ad.add 0 = ad := by unfold Addr.add; split <;> simp_all
        have p1 : ad.add 1 = ⟨ad.block, ad.off + 1, none⟩ := by simp [Addr.add]
        have p2 : ad.add 2 = ⟨ad.block, ad.off + 2, none⟩ := by simp [Addr.add]
        rw [p0] at e0
        rw [p1] at e1
        rw [p2] at e2
        have e0' : wr.cell? ad = some (.int .u8 (x.toNat : Int)) := by rw [hx]; exact e0
        have e1' : wr.cell? ⟨ad.block, ad.off + 1, none⟩ = some (.int .u8 (y.toNat : Int)) := by rw [hy]; exact e1
        have e2' : wr.cell? ⟨ad.block, ad.off + 2, none⟩ = some (.int .u8 (z.toNat : Int)) := by rw [hz]; exact e2
        have hxl := x.toNat_lt
        have hyl := y.toNat_lt
        have hzl := z.toNat_lt
        obtain ⟨N1, hN1⟩ : ∃ N1, bits .or .u32 0 ((x.toNat : Int) % 4294967296) = N1 := ⟨_, rfl⟩
        have hv1 : N1 = ((x.toNat : Nat) : Int) := hN1.symm.trans (or32_0 x)
        obtain ⟨N2, hN2⟩ : ∃ N2, bits .or .u32 (N1 * 256 % 4294967296) ((y.toNat : Int) % 4294967296) = N2 := ⟨_, rfl⟩
        have hv2 : N2 = ((x.toNat * 256 + y.toNat : Nat) : Int) := hN2.symm.trans (by rw [hv1]; exact or32_step _ y (by omega))
        obtain ⟨N3, hN3⟩ : ∃ N3, bits .or .u32 (N2 * 256 % 4294967296) ((z.toNat : Int) % 4294967296) = N3 := ⟨_, rfl⟩
        have hv3 : N3 = (((x.toNat * 256 + y.toNat) * 256 + z.toNat : Nat) : Int) := hN3.symm.trans (by rw [hv2]; exact or32_step _ z (by omega))
        clear p0 p1 p2 hv1 hv2
        clear hCw hq hx hy hz e0 e1 e2
        obtain ⟨i0, hi0⟩ : ∃ i0, i0 = x.toNat / 4 := ⟨_, rfl⟩
        obtain ⟨i1, hi1⟩ : ∃ i1, i1 = x.toNat % 4 * 16 + y.toNat / 16 := ⟨_, rfl⟩
        obtain ⟨i2, hi2⟩ : ∃ i2, i2 = y.toNat % 16 * 4 + z.toNat / 64 := ⟨_, rfl⟩
        obtain ⟨i3, hi3⟩ : ∃ i3, i3 = z.toNat % 64 := ⟨_, rfl⟩
        have hI0 : bits .and .u32 (N3 / 262144) 63 = (i0 : Int) := and32 _ 262144 _ hv3 (by omega) (by omega)
        have hI1 : bits .and .u32 (N3 / 4096) 63 = (i1 : Int) := and32 _ 4096 _ hv3 (by omega) (by omega)
        have hI2 : bits .and .u32 (N3 / 64) 63 = (i2 : Int) := and32 _ 64 _ hv3 (by omega) (by omega)
        have hI3 : bits .and .u32 N3 63 = (i3 : Int) := and32' _ _ hv3 (by omega) (by omega)
        have hl0 : i0 < 64 := by omega
        have hs0 : i0 < s.size := by omega
        obtain ⟨l0, hl0'⟩ : ∃ l0, s[i0]'hs0 = l0 := ⟨_, rfl⟩
        have HLt0 : Aside0 (l0 = b64at url i0) := ⟨(hl0'.symm.trans (strX_at HS.out hs0))⟩
        have HI0 := Aside0.mk hi0
        have hl1 : i1 < 64 := by omega
        have hs1 : i1 < s.size := by omega
        obtain ⟨l1, hl1'⟩ : ∃ l1, s[i1]'hs1 = l1 := ⟨_, rfl⟩
        have HLt1 : Aside0 (l1 = b64at url i1) := ⟨(hl1'.symm.trans (strX_at HS.out hs1))⟩
        have HI1 := Aside0.mk hi1
        have hl2 : i2 < 64 := by omega
        have hs2 : i2 < s.size := by omega
        obtain ⟨l2, hl2'⟩ : ∃ l2, s[i2]'hs2 = l2 := ⟨_, rfl⟩
        have HLt2 : Aside0 (l2 = b64at url i2) := ⟨(hl2'.symm.trans (strX_at HS.out hs2))⟩
        have HI2 := Aside0.mk hi2
        have hl3 : i3 < 64 := by omega
        have hs3 : i3 < s.size := by omega
        obtain ⟨l3, hl3'⟩ : ∃ l3, s[i3]'hs3 = l3 := ⟨_, rfl⟩
        have HLt3 : Aside0 (l3 = b64at url i3) := ⟨(hl3'.symm.trans (strX_at HS.out hs3))⟩
        have HI3 := Aside0.mk hi3
        obtain ⟨out, hout⟩ : ∃ out, out = b64 url (xs.take (3 * k)) := ⟨_, rfl⟩
        have hol : out.length = 4 * k := by rw [hout, ← List.length_map (f := bV)]; exact b64_len3 url hk
        rw [← hout] at HR
        have HQ0 : Aside0 (((out).length + 1) * 1 ≤ 140737488355328) := ⟨by simp; omega⟩
        have HQ1 : Aside0 (((out ++ [l0]).length + 1) * 1 ≤ 140737488355328) := ⟨by simp; omega⟩
        have HQ2 : Aside0 (((out ++ [l0] ++ [l1]).length + 1) * 1 ≤ 140737488355328) := ⟨by simp; omega⟩
        have HQ3 : Aside0 (((out ++ [l0] ++ [l1] ++ [l2]).length + 1) * 1 ≤ 140737488355328) := ⟨by simp; omega⟩
        have Hout := Aside0.mk hout
        clear hi0 hi1 hi2 hi3 hout hxl hyl hzl
        have HV := Aside0.mk hv3
        clear hv3
        go_wp2
        refine wp_loop_rounds 4 ?_
        rw [rounds_succ]
        go_wp2
        rw [rounds_succ]
        go_wp2
        rw [rounds_succ]
        go_wp2
        rw [rounds_succ]
        go_wp2
        refine wp_loop_rounds 5 ?_
        rw [rounds_succ]
        go_wp2_with ((with_reducible refine at_bi (b := .append) (xs := #[.tmp 44, .tmp 53]) rfl ?_); at_builtin; refine Hold.append1 (kB) 0 HR.out rfl rfl (.tmp 44) (.tmp 53) 30 (.int .u8 0) 1 rfl Tryz.underlying30 info5 rfl (by decide) (by omega) (l0) [.int .u8 (l0.toNat : Int)] rfl rfl rfl HQ0.out ?_; intro _ _ HA0'; have HA0 := Aside0.mk HA0'; clear HA0' HR)
        rw [rounds_succ]
        go_wp2_with ((with_reducible refine at_bi (b := .append) (xs := #[.tmp 44, .tmp 53]) rfl ?_); at_builtin; refine Hold.append1 (kB) 0 HA0.out rfl rfl (.tmp 44) (.tmp 53) 30 (.int .u8 0) 1 rfl Tryz.underlying30 info5 rfl (by decide) (by omega) (l1) [.int .u8 (l1.toNat : Int)] rfl rfl rfl HQ1.out ?_; intro _ _ HA1'; have HA1 := Aside0.mk HA1'; clear HA1' HA0)
        rw [rounds_succ]
        go_wp2_with ((with_reducible refine at_bi (b := .append) (xs := #[.tmp 44, .tmp 53]) rfl ?_); at_builtin; refine Hold.append1 (kB) 0 HA1.out rfl rfl (.tmp 44) (.tmp 53) 30 (.int .u8 0) 1 rfl Tryz.underlying30 info5 rfl (by decide) (by omega) (l2) [.int .u8 (l2.toNat : Int)] rfl rfl rfl HQ2.out ?_; intro _ _ HA2'; have HA2 := Aside0.mk HA2'; clear HA2' HA1)
        rw [rounds_succ]
        go_wp2_with ((with_reducible refine at_bi (b := .append) (xs := #[.tmp 44, .tmp 53]) rfl ?_); at_builtin; refine Hold.append1 (kB) 0 HA2.out rfl rfl (.tmp 44) (.tmp 53) 30 (.int .u8 0) 1 rfl Tryz.underlying30 info5 rfl (by decide) (by omega) (l3) [.int .u8 (l3.toNat : Int)] rfl rfl rfl HQ3.out ?_; intro _ _ HA3'; have HA3 := Aside0.mk HA3'; clear HA3' HA2)
        rw [rounds_succ]
        go_wp2
        refine wp_loop_rounds 1 ?_
        rw [rounds_succ]
        go_wp2
        go_roundw
        case rel =>
          left
          have hq2 : q - 3 = xs.length - 3 * (k + 1) := by rw [HQ.out]; omega
          rw [hq2]
          refine ⟨k + 1, _, _, by omega, rfl, by omega, ?_, ?_⟩
          · rcases Nat.eq_zero_or_pos (xs.length - 3 * (k + 1)) with h0 | h0
            · rw [h0, List.drop_of_length_le (by omega)]
              exact ⟨rfl, Nat.zero_le _, fun h => absurd h (Nat.lt_irrefl _)⟩
            · have h := C_drop HCk.out 3 (by omega)
              rw [List.drop_drop, hq2] at h
              rw [if_neg (by omega)]
              exact h
          · have e := b64_step url hb0 hb1 hb2 HX.out HY.out HZ.out
            rw [e, ← HI0.out, ← HI1.out, ← HI2.out, ← HI3.out, ← HLt0.out, ← HLt1.out, ← HLt2.out, ← HLt3.out, ← Hout.out]
            rw [show out ++ [l0, l1, l2, l3] = out ++ [l0] ++ [l1] ++ [l2] ++ [l3] by simp]
            exact HA3.out
        case measure => simp only []; omega
    · have HR := Aside0.mk hR
      clear hR
      go_wp2
      go_ret
      exact ⟨_, rfl, HR.out⟩
set_option maxHeartbeats 1000000 in
theorem partOf_any (w : World) (A : Option Addr) (n c : Nat) (xs : List UInt8) (hn : n ≤ 1000000000) (hnc : n ≤ c) (hC : kB.C w A n xs) :
    Calls Tryz.prog 71 #[.slice A n c] w fun e w' => ∃ v, e = .returned v ∧ Hold w w.heap.size w' [.row kB 5 v (b64 true xs)] := by
  go_enter Tryz.func71, Tryz.ntmps71
  go_wp2_with fail
  refine (partEnc_any _ true false A n c xs hn hnc hC).mono ?_
  rintro e w1 ⟨v, rfl, hH⟩
  rw [b64p_false] at hH
  have HH := Aside0.mk hH
  clear hH hC
  go_wp2
  go_ret
  exact ⟨_, rfl, HH.out⟩
end Go.Proofs.YtdldblfklalaeaaGreatDoor
