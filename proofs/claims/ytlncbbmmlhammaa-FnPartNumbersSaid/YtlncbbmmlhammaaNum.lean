/-
  inner/base64.EncodeUint64ToString, impl.EncodedNumber: their contracts.
-/
import Derived.Test.YtlncbbmmlhammaaEncode5
import Derived.Test.YtlncbbmmlhammaaAsm
import Derived.Test.YtlncbbmmlhammaaGuess
namespace Go.Proofs.Ytlncbbmmlhammaa
open Go.RowKit Go.Proofs.YtlncbbmmlhammaaW.PrintWords Go.Lib
set_option linter.unusedVariables false
set_option linter.unusedSimpArgs false
theorem Hold.Cat' {α : Type} {d : Kd α} {w0 w : World} {B : Nat} {L : List Asrt} {e n c : Nat} {A : Option Addr} {xs : List α} (hS : Hold w0 B w L) (i : Nat) (hi : L[i]? = some (.row d e (.slice A n c) xs)) : d.C w A n xs := by
  obtain ⟨A', c', he, _, hC⟩ := hS.reads i hi
  injection he with h1 h2 h3
  subst h1 h2 h3
  exact hC
/-- The eight bytes of a number, the most significant one first. -/
def be8b (v : Nat) : List UInt8 := [UInt8.ofNat (v / 72057594037927936 % 256), UInt8.ofNat (v / 281474976710656 % 256), UInt8.ofNat (v / 1099511627776 % 256), UInt8.ofNat (v / 4294967296 % 256),
  UInt8.ofNat (v / 16777216 % 256), UInt8.ofNat (v / 65536 % 256), UInt8.ofNat (v / 256 % 256), UInt8.ofNat (v % 256)]
theorem be8_eq (v : Nat) : be8 v = (be8b v).map bV := by
  have h : ∀ k : Nat, bV (UInt8.ofNat (k % 256)) = Value.int .u8 ((k : Int) % 256) := by
    intro k
    show Value.int .u8 (((UInt8.ofNat (k % 256)).toNat : Nat) : Int) = _
    rw [UInt8.toNat_ofNat_of_lt' (show k % 256 < 256 by omega)]
    simp
  unfold be8 be8b
  simp only [List.map_cons, List.map_nil, h]
  simp
theorem be8b_len (v : Nat) : (be8b v).length = 8 := rfl
def stripZ (l : List UInt8) : List UInt8 := l.dropWhile (· == 0)
theorem stripZ_drop : ∀ (l : List UInt8) (k : Nat), (∀ j, j < k → l[j]? = some 0) → (k = l.length ∨ ∃ x, l[k]? = some x ∧ x ≠ 0) → stripZ l = l.drop k
  | [], k, _, h => by simp [stripZ]
  | x :: r, 0, _, h => by
    rcases h with h | ⟨y, hy, hne⟩
    · simp at h
    · have : x = y := by simpa using hy
      subst this
      simp [stripZ, List.dropWhile_cons, hne]
  | x :: r, k + 1, h0, h => by
    have hx : x = 0 := by simpa using h0 0 (by omega)
    subst hx
    have ih := stripZ_drop r k (fun j hj => by simpa using h0 (j + 1) (by omega)) (by
      rcases h with h | ⟨y, hy, hne⟩
      · exact .inl (by simpa using h)
      · exact .inr ⟨y, by simpa using hy, hne⟩)
    simpa [stripZ, List.dropWhile_cons] using ih
set_option maxRecDepth 100000 in
set_option maxHeartbeats 4000000 in
theorem encNum_any (w : World) (v : Nat) (hv : v < 18446744073709551616) :
    Calls Try.prog 38 #[.int .u64 (v : Int)] w fun e w' => e = .returned (.string (bStr (b64 true (stripZ (be8b v))))) ∧ Hold w w.heap.size w' [] := by
  have H0 := Aside0.mk (Hold.start w)
  have HV : Aside0 (v < 18446744073709551616) := ⟨hv⟩
  obtain ⟨bs, hbs⟩ : ∃ bs, bs = be8b v := ⟨_, rfl⟩
  rw [← hbs]
  have HBs := Aside0.mk hbs
  clear hv hbs
  go_enter Try.func38, Try.ntmps38
  go_upto_region 2 with ((with_reducible refine at_dst (N := 5) rfl ?_); refine Hold.make (enc := bV) (h1 := fun _ => rfl) H0.out 5 rfl rfl 22 (.const (.int .i64 8)) (.const (.int .i64 8)) rfl ((8 : Int)) rfl rfl Try.underlying22 (0 : UInt8) 1 infoB rfl (by omega) (by decide) (by decide) ?_; intro v_ _ H1'; have H1 := Aside0.mk H1'; clear H1' H0)
  have H2 : Hold w w.heap.size _ [.row kB 5 v_ (List.replicate 8 0)] := H1.out
  obtain ⟨gd, cd, cs, rfl, hmc, hcm, hcs, _, hB⟩ := H2.toBlk 0 rfl (by decide)
  have HB := Aside0.mk hB
  have hmc' : 8 ≤ cd := hmc
  have HCs := Aside0.mk (And.intro hcs hcm)
  clear hB H2 hmc hcs hcm
  go_wp2_with fail
  refine (put64_any _ gd 0 8 cd 5 v cs (by decide) (by have := HCs.out.1; omega) HB.out).mono ?_
  rintro e w2 ⟨rfl, hH⟩
  have HR : Aside0 (Hold w w.heap.size w2 [.row kB 5 (.slice (some ⟨gd, 0, none⟩) 8 cd) (be8b v)]) := ⟨by
    refine hH.blkRow (enc := bV) (h1 := fun _ => rfl) 0 rfl (n := 8) (cap := cd) (xs := be8b v) (by rw [putN_size]; exact HCs.out.1) hmc' HCs.out.2 ?_ rfl
    rw [putN_list _ _ _ (by rw [be8_eq, List.length_map, be8b_len]; have := HCs.out.1; omega), be8_eq]
    simp [be8b_len]⟩
  have hC := HR.out.Cat' 0 rfl
  have hl8 : bs.length = 8 := by rw [HBs.out]; rfl
  rw [← HBs.out] at hC HR
  have HL8 := Aside0.mk hl8
  have hcd : cd ≤ 9223372036854775807 := by have := HCs.out.2; unfold maxLen at this; omega
  clear hH hl8 H1 HB
  go_wp2
  go_loop [4] (fun i => ∃ k : Nat, k ≤ 8 ∧ i = .int .i64 k ∧ Aside0 (∀ j, j < k → bs[j]? = some 0)) (fun i => 8 - (intOf i).toNat)
  case atStart => exact ⟨0, by omega, rfl, ⟨fun j h => absurd h (Nat.not_lt_zero _)⟩⟩
  case round =>
    obtain ⟨k, hk, rfl, HZ⟩ := hrel
    by_cases hlt : k < 8
    · have hkl : k < bs.length := by rw [HL8.out]; exact hlt
      have e1 := cell_of_C hC k hkl
      rw [Nat.zero_add] at e1
      obtain ⟨x, hxx⟩ : ∃ x, x = bs[k] := ⟨_, rfl⟩
      rw [← hxx] at e1
      have e1' : w2.cell? ⟨gd, k, none⟩ = some (.int .u8 (x.toNat : Int)) := e1
      have b1 : ((x.toNat : Int) == 0) = (x == 0) := u8_beq x 0 (by decide)
      have HXX : Aside0 (bs[k]? = some x) := ⟨by rw [hxx]; exact List.getElem?_eq_getElem hkl⟩
      clear hxx e1 hkl
      cases h1 : x == 0 with
      | true =>
        rw [h1] at b1
        have hx0 : x = 0 := by simpa using h1
        have HZ2 : Aside0 (∀ j, j < k + 1 → bs[j]? = some 0) := ⟨fun j hj => by
          rcases Nat.lt_or_ge j k with h | h
          · exact HZ.out j h
          · obtain rfl : j = k := by omega
            rw [HXX.out, hx0]⟩
        have b2 : ((x.toNat : Int) != 0) = false := by rw [bne, b1]; rfl
        clear h1 hx0
        go_wp2
        go_round
        case rel => exact ⟨k + 1, by omega, by go_num, HZ2⟩
        case measure => simp [intOf]; omega
      | false =>
        rw [h1] at b1
        have b2 : ((x.toNat : Int) != 0) = true := by rw [bne, b1]; rfl
        have HS : Aside0 (stripZ bs = bs.drop k) := ⟨stripZ_drop bs k HZ.out (.inr ⟨x, HXX.out, by simpa using h1⟩)⟩
        have HCk : Aside0 (kB.C w2 (some ⟨gd, k, none⟩) (8 - k) (bs.drop k)) := ⟨by
          have h := C_drop hC k (by omega)
          unfold Addr.add at h
          by_cases h0 : k = 0
          · subst h0; simpa using h
          · simpa [h0] using h⟩
        clear h1
        go_wp2_with fail
        refine (encText_any _ _ _ _ gd k (bs.drop k) (by omega) (fun _ => rfl) (by omega) HCk.out).mono ?_
        rw [← HS.out]
        rintro e w3 ⟨rfl, hH⟩
        have HF := Aside0.mk (HR.out.app hH).tail
        clear hH
        obtain ⟨s, hs⟩ : ∃ s, s = bStr (b64 true (stripZ bs)) := ⟨_, rfl⟩
        rw [← hs]
        have Hs := Aside0.mk hs
        clear hs
        go_wp2
        go_ret
        exact ⟨by rw [← Hs.out]; rfl, HF.out⟩
    · obtain rfl : k = 8 := by omega
      have HS : Aside0 (stripZ bs = []) := ⟨by rw [stripZ_drop bs 8 HZ.out (.inl HL8.out.symm), List.drop_of_length_le (Nat.le_of_eq HL8.out)]⟩
      go_wp2_with fail
      all_goals
      refine (encText_any _ _ 0 _ gd 0 [] (by omega) (fun h => absurd h (by omega)) (by omega) ⟨rfl, by decide, fun h => absurd h (by omega)⟩).mono ?_
      rw [← HS.out]
      rintro e w3 ⟨rfl, hH⟩
      have HF := Aside0.mk (HR.out.app hH).tail
      clear hH
      obtain ⟨s, hs⟩ : ∃ s, s = bStr (b64 true (stripZ bs)) := ⟨_, rfl⟩
      rw [← hs]
      have Hs := Aside0.mk hs
      clear hs
      go_wp2
      go_ret
      exact ⟨by rw [← Hs.out]; rfl, HF.out⟩
set_option maxHeartbeats 1000000 in
theorem encodedNum_any (w : World) (v : Nat) (hv : v < 18446744073709551616) :
    Calls Try.prog 24 #[.int .u64 (v : Int)] w fun e w' => e = .returned (.string (bStr (b64 true (stripZ (be8b v))))) ∧ Hold w w.heap.size w' [] := by
  obtain ⟨s, hs⟩ : ∃ s, s = bStr (b64 true (stripZ (be8b v))) := ⟨_, rfl⟩
  have HE := Aside0.mk (encNum_any w v hv)
  rw [← hs] at HE ⊢
  clear hs hv
  go_enter Try.func24, Try.ntmps24
  go_wp2_with fail
  refine HE.out.mono ?_
  rintro e w1 ⟨rfl, hH⟩
  have HH := Aside0.mk hH
  clear hH
  go_wp2
  go_ret
  exact ⟨rfl, HH.out⟩
end Go.Proofs.Ytlncbbmmlhammaa
