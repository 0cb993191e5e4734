/-
  FnPartPadding: its walk.
-/
import Derived.Test.YtlncbbmmlhammaaDecoded
import Derived.Test.YtlncbbmmlhammaaAwake2
import Derived.Test.YtlncbbmmlhammaaArg
import Derived.Test.YtlncbbmmlhammaaOwn
import Derived.Test.YtlncbbmmlhammaaSame
namespace Go.Proofs.Ytlncbbmmlhammaa
open Go.RowKit Go.Proofs.YtlncbbmmlhammaaW.PrintWords Go.Lib
set_option linter.unusedVariables false
set_option linter.unusedSimpArgs false
set_option maxRecDepth 100000 in
set_option maxHeartbeats 4000000 in
theorem partPad_any (w : World) (A : Option Addr) (n c : Nat) (xs : List UInt8) (f : Nat) (hf : f < 256) (hnc : n ≤ c) (hC : kB.C w A n xs) :
    Calls Try.prog 4 #[.slice A n c, .int .u8 (f : Int)] w fun e w' => e = .returned (.bool true) ∧ Below w.heap.size w w' := by
  obtain rfl := hC.1
  have hx : xs.length ≤ 9223372036854775807 := hC.2.1
  have HC := Aside0.mk hC
  by_cases hl : 2147483647 < xs.length
  · clear hC
    go_enter Try.func4, Try.ntmps4
    go_wp2
    go_ret
    exact ⟨rfl, Below.refl _ _⟩
  · have hl' : xs.length ≤ 2147483647 := by omega
    have hCS := CS_lit w 22 _ rfl [.slice A xs.length c] [xs] rfl (by simp) (fun j hj => by
      obtain rfl : j = 0 := by simp at hj; omega
      exact RdS.mk' hC hnc)
    have HCS := Aside0.mk hCS
    have H1 := Aside0.mk ((Hold.start w).alloc_ (.cells #[.slice A xs.length c] 22))
    clear hC hCS
    go_enter Try.func4, Try.ntmps4
    go_wp2_with fail
    refine (short_any _ _ _ _ [xs] HCS.out).mono ?_
    rintro e w1 ⟨rfl, rfl⟩
    cases hb : shortOk [xs] with
    | false =>
      clear hb
      go_wp2_with fail
      refine (partAwake_any _).mono ?_
      rintro e w2 ⟨rfl, hM⟩
      have HZ := Aside0.mk (H1.out.of_below hM.below)
      clear hM
      go_wp2
      go_ret
      exact ⟨rfl, HZ.out.below⟩
    | true =>
      have hlen : xs.length ≤ 2000 := by
        unfold shortOk at hb
        simpa using hb
      clear hb
      obtain ⟨m, hm⟩ : ∃ m, m = f % 5 := ⟨_, rfl⟩
      have hm5 : m < 5 := by omega
      have hmI : (f : Int) % 5 = (m : Int) := by omega
      clear hm
      go_wp2_with fail
      refine (partOf_any _ A _ c xs (by omega) hnc (H1.out.C HC.out)).mono ?_
      rintro e w2 ⟨v2, rfl, hH⟩
      obtain ⟨A2, c2, rfl, hc2, _⟩ := hH.reads 0 rfl
      have H2 := Aside0.mk (H1.out.app hH)
      clear hH H1
      obtain ⟨l, hl⟩ : ∃ l, l = (b64 true xs).length := ⟨_, rfl⟩
      rw [← hl] at H2 hc2 ⊢
      obtain ⟨nd, hnd⟩ : ∃ nd, nd = (4 - l % 4) % 4 := ⟨_, rfl⟩
      have hndI : (4 - (l : Int) % 4) % 4 = (nd : Int) := by omega
      have hl5 : l ≤ 10000 := by rw [hl, b64_len]; unfold encLen; omega
      have HLl := Aside0.mk hl
      have HNd := Aside0.mk hnd
      clear hl hnd
      go_wp2
      simp only [hndI, hmI]
      have HL : ∀ k : Nat, k < m → ((b64 true xs ++ List.replicate k 61).length + 1) * 1 ≤ 140737488355328 := fun k hk => by
        rw [List.length_append, List.length_replicate, ← HLl.out]; omega
      have HLs := Aside0.mk HL
      clear HL
      go_loopw [5, 29] (fun v5 v29 wr => ∃ k : Nat, k ≤ m ∧ v29 = .int .i64 k ∧ Hold w w.heap.size wr [.row kB 5 v5 (b64 true xs ++ List.replicate k 61)]) (fun _ v29 _ => m - (intOf v29).toNat)
      case atStart => exact ⟨0, by omega, rfl, by simpa using H2.out⟩
      case round =>
        obtain ⟨k, hk, rfl, hR⟩ := hrel
        have HR := Aside0.mk hR
        clear hR
        by_cases hlt : k < m
        · have hltI : (k : Int) < (m : Int) := by omega
          have HLk := Aside0.mk (HLs.out k hlt)
          go_wp2_with ((with_reducible refine at_bi (b := .append) (xs := #[.tmp 31, .tmp 32]) rfl ?_); at_builtin; refine Hold.append1 (kB) 0 HR.out rfl rfl (.tmp 31) (.tmp 32) 22 (.int .u8 0) 1 rfl Try.underlying22 info5 rfl (by decide) (by omega) (61) [.int .u8 61] rfl rfl rfl HLk.out ?_; intro _ _ HR2'; have HR2 := Aside0.mk HR2'; clear HR2' HR)
          go_roundw
          case rel =>
            refine ⟨k + 1, by omega, by go_num, ?_⟩
            have h := HR2.out
            rw [List.replicate_succ', ← List.append_assoc]
            exact h
          case measure => simp [intOf]; omega
        · obtain rfl : k = m := by omega
          clear H2 hlt
          have hR := HR.out
          obtain ⟨tx, htx⟩ : ∃ tx, tx = b64 true xs ++ List.replicate k 61 := ⟨_, rfl⟩
          have hl4 : tx.length ≤ 1000000000 := by rw [htx, List.length_append, List.length_replicate, ← HLl.out]; omega
          rw [← htx] at hR
          obtain ⟨A4, c4, rfl, hc4, hC4⟩ := hR.reads 0 rfl
          have HC4 := Aside0.mk hC4
          clear HR
          have HR := Aside0.mk hR
          have HL4 := Aside0.mk hl4
          clear hR hC4 hl4 hc4
          rcases Nat.eq_zero_or_pos k with h0 | h0
          · subst h0
            have htx0 : tx = b64 true xs := by rw [htx]; simp
            have HG := Aside0.mk (guess_raw (ts := tx) (by rw [htx0]; exact b64_isL true xs))
            have HD : Aside0 (decAll true true tx = some xs) := ⟨by rw [htx0]; exact decAll_b64 true xs⟩
            clear htx htx0
            go_wp2_with fail
            refine (decoded_any _ true A4 _ c4 _ HL4.out HC4.out HG.out.1 HG.out.2).mono ?_
            rw [HD.out]
            rintro e w6 ⟨v6, rfl, hH⟩
            obtain ⟨A6, c6, rfl, hc6, hC6⟩ := hH.reads 0 rfl
            have H6 := Aside0.mk (HR.out.app hH)
            have HC6 := Aside0.mk hC6
            clear hH hC6 hc6
            go_wp2_with fail
            refine (same_any _ A6 A _ c6 _ c xs xs HC6.out (H6.out.C HC.out)).mono ?_
            rintro e w7 ⟨rfl, z, rfl⟩
            rw [decide_eq_true rfl]
            have H7 := Aside0.mk (H6.out.drewN z)
            go_wp2_with fail
            refine (partAwake_any _).mono ?_
            rintro e w8 ⟨rfl, hM⟩
            have HZ := Aside0.mk (H7.out.of_below hM.below)
            clear hM
            go_wp2
            go_ret
            exact ⟨rfl, HZ.out.below⟩
          · have HG : Aside0 ((∀ q ∈ tx, okC true false q = true) ∧ guessOf tx = if false = true then 4 else 2) := ⟨by rw [htx]; exact guess_pad (ts := b64 true xs) (b64_isL true xs) k h0⟩
            have HD := Aside0.mk (decAll_pad true k h0 xs)
            rw [← HLl.out, ← HNd.out, ← htx] at HD
            clear htx
            have b0 : ((k : Int) != 0) = true := by rw [bne_iff_ne]; omega
            by_cases hkn : k = nd
            · rw [if_pos hkn] at HD
              have b1 : ((k : Int) != (nd : Int)) = false := by rw [hkn]; simp
              clear hkn
              go_wp2_with fail
              refine (decoded_any _ false A4 _ c4 _ HL4.out HC4.out HG.out.1 HG.out.2).mono ?_
              rw [HD.out]
              rintro e w6 ⟨v6, rfl, hH⟩
              obtain ⟨A6, c6, rfl, hc6, hC6⟩ := hH.reads 0 rfl
              have H6 := Aside0.mk (HR.out.app hH)
              have HC6 := Aside0.mk hC6
              clear hH hC6 hc6
              go_wp2_with fail
              refine (same_any _ A6 A _ c6 _ c xs xs HC6.out (H6.out.C HC.out)).mono ?_
              rintro e w7 ⟨rfl, z, rfl⟩
              rw [decide_eq_true rfl]
              have H7 := Aside0.mk (H6.out.drewN z)
              go_wp2_with fail
              refine (partAwake_any _).mono ?_
              rintro e w8 ⟨rfl, hM⟩
              have HZ := Aside0.mk (H7.out.of_below hM.below)
              clear hM
              go_wp2
              go_ret
              exact ⟨rfl, HZ.out.below⟩
            · rw [if_neg hkn] at HD
              have b1 : ((k : Int) != (nd : Int)) = true := by rw [bne_iff_ne]; omega
              clear hkn
              go_wp2_with fail
              refine (decoded_any _ false A4 _ c4 _ HL4.out HC4.out HG.out.1 HG.out.2).mono ?_
              rw [HD.out]
              rintro e w6 ⟨rfl, hH⟩
              have H7 := Aside0.mk (HR.out.app hH)
              clear hH
              go_wp2_with fail
              refine (partAwake_any _).mono ?_
              rintro e w8 ⟨rfl, hM⟩
              have HZ := Aside0.mk (H7.out.of_below hM.below)
              clear hM
              go_wp2
              go_ret
              exact ⟨rfl, HZ.out.below⟩
theorem partPad_row (A : Option Addr) (n c : Nat) (xs : List UInt8) (k : Int) (w : World) (hC : kB.C w A n xs) (_ : AllOk AnyOk xs) (hn : xs.length * 1 ≤ 140737488351232 ∧ n ≤ c) (hk : (Lit.int .u8 k).wf = true) :
    Calls Try.prog 4 #[.slice A n c, .int .u8 k] w fun e w' => e = .returned (.bool true) ∧ Below w.heap.size w w' := by
  obtain ⟨h0, h1⟩ := wf_u8 hk
  obtain ⟨k, rfl⟩ := Int.eq_ofNat_of_zero_le h0
  exact partPad_any w A n c xs k (by omega) hn.2 hC
end Go.Proofs.Ytlncbbmmlhammaa
