/-
  inner/base64: EncodeToString, EncodedLen; impl.EncodedText, impl.EncodedLen: their contracts.
-/
import Derived.Test.YtlncbbmmlhammaaEncode4
namespace Go.Proofs.Ytlncbbmmlhammaa
open Go.RowKit Go.Proofs.YtlncbbmmlhammaaW.PrintWords Go.Lib
set_option linter.unusedVariables false
set_option linter.unusedSimpArgs false
set_option maxHeartbeats 1000000 in
theorem encText_any (w : World) (A : Option Addr) (n c b o : Nat) (xs : List UInt8) (hn : n ≤ 1000000000) (hA : 0 < n → A = some ⟨b, o, none⟩) (hnc : n ≤ c) (hC : kB.C w A n xs) :
    Calls Try.prog 37 #[.slice A n c] w fun e w' => e = .returned (.string (bStr (b64 true xs))) ∧ Hold w w.heap.size w' [] := by
  obtain rfl := hC.1
  have HC := Aside0.mk hC
  have HA := Aside0.mk hA
  clear hC hA
  go_enter Try.func37, Try.ntmps37
  go_wp2_with fail
  refine (getEnc_any _).mono ?_
  rintro e w1 ⟨g, rfl, hH⟩
  have H1 := Aside0.mk hH
  clear hH
  go_wp2_with fail
  refine (encStr_any (w0 := w) (B := w.heap.size) (L := []) _ true g A _ c b o xs hn HA.out hnc H1.out (fun w' h => h.C HC.out)).mono ?_
  rintro e w2 ⟨rfl, hH⟩
  have HH := Aside0.mk hH.tail
  clear hH
  obtain ⟨s, hs⟩ : ∃ s, s = bStr (b64 true xs) := ⟨_, rfl⟩
  rw [← hs]
  have Hs := Aside0.mk hs
  clear hs
  go_wp2
  go_ret
  exact ⟨by rw [← Hs.out]; rfl, HH.out⟩
/-- What bytes.Clone gives, as the callee wants it. -/
theorem Hold.clone {w0 w : World} {B : Nat} {L : List Asrt} {v : Value} {xs : List UInt8} {e : Nat} (hS : Hold w0 B w (.row kB e v xs :: L)) : ∃ (b c : Nat) (A : Option Addr), v = .slice A xs.length c ∧ (0 < xs.length → A = some ⟨b, 0, none⟩) ∧ xs.length ≤ c ∧ kB.C w A xs.length xs := by
  obtain ⟨A, c, rfl, hc, hC⟩ := hS.reads 0 rfl
  rcases Nat.eq_zero_or_pos xs.length with h | h
  · exact ⟨0, c, A, rfl, fun h' => absurd h' (by omega), hc, hC⟩
  · obtain ⟨b, cc, e, _⟩ := hS.form 0 rfl h
    injection e with e
    exact ⟨b, c, A, rfl, fun _ => e, hc, hC⟩
set_option maxHeartbeats 1000000 in
theorem encodedText_any (w : World) (A : Option Addr) (n c : Nat) (xs : List UInt8) (hn : n ≤ 1000000000) (hC : kB.C w A n xs) :
    Calls Try.prog 23 #[.slice A n c] w fun e w' => e = .returned (.string (bStr (b64 true xs))) ∧ Hold w w.heap.size w' [] := by
  obtain rfl := hC.1
  have HC := Aside0.mk hC
  clear hC
  go_enter Try.func23, Try.ntmps23
  go_wp2_with fail
  refine (bclone_any _ A _ c xs (by omega) HC.out).mono ?_
  rintro e w1 ⟨v, rfl, hH⟩
  obtain ⟨b, c1, A1, rfl, hb, hc1, hC1⟩ := hH.clone
  have H1 := Aside0.mk hH
  have HB := Aside0.mk hb
  have HC1 := Aside0.mk hC1
  clear hH hb hC1
  go_wp2_with fail
  refine (encText_any _ A1 _ c1 b 0 xs hn HB.out hc1 HC1.out).mono ?_
  rintro e w2 ⟨rfl, hH⟩
  have H2 := Aside0.mk ((H1.out.app hH).tail)
  clear hH
  obtain ⟨s, hs⟩ : ∃ s, s = bStr (b64 true xs) := ⟨_, rfl⟩
  rw [← hs]
  have Hs := Aside0.mk hs
  clear hs
  go_wp2
  go_ret
  exact ⟨by rw [← Hs.out]; rfl, H2.out⟩
set_option maxHeartbeats 1000000 in
theorem encLen64_any (w : World) (n : Nat) (hn : n ≤ 1000000000) :
    Calls Try.prog 35 #[.int .i64 n] w fun e w' => e = .returned (.int .i64 (encLen n : Nat)) ∧ Hold w w.heap.size w' [] := by
  go_enter Try.func35, Try.ntmps35
  go_wp2_with fail
  refine (getEnc_any _).mono ?_
  rintro e w1 ⟨g, rfl, hH⟩
  have H1 := Aside0.mk hH
  clear hH
  go_wp2_with fail
  refine (encLen_any w1 true g n hn H1.out).mono ?_
  rintro e w2 ⟨rfl, rfl⟩
  obtain ⟨m, hm⟩ : ∃ m, m = encLen n := ⟨_, rfl⟩
  rw [← hm]
  have HM := Aside0.mk hm
  clear hm
  go_wp2
  go_ret
  exact ⟨by rw [← HM.out]; rfl, H1.out.tail⟩
theorem implEncLen_any (w : World) (n : Nat) (hn : n ≤ 1000000000) :
    Calls Try.prog 20 #[.int .i64 n] w fun e w' => e = .returned (.int .i64 (encLen n : Nat)) ∧ Hold w w.heap.size w' [] := by
  go_enter Try.func20, Try.ntmps20
  go_wp2_with fail
  refine (encLen64_any w n hn).mono ?_
  rintro e w1 ⟨rfl, hH⟩
  have H1 := Aside0.mk hH
  clear hH
  obtain ⟨m, hm⟩ : ∃ m, m = encLen n := ⟨_, rfl⟩
  rw [← hm]
  have HM := Aside0.mk hm
  clear hm
  go_wp2
  go_ret
  exact ⟨by rw [← HM.out]; rfl, H1.out⟩
end Go.Proofs.Ytlncbbmmlhammaa
