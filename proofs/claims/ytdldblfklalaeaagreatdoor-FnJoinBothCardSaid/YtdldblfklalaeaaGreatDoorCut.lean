/-
  jwsbb: zzCut, SplitCompact: their contracts.
-/
import Derived.Test.YtdldblfklalaeaaGreatDoorSplit
import Derived.BigQuiet
namespace Go.Proofs.YtdldblfklalaeaaGreatDoor
open Go.RowKit Go.Proofs.YtdldblfklalaeaaGreatDoorW.PrintWords Go.Lib
set_option linter.unusedVariables false
set_option linter.unusedSimpArgs false
/-- No period ahead of k. -/
structure NoDot (xs : List UInt8) (k : Nat) : Prop where
  out : ∀ j, (hj : j < xs.length) → j < k → xs[j] ≠ 46
/-- Where the first period stands. -/
def dotAt (xs : List UInt8) : Option Nat := xs.findIdx? (· == 46)
theorem dotAt_none {xs : List UInt8} (h : NoDot xs xs.length) : dotAt xs = none := by
  unfold dotAt
  rw [List.findIdx?_eq_none_iff]
  intro x hx
  obtain ⟨j, hj, rfl⟩ := List.getElem_of_mem hx
  simpa using h.out j hj hj
theorem dotAt_some {xs : List UInt8} {k : Nat} (h : NoDot xs k) (hk : k < xs.length) (hd : xs[k] = 46) : dotAt xs = some k := by
  unfold dotAt
  rw [List.findIdx?_eq_some_iff_getElem]
  refine ⟨hk, by simpa using hd, fun j hj => ?_⟩
  simpa using h.out j (by omega) hj
def CutPost (A : Option Addr) (n c : Nat) (xs : List UInt8) (w : World) (e : Ending) (w' : World) : Option Nat → Prop
  | some i => (∃ A2 c2, e = .returned (.tuple #[.slice A i c, .slice A2 (n - i - 1) c2, .bool true]) ∧ kB.C w A2 (n - i - 1) (xs.drop (i + 1)) ∧ n - i - 1 ≤ c2 ∧ c2 ≤ c) ∧ i < n ∧ Below w.heap.size w w'
  | none => e = .returned (.tuple #[.slice A n c, .slice none 0 0, .bool false]) ∧ Below w.heap.size w w'
theorem C_dropA {w : World} {ad : Addr} {n : Nat} {xs : List UInt8} (h : kB.C w (some ad) n xs) (k : Nat) (hk : k ≤ n) : kB.C w (some (ad.add k)) (n - k) (xs.drop k) := by
  obtain ⟨h1, h2, h3⟩ := h
  refine ⟨by rw [List.length_drop, h1], by omega, fun hn => ?_⟩
  obtain ⟨ad', e, hc⟩ := h3 (by omega)
  injection e with e
  subst e
  refine ⟨_, rfl, fun j p hj => ?_⟩
  rw [List.getElem?_drop] at hj
  obtain ⟨c, hl, hR, hcell⟩ := hc (k + j) p hj
  refine ⟨c, hl, hR, fun i u hu => ?_⟩
  rw [Go.Deep.add_add]
  have := hcell i u hu
  have e : (k + j) * kB.sz + i = k + (j * kB.sz + i) := by show (k + j) * 1 + i = k + (j * 1 + i); omega
  rwa [e] at this
theorem C_empty {w : World} (A : Option Addr) : kB.C w A 0 [] := ⟨rfl, by decide, fun h => absurd h (by omega)⟩
set_option maxRecDepth 100000 in
set_option maxHeartbeats 4000000 in
theorem cut_any (w : World) (A : Option Addr) (n c : Nat) (xs : List UInt8) (hnc : n ≤ c) (hcm : c ≤ 9223372036854775807) (hn : n ≤ 1000000) (hC : kB.C w A n xs) :
    Calls Tryz.prog 106 #[.slice A n c] w fun e w' => CutPost A n c xs w e w' (dotAt xs) := by
  obtain rfl := hC.1
  obtain ⟨r, hr⟩ : ∃ r, r = dotAt xs := ⟨_, rfl⟩
  have HRr := Aside0.mk hr
  rw [← hr]
  clear hr
  go_enter Tryz.func106, Tryz.ntmps106
  go_wp2
  go_loop [9] (fun i => ∃ k : Nat, k ≤ xs.length ∧ i = .int .i64 k ∧ NoDot xs k) (fun i => xs.length - (intOf i).toNat)
  case atStart => exact ⟨0, Nat.zero_le _, rfl, ⟨fun j _ h => absurd h (Nat.not_lt_zero _)⟩⟩
  case round =>
    obtain ⟨k, hk, rfl, hT⟩ := hrel
    have HT := Aside0.mk hT
    clear hT
    by_cases hlt : k < xs.length
    · obtain ⟨ad, rfl, e1⟩ := C1_get hC k hlt
      obtain ⟨x, hxx⟩ : ∃ x, x = xs[k] := ⟨_, rfl⟩
      have HXX := Aside0.mk hxx
      rw [← hxx] at e1
      have e2 : w.cell? (ad.add k) = some (.int .u8 (x.toNat : Int)) := e1
      have HC := Aside0.mk hC
      clear hxx e1 hC
      by_cases h46 : x = 46
      · have b1 : ((x.toNat : Int) == 46) = true := by rw [h46]; rfl
        have HD : Aside0 (r = some k) := ⟨by rw [HRr.out]; exact dotAt_some HT.out hlt (by rw [← HXX.out]; exact h46)⟩
        clear h46
        go_wp2
        go_quiet (fail)
        go_wp2
        · refine bodyPost_ret (results_tmp3 rfl _ _ _) rfl ?_
          rw [HD.out]
          refine ⟨⟨some ad, 0, rfl, ?_, by omega, by omega⟩, hlt, (Hold.drewN (Hold.start w) nq).below⟩
          have e0 : xs.length - k - 1 = 0 := by omega
          have e1 : xs.drop (k + 1) = [] := List.drop_eq_nil_of_le (by omega)
          rw [e0, e1]
          exact C_empty _
        · refine bodyPost_ret (results_tmp3 rfl _ _ _) rfl ?_
          rw [HD.out]
          have ea : ad.add (k + 1) = ⟨ad.block, ad.off + (k + 1), none⟩ := by
            unfold Addr.add
            rw [if_neg (by omega)]
          refine ⟨⟨some ⟨ad.block, ad.off + (k + 1), none⟩, c - (k + 1), rfl, ?_, by omega, by omega⟩, hlt, (Hold.drewN (Hold.start w) nq).below⟩
          rw [← ea]
          exact C_dropA HC.out (k + 1) (by omega)
      · have b1 : ((x.toNat : Int) == 46) = false := by
          rw [beq_eq_false_iff_ne]
          intro e
          exact h46 (UInt8.toNat_inj.1 (by show x.toNat = 46; omega))
        have HT2 : Aside0 (NoDot xs (k + 1)) := ⟨⟨fun j hj hjk => by
          rcases Nat.lt_or_ge j k with h | h
          · exact HT.out.out j hj h
          · obtain rfl : j = k := by omega
            rw [← HXX.out]; exact h46⟩⟩
        clear h46
        go_wp2
        go_round
        case rel => exact ⟨k + 1, hlt, by go_num, HT2.out⟩
        case measure => simp [intOf]; omega
    · obtain rfl : k = xs.length := by omega
      have HD : Aside0 (r = none) := ⟨by rw [HRr.out]; exact dotAt_none HT.out⟩
      go_wp2
      refine bodyPost_ret (results_tmp3 rfl _ _ _) rfl ?_
      rw [HD.out]
      exact ⟨rfl, Below.refl _ _⟩
end Go.Proofs.YtdldblfklalaeaaGreatDoor
