/-
  laws.joinSafe: where it says yes, every text is short and stands in a JSON text as it is.
-/
import Derived.Test.YtdldblfklalaeaaGreatDoorJp
import Derived.WalkKit
import Derived.WalkSpells
import Derived.WalkLawsBesides
namespace Go.Proofs.YtdldblfklalaeaaGreatDoor
open Go.RowKit Go.Proofs.YtdldblfklalaeaaGreatDoorW.PrintWords Go.ChangeShapes Go.WideShapes
set_option linter.unusedVariables false
set_option linter.unusedSimpArgs false
set_option maxRecDepth 100000
/-- A truth value came back, and if it is true, P holds. -/
structure YesB (e : Ending) (P : Prop) : Prop where
  out : ∃ b, e = .returned (.bool b) ∧ (b = true → P)
structure SafeTo (xs : List ByteArray) (k : Nat) : Prop where
  out : ∀ j, (hj : j < xs.length) → j < k → Safe xs[j].data.toList
structure ChTo (t : ByteArray) (k : Nat) : Prop where
  out : ∀ j, (hj : j < t.size) → j < k → t[j] ≠ 34 ∧ t[j] ≠ 92
theorem ChTo.safe {t : ByteArray} (h : ChTo t t.size) (hl : t.size ≤ 60) : Safe t.data.toList := by
  refine ⟨by rw [Array.length_toList]; exact hl, fun c hc => ?_⟩
  obtain ⟨j, hj, rfl⟩ := List.getElem_of_mem hc
  have hj2 : j < t.size := by rw [Array.length_toList] at hj; exact hj
  have := h.out j hj2 hj2
  exact this
set_option maxHeartbeats 4000000 in
theorem joinSafe_any (w : World) (A : Option Addr) (n c : Nat) (xs : List ByteArray) (hC : Kd.string.C w A n xs) :
    Calls Tryz.prog 28 #[.slice A n c] w fun e w' => YesB e (∀ s ∈ xs, Safe s.data.toList) ∧ w = w' := by
  obtain rfl := hC.1
  have hx : xs.length ≤ 9223372036854775807 := hC.2.1
  go_enter Tryz.func28, Tryz.ntmps28
  go_wp2
  go_loopw [4, 5, 8] (fun _ _ i wr => ∃ k : Nat, k ≤ xs.length ∧ i = .int .i64 k ∧ SafeTo xs k ∧ wr = w) (fun _ _ i _ => xs.length - (intOf i).toNat)
  case atStart => exact ⟨0, Nat.zero_le _, rfl, ⟨fun j _ h => absurd h (Nat.not_lt_zero _)⟩, rfl⟩
  case round =>
    obtain ⟨k, hk, rfl, hT, rfl⟩ := hrel
    have HT := Aside0.mk hT
    clear hT
    by_cases hlt : k < xs.length
    · obtain ⟨a1, rfl, e1⟩ := C1_get hC k hlt
      have HN := Aside0.mk (fun h : Safe xs[k].data.toList => (show SafeTo xs (k + 1) from ⟨fun j hj hjk => by
        rcases Nat.lt_or_ge j k with h1 | h1
        · exact HT.out.out j hj h1
        · obtain rfl : j = k := by omega
          exact h⟩))
      clear hC HT
      have hlt2 : k + 1 ≤ xs.length := hlt
      generalize xs[k] = t at *
      by_cases h2 : 60 < t.size
      · clear HN
        go_wp2
        go_ret
        exact ⟨⟨⟨false, rfl, fun h => by cases h⟩⟩, rfl⟩
      · have h3 : t.size ≤ 60 := by omega
        go_wp2
        go_loopw [5] (fun i wx => ∃ j : Nat, j ≤ t.size ∧ i = .int .i64 j ∧ ChTo t j ∧ wx = wr) (fun i _ => t.size - (intOf i).toNat)
        case atStart => exact ⟨0, Nat.zero_le _, rfl, ⟨fun j _ h => absurd h (Nat.not_lt_zero _)⟩, rfl⟩
        case round =>
          obtain ⟨j, hj, rfl, hH, rfl⟩ := hrel
          by_cases hlj : j < t.size
          · have HN2 := Aside0.mk (fun h : t[j] ≠ 34 ∧ t[j] ≠ 92 => (show ChTo t (j + 1) from ⟨fun i hi hij => by
              rcases Nat.lt_or_ge i j with h1 | h1
              · exact hH.out i hi h1
              · obtain rfl : i = j := by omega
                exact h⟩))
            clear hH
            obtain ⟨d, hd⟩ : ∃ d, d = t[j] := ⟨_, rfl⟩
            rw [← hd] at HN2
            have tk : t[j] = d := hd.symm
            clear hd
            by_cases c1 : ((d.toNat : Nat) : Int) < 32
            · clear HN HN2
              go_wp2
              go_ret
              exact ⟨⟨⟨false, rfl, fun h => by cases h⟩⟩, rfl⟩
            by_cases c2 : (126 : Int) < ((d.toNat : Nat) : Int)
            · clear HN HN2
              go_wp2
              go_ret
              exact ⟨⟨⟨false, rfl, fun h => by cases h⟩⟩, rfl⟩
            by_cases c3 : d = 34
            · subst c3
              clear HN HN2
              go_wp2
              go_ret
              exact ⟨⟨⟨false, rfl, fun h => by cases h⟩⟩, rfl⟩
            by_cases c4 : d = 92
            · subst c4
              clear HN HN2
              go_wp2
              go_ret
              exact ⟨⟨⟨false, rfl, fun h => by cases h⟩⟩, rfl⟩
            have HN3 := Aside0.mk (HN2.out ⟨c3, c4⟩)
            obtain ⟨n1, n2, n3⟩ := (show NeC d 34 from neC 34 (toNat_ne c3))
            obtain ⟨m1, m2, m3⟩ := (show NeC d 92 from neC 92 (toNat_ne c4))
            clear c3 c4 HN2
            go_wp2
            go_roundw
            case rel => exact ⟨j + 1, hlj, by go_num, HN3.out, by first | rfl | trivial⟩
            case measure => simp [intOf]; omega
          · obtain rfl : j = t.size := by omega
            have HS := Aside0.mk (HN.out (hH.safe h3))
            clear hH HN
            go_wp2
            go_roundw
            case rel => exact ⟨k + 1, hlt2, by go_num, HS.out, by first | rfl | trivial⟩
            case measure => simp [intOf]; omega
    · have HS : Aside0 (∀ s ∈ xs, Safe s.data.toList) := ⟨fun s hs => by
        obtain ⟨j, hj, rfl⟩ := List.getElem_of_mem hs
        exact HT.out.out j hj (by omega)⟩
      clear HT hC
      go_wp2
      go_ret
      exact ⟨⟨⟨true, rfl, fun _ => HS.out⟩⟩, rfl⟩
end Go.Proofs.YtdldblfklalaeaaGreatDoor
