/-
  The closure of FnClaimAlone; slices.IndexFunc and slices.DeleteFunc of fields: their contracts.
-/
import Derived.Test.YtldbelghobohiaaGreatDel
import Derived.Test.YtldbelghobohiaaGreatTok
namespace Go.Proofs.YtldbelghobohiaaGreat
open Go.RowKit Go.Proofs.YtldbelghobohiaaGreatW.PrintWords Go.ChangeShapes Go.WideShapes
set_option linter.unusedVariables false
set_option linter.unusedSimpArgs false
set_option maxRecDepth 100000
def isOwn (s : ByteArray) : Bool := decide (s = lI) || decide (s = lS) || decide (s = lJ)
theorem own_clo0 (w : World) (s : ByteArray) (i : Int) (t : ByteArray) (b : Bool) (m : Int) (A : Option Addr) (n c : Nat) :
    Calls Tryz.prog 10 #[.agg #[.string s, .int .i64 i, .string t, .bool b, .int .i32 m, .slice A n c]] w fun e w' => e = .returned (.bool (isOwn s)) ∧ w' = w.alloc (.cells #[.string s, .int .i64 i, .string t, .bool b, .int .i32 m, .slice A n c] 30) := by
  by_cases h1 : s = lI
  · have HF : Aside0 (isOwn s = true) := ⟨by unfold isOwn; rw [decide_eq_true h1]; rfl⟩
    have e1 := str_eq h1 rfl
    clear h1
    simp only [lI] at e1
    go_enter Tryz.func10, Tryz.ntmps10
    go_wp2
    go_ret
    exact ⟨by rw [HF.out]; rfl, rfl⟩
  · by_cases h2 : s = lS
    · have HF : Aside0 (isOwn s = true) := ⟨by unfold isOwn; rw [decide_eq_true h2]; simp⟩
      have e1 := str_ne h1 rfl
      have e2 := str_eq h2 rfl
      clear h1 h2
      simp only [lI, lS] at e1 e2
      go_enter Tryz.func10, Tryz.ntmps10
      go_wp2
      go_ret
      exact ⟨by rw [HF.out]; rfl, rfl⟩
    · by_cases h3 : s = lJ
      · have HF : Aside0 (isOwn s = true) := ⟨by unfold isOwn; rw [decide_eq_true h3]; simp⟩
        have e1 := str_ne h1 rfl
        have e2 := str_ne h2 rfl
        have e3 := str_eq h3 rfl
        clear h1 h2 h3
        simp only [lI, lS, lJ] at e1 e2 e3
        go_enter Tryz.func10, Tryz.ntmps10
        go_wp2
        go_ret
        exact ⟨by rw [HF.out]; rfl, rfl⟩
      · have HF : Aside0 (isOwn s = false) := ⟨by unfold isOwn; rw [decide_eq_false h1, decide_eq_false h2, decide_eq_false h3]; rfl⟩
        have e1 := str_ne h1 rfl
        have e2 := str_ne h2 rfl
        have e3 := str_ne h3 rfl
        clear h1 h2 h3
        simp only [lI, lS, lJ] at e1 e2 e3
        go_enter Tryz.func10, Tryz.ntmps10
        go_wp2
        go_ret
        exact ⟨by rw [HF.out]; rfl, rfl⟩
theorem own_clo (w : World) (x : Fg) :
    Calls Tryz.prog 10 #[.agg (fgV x).toArray] w fun e w' => e = .returned (.bool (isOwn x.1.1)) ∧ w' = w.alloc (.cells (fgV x).toArray 30) := own_clo0 w _ _ _ _ _ _ _ _
abbrev cloV : Value := .func (.func 10) #[] #[]
structure NoneTo (gs : List Fg) (k : Nat) : Prop where
  out : ∀ j, (hj : j < gs.length) → j < k → isOwn gs[j].1.1 = false
theorem NoneTo.step {gs : List Fg} {k : Nat} (h : NoneTo gs k) (hk : k < gs.length) (h2 : isOwn gs[k].1.1 = false) : NoneTo gs (k + 1) := ⟨fun j hj hjk => by
  rcases Nat.lt_or_ge j k with h3 | h3
  · exact h.out j hj h3
  · obtain rfl : j = k := by omega
    exact h2⟩
/-- The first field of a name of one's own. -/
inductive FirstOwn (gs : List Fg) : Value → Prop
  | none : NoneTo gs gs.length → FirstOwn gs (.int .i64 (-1))
  | at_ (k : Nat) (hk : k < gs.length) : NoneTo gs k → isOwn gs[k].1.1 = true → FirstOwn gs (.int .i64 (k : Int))
set_option maxHeartbeats 4000000 in
theorem indexOwn_any (w : World) (A : Option Addr) (n c : Nat) (gs : List Fg) (hC : kFg.C w A n gs) :
    Calls Tryz.prog 17 #[.slice A n c, cloV] w fun e w' => ∃ v, e = .returned v ∧ FirstOwn gs v ∧ Hold w w.heap.size w' [] := by
  obtain rfl := hC.1
  have hx : gs.length ≤ 9223372036854775807 := hC.2.1
  have HC := Aside0.mk hC
  have H0 := Aside0.mk (Hold.start w)
  clear hC
  go_enter Tryz.func17, Tryz.ntmps17
  go_wp2
  go_loopw [8] (fun i wr => ∃ k : Nat, k ≤ gs.length ∧ i = .int .i64 k ∧ NoneTo gs k ∧ Hold w w.heap.size wr []) (fun i _ => gs.length - (intOf i).toNat)
  case atStart => exact ⟨0, Nat.zero_le _, rfl, ⟨fun j _ h => absurd h (Nat.not_lt_zero _)⟩, H0.out⟩
  case round =>
    obtain ⟨k, hk, rfl, hT, hR⟩ := hrel
    have HR := Aside0.mk hR
    have HT := Aside0.mk hT
    clear hR hT
    by_cases hlt : k < gs.length
    · obtain ⟨ad, rfl, e0, e1, e2, e3, e4, e5⟩ := CG_get (HR.out.C HC.out) k hlt
      go_wp2_with fail
      refine (own_clo _ gs[k]).mono ?_
      rintro e w2 ⟨rfl, rfl⟩
      have HN := Aside0.mk (HR.out.alloc_ (.cells (fgV gs[k]).toArray 30))
      cases hb : isOwn gs[k].1.1 with
      | true =>
        have HB := Aside0.mk (FirstOwn.at_ k hlt HT.out hb)
        clear hb
        go_wp2
        go_ret
        exact ⟨_, rfl, HB.out, HN.out⟩
      | false =>
        have HB := Aside0.mk (HT.out.step hlt hb)
        clear hb HT
        go_wp2
        go_roundw
        case rel => exact ⟨k + 1, hlt, by go_num, HB.out, HN.out⟩
        case measure => simp [intOf]; omega
    · obtain rfl : k = gs.length := by omega
      go_wp2
      go_ret
      exact ⟨_, rfl, .none HT.out, HR.out⟩
end Go.Proofs.YtldbelghobohiaaGreat
