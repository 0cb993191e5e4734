/-
  inner/base64: Guess; bytes.HasSuffix, bytes.Equal, zzStd: their contracts.
-/
import Derived.Test.YtlncbbmmlhammaaDoorEncode5
namespace Go.Proofs.YtlncbbmmlhammaaDoor
open Go.RowKit Go.Proofs.YtlncbbmmlhammaaDoorW.PrintWords Go.Lib
set_option linter.unusedVariables false
set_option linter.unusedSimpArgs false
set_option maxHeartbeats 1000000 in
theorem bequal_any (w : World) (A1 A2 : Option Addr) (n1 c1 n2 c2 : Nat) (xs ys : List UInt8) (h1 : kB.C w A1 n1 xs) (h2 : kB.C w A2 n2 ys) :
    Calls Tryd.prog 66 #[.slice A1 n1 c1, .slice A2 n2 c2] w fun e w' => e = .returned (.bool (decide (xs = ys))) ∧ w = w' := by
  have g1 := kB_string (P := Tryd.prog) c1 Tryd.underlying22 Tryd.underlying5 Tryd.underlying9 h1
  have g2 := kB_string (P := Tryd.prog) c2 Tryd.underlying22 Tryd.underlying5 Tryd.underlying9 h2
  clear h1 h2
  have he := bStr_beq xs ys
  generalize bStr xs = s1 at *
  generalize bStr ys = s2 at *
  have HE := Aside0.mk he
  clear he
  go_enter Tryd.func66, Tryd.ntmps66
  go_wp2
  go_ret
  exact ⟨by rw [← HE.out]; rfl, rfl⟩
def hasStd (xs : List UInt8) : Bool := xs.any fun c => c == 43 || c == 47
structure NoStd (xs : List UInt8) (k : Nat) : Prop where
  out : ∀ j, (hj : j < xs.length) → j < k → (xs[j] == 43 || xs[j] == 47) = false
theorem hasStd_false {xs : List UInt8} (h : NoStd xs xs.length) : hasStd xs = false := by
  unfold hasStd
  rw [← Bool.not_eq_true, List.any_eq_true]
  rintro ⟨x, hx, h2⟩
  obtain ⟨j, hj, rfl⟩ := List.getElem_of_mem hx
  rw [h.out j hj hj] at h2
  cases h2
theorem hasStd_true {xs : List UInt8} {k : Nat} (hk : k < xs.length) (h : (xs[k] == 43 || xs[k] == 47) = true) : hasStd xs = true := by
  unfold hasStd
  rw [List.any_eq_true]
  exact ⟨_, List.getElem_mem hk, h⟩
theorem u8_beq (c : UInt8) (n : Nat) (hn : n < 256) : ((c.toNat : Int) == (n : Int)) = (c == UInt8.ofNat n) := by
  rw [Bool.eq_iff_iff, beq_iff_eq, beq_iff_eq]
  constructor
  · intro h
    apply UInt8.toNat_inj.1
    rw [UInt8.toNat_ofNat_of_lt' hn]
    omega
  · rintro rfl
    rw [UInt8.toNat_ofNat_of_lt' hn]
set_option maxHeartbeats 1000000 in
theorem zzStd_any (w : World) (A : Option Addr) (n c : Nat) (xs : List UInt8) (hC : kB.C w A n xs) :
    Calls Tryd.prog 65 #[.slice A n c] w fun e w' => e = .returned (.bool (hasStd xs)) ∧ w = w' := by
  obtain rfl := hC.1
  have hx : xs.length ≤ 9223372036854775807 := hC.2.1
  go_enter Tryd.func65, Tryd.ntmps65
  go_wp2
  go_loop [7] (fun i => ∃ k : Nat, k ≤ xs.length ∧ i = .int .i64 k ∧ NoStd xs k) (fun i => xs.length - (intOf i).toNat)
  case atStart => exact ⟨0, Nat.zero_le _, rfl, ⟨fun j _ h => absurd h (Nat.not_lt_zero _)⟩⟩
  case round =>
    obtain ⟨k, hk, rfl, hT⟩ := hrel
    have HT := Aside0.mk hT
    clear hT
    by_cases hlt : k < xs.length
    · obtain ⟨a1, rfl, e1⟩ := C1_get hC k hlt
      have hlt2 : k + 1 ≤ xs.length := hlt
      have HTr := Aside0.mk (hasStd_true hlt)
      have HS : Aside0 ((xs[k] == 43 || xs[k] == 47) = false → NoStd xs (k + 1)) := ⟨fun h => ⟨fun j hj hjk => by
        rcases Nat.lt_or_ge j k with h3 | h3
        · exact HT.out.out j hj h3
        · obtain rfl : j = k := by omega
          exact h⟩⟩
      obtain ⟨x, hxx⟩ : ∃ x, x = xs[k] := ⟨_, rfl⟩
      rw [← hxx] at e1 HTr HS
      have e1' : w.cell? (a1.add k) = some (.int .u8 (x.toNat : Int)) := e1
      clear hxx HT hC e1
      have b1 : ((x.toNat : Int) == 43) = (x == 43) := u8_beq x 43 (by decide)
      have b2 : ((x.toNat : Int) == 47) = (x == 47) := u8_beq x 47 (by decide)
      cases h1 : x == 43 with
      | true =>
        rw [h1] at b1
        have HF := Aside0.mk (HTr.out (by rw [h1]; rfl))
        clear h1 HTr HS b2
        go_wp2
        go_ret
        exact ⟨by rw [HF.out]; rfl, rfl⟩
      | false =>
        rw [h1] at b1
        cases h2 : x == 47 with
        | true =>
          rw [h2] at b2
          have HF := Aside0.mk (HTr.out (by rw [h2, Bool.or_true]))
          clear h1 h2 HTr HS
          go_wp2
          go_ret
          exact ⟨by rw [HF.out]; rfl, rfl⟩
        | false =>
          rw [h2] at b2
          have HT := Aside0.mk (HS.out (by rw [h1, h2]; rfl))
          clear h1 h2 HTr HS
          go_wp2
          go_round
          case rel => exact ⟨k + 1, hlt2, by go_num, HT.out⟩
          case measure => simp [intOf]; omega
    · obtain rfl : k = xs.length := by omega
      have HF := Aside0.mk (hasStd_false HT.out)
      clear HT hC
      go_wp2
      go_ret
      exact ⟨by rw [HF.out]; rfl, rfl⟩
theorem C_drop {w : World} {ad : Addr} {n : Nat} {xs : List UInt8} (h : kB.C w (some ad) n xs) (k : Nat) (hk : k ≤ n) : kB.C w (some (ad.add k)) (n - k) (xs.drop k) := by
  obtain ⟨h1, h2, h3⟩ := h
  refine ⟨by rw [List.length_drop, h1], by omega, fun hn => ?_⟩
  obtain ⟨ad', e, hc⟩ := h3 (by omega)
  injection e with e
  subst e
  refine ⟨_, rfl, fun j p hj => ?_⟩
  rw [List.getElem?_drop] at hj
  obtain ⟨c, hl, hR, hcell⟩ := hc (k + j) p hj
  refine ⟨c, hl, hR, fun i u hu => ?_⟩
  rw [Go.Deep.add_add]
  have := hcell i u hu
  have e : (k + j) * kB.sz + i = k + (j * kB.sz + i) := by show (k + j) * 1 + i = k + (j * 1 + i); omega
  rwa [e] at this
def hasPad (xs : List UInt8) : Bool := xs.getLast? == some 61
set_option maxHeartbeats 1000000 in
theorem hasSuffix_any (w : World) (A A2 : Option Addr) (n c : Nat) (xs : List UInt8) (hnc : n ≤ c) (hC : kB.C w A n xs) (hC2 : kB.C w A2 1 [61]) :
    Calls Tryd.prog 64 #[.slice A n c, .slice A2 1 1] w fun e w' => e = .returned (.bool (hasPad xs)) ∧ w = w' := by
  obtain rfl := hC.1
  have hx : xs.length ≤ 9223372036854775807 := hC.2.1
  rcases Nat.eq_zero_or_pos xs.length with h0 | h0
  · have hxs : xs = [] := List.eq_nil_of_length_eq_zero h0
    subst hxs
    have HF : Aside0 (hasPad [] = false) := ⟨rfl⟩
    clear hC hC2 h0
    go_enter Tryd.func64, Tryd.ntmps64
    go_wp2
    go_ret
    exact ⟨by rw [HF.out]; rfl, rfl⟩
  · obtain ⟨ad, rfl, _⟩ := hC.2.2 h0
    have hD := C_drop hC (xs.length - 1) (by omega)
    have HF : Aside0 (hasPad xs = decide (xs.drop (xs.length - 1) = [61])) := ⟨by
      unfold hasPad
      rw [List.getLast?_eq_getElem?, List.getElem?_eq_getElem (by omega), List.drop_eq_getElem_cons (by omega), List.drop_of_length_le (by omega)]
      rw [Bool.eq_iff_iff]
      simp⟩
    have HD := Aside0.mk hD
    have HC2 := Aside0.mk hC2
    clear hC hC2 hD
    have hcne : ¬ c = xs.length - 1 := by omega
    go_enter Tryd.func64, Tryd.ntmps64
    go_wp2_with fail
    refine (bequal_any _ _ _ _ _ _ _ _ _ HD.out HC2.out).mono ?_
    rintro e w1 ⟨rfl, rfl⟩
    obtain ⟨q, hq⟩ : ∃ q, q = decide (xs.drop (xs.length - 1) = [61]) := ⟨_, rfl⟩
    rw [← hq] at HF ⊢
    clear hq
    go_wp2
    go_ret
    exact ⟨by rw [HF.out]; rfl, rfl⟩
def guessOf (xs : List UInt8) : Int := if !hasPad xs && !hasStd xs then 4 else if !hasStd xs then 2 else if !hasPad xs then 3 else 1
set_option maxHeartbeats 1000000 in
theorem guess_any (w : World) (A : Option Addr) (n c : Nat) (xs : List UInt8) (hnc : n ≤ c) (hC : kB.C w A n xs) :
    Calls Tryd.prog 59 #[.slice A n c] w fun e w' => e = .returned (.int .i64 (guessOf xs)) ∧ Hold w w.heap.size w' [] := by
  obtain rfl := hC.1
  have H1 := Aside0.mk ((Hold.start w).alloc_ (.cells #[.int .u8 61] 5))
  have HL : Aside0 (kB.C (w.alloc (.cells #[.int .u8 61] 5)) (some ⟨w.heap.size, 0, none⟩) 1 [61]) := ⟨C1_lit (enc := bV) (h1 := fun _ => rfl) w 5 _ rfl [61] (by decide)⟩
  have HC := Aside0.mk (Kd.C_below hC H1.out.below)
  have HG : Aside0 (guessOf xs = if !hasPad xs && !hasStd xs then 4 else if !hasStd xs then 2 else if !hasPad xs then 3 else 1) := ⟨rfl⟩
  clear hC
  go_enter Tryd.func59, Tryd.ntmps59
  go_wp2_with fail
  refine (hasSuffix_any _ _ _ _ c xs hnc HC.out HL.out).mono ?_
  rintro e w1 ⟨rfl, rfl⟩
  generalize hasPad xs = p at HG ⊢
  go_wp2_with fail
  refine (zzStd_any _ _ _ c xs HC.out).mono ?_
  rintro e w2 ⟨rfl, rfl⟩
  generalize hasStd xs = q at HG ⊢
  cases p <;> cases q <;> (go_wp2; go_ret; exact ⟨by rw [HG.out]; rfl, H1.out⟩)
end Go.Proofs.YtlncbbmmlhammaaDoor
