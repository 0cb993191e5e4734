/-
  inner/base64: Guess; bytes.HasSuffix, bytes.Equal, zzStd: their contracts.
  Three bytes as a number of 32 bits, in parts of six bits: as the walk spells them. No program in sight.
  encoding/base64: decodeQuantum on letters (no ends of lines): its contract, case by case. (Under way.)
  encoding/base64: decodeQuantum on two or three letters at the end of a text without padding: its contracts. (Under way.)
  Base64, read: what the letters stand for, and that what was written is read again. No program in sight.
-/
import Derived.Test.YtdldblfklalaeaaGreatDoorSa
import Derived.LoopN
namespace Go.Proofs.YtdldblfklalaeaaGreatDoor
open Go.RowKit Go.Proofs.YtdldblfklalaeaaGreatDoorW.PrintWords Go.Lib
set_option linter.unusedVariables false
set_option linter.unusedSimpArgs false
set_option maxHeartbeats 1000000 in
theorem bequal_any (w : World) (A1 A2 : Option Addr) (n1 c1 n2 c2 : Nat) (xs ys : List UInt8) (h1 : kB.C w A1 n1 xs) (h2 : kB.C w A2 n2 ys) :
    Calls Tryz.prog 202 #[.slice A1 n1 c1, .slice A2 n2 c2] w fun e w' => e = .returned (.bool (decide (xs = ys))) ∧ w = w' := by
  have g1 := kB_string (P := Tryz.prog) c1 Tryz.underlying30 Tryz.underlying5 Tryz.underlying9 h1
  have g2 := kB_string (P := Tryz.prog) c2 Tryz.underlying30 Tryz.underlying5 Tryz.underlying9 h2
  clear h1 h2
  have he := bStr_beq xs ys
  generalize bStr xs = s1 at *
  generalize bStr ys = s2 at *
  have HE := Aside0.mk he
  clear he
  go_enter Tryz.func202, Tryz.ntmps202
  go_wp2
  go_ret
  exact ⟨by rw [← HE.out]; rfl, rfl⟩
def hasStd (xs : List UInt8) : Bool := xs.any fun c => c == 43 || c == 47
structure NoStd (xs : List UInt8) (k : Nat) : Prop where
  out : ∀ j, (hj : j < xs.length) → j < k → (xs[j] == 43 || xs[j] == 47) = false
theorem hasStd_false {xs : List UInt8} (h : NoStd xs xs.length) : hasStd xs = false := by
  unfold hasStd
  rw [← Bool.not_eq_true, List.any_eq_true]
  rintro ⟨x, hx, h2⟩
  obtain ⟨j, hj, rfl⟩ := List.getElem_of_mem hx
  rw [h.out j hj hj] at h2
  cases h2
theorem hasStd_true {xs : List UInt8} {k : Nat} (hk : k < xs.length) (h : (xs[k] == 43 || xs[k] == 47) = true) : hasStd xs = true := by
  unfold hasStd
  rw [List.any_eq_true]
  exact ⟨_, List.getElem_mem hk, h⟩
theorem u8_beqG (c : UInt8) (n : Nat) (hn : n < 256) : ((c.toNat : Int) == (n : Int)) = (c == UInt8.ofNat n) := by
  rw [Bool.eq_iff_iff, beq_iff_eq, beq_iff_eq]
  constructor
  · intro h
    apply UInt8.toNat_inj.1
    rw [UInt8.toNat_ofNat_of_lt' hn]
    omega
  · rintro rfl
    rw [UInt8.toNat_ofNat_of_lt' hn]
set_option maxHeartbeats 1000000 in
theorem zzStd_any (w : World) (A : Option Addr) (n c : Nat) (xs : List UInt8) (hC : kB.C w A n xs) :
    Calls Tryz.prog 195 #[.slice A n c] w fun e w' => e = .returned (.bool (hasStd xs)) ∧ w = w' := by
  obtain rfl := hC.1
  have hx : xs.length ≤ 9223372036854775807 := hC.2.1
  go_enter Tryz.func195, Tryz.ntmps195
  go_wp2
  go_loop [7] (fun i => ∃ k : Nat, k ≤ xs.length ∧ i = .int .i64 k ∧ NoStd xs k) (fun i => xs.length - (intOf i).toNat)
  case atStart => exact ⟨0, Nat.zero_le _, rfl, ⟨fun j _ h => absurd h (Nat.not_lt_zero _)⟩⟩
  case round =>
    obtain ⟨k, hk, rfl, hT⟩ := hrel
    have HT := Aside0.mk hT
    clear hT
    by_cases hlt : k < xs.length
    · obtain ⟨a1, rfl, e1⟩ := C1_get hC k hlt
      have hlt2 : k + 1 ≤ xs.length := hlt
      have HTr := Aside0.mk (hasStd_true hlt)
      have HS : Aside0 ((xs[k] == 43 || xs[k] == 47) = false → NoStd xs (k + 1)) := ⟨fun h => ⟨fun j hj hjk => by
        rcases Nat.lt_or_ge j k with h3 | h3
        · exact HT.out.out j hj h3
        · obtain rfl : j = k := by omega
          exact h⟩⟩
      obtain ⟨x, hxx⟩ : ∃ x, x = xs[k] := ⟨_, rfl⟩
      rw [← hxx] at e1 HTr HS
      have e1' : w.cell? (a1.add k) = some (.int .u8 (x.toNat : Int)) := e1
      clear hxx HT hC e1
      have b1 : ((x.toNat : Int) == 43) = (x == 43) := u8_beqG x 43 (by decide)
      have b2 : ((x.toNat : Int) == 47) = (x == 47) := u8_beqG x 47 (by decide)
      cases h1 : x == 43 with
      | true =>
        rw [h1] at b1
        have HF := Aside0.mk (HTr.out (by rw [h1]; rfl))
        clear h1 HTr HS b2
        go_wp2
        go_ret
        exact ⟨by rw [HF.out]; rfl, rfl⟩
      | false =>
        rw [h1] at b1
        cases h2 : x == 47 with
        | true =>
          rw [h2] at b2
          have HF := Aside0.mk (HTr.out (by rw [h2, Bool.or_true]))
          clear h1 h2 HTr HS
          go_wp2
          go_ret
          exact ⟨by rw [HF.out]; rfl, rfl⟩
        | false =>
          rw [h2] at b2
          have HT := Aside0.mk (HS.out (by rw [h1, h2]; rfl))
          clear h1 h2 HTr HS
          go_wp2
          go_round
          case rel => exact ⟨k + 1, hlt2, by go_num, HT.out⟩
          case measure => simp [intOf]; omega
    · obtain rfl : k = xs.length := by omega
      have HF := Aside0.mk (hasStd_false HT.out)
      clear HT hC
      go_wp2
      go_ret
      exact ⟨by rw [HF.out]; rfl, rfl⟩
theorem C_drop {w : World} {ad : Addr} {n : Nat} {xs : List UInt8} (h : kB.C w (some ad) n xs) (k : Nat) (hk : k ≤ n) : kB.C w (some (ad.add k)) (n - k) (xs.drop k) := by
  obtain ⟨h1, h2, h3⟩ := h
  refine ⟨by rw [List.length_drop, h1], by omega, fun hn => ?_⟩
  obtain ⟨ad', e, hc⟩ := h3 (by omega)
  injection e with e
  subst e
  refine ⟨_, rfl, fun j p hj => ?_⟩
  rw [List.getElem?_drop] at hj
  obtain ⟨c, hl, hR, hcell⟩ := hc (k + j) p hj
  refine ⟨c, hl, hR, fun i u hu => ?_⟩
  rw [Go.Deep.add_add]
  have := hcell i u hu
  have e : (k + j) * kB.sz + i = k + (j * kB.sz + i) := by show (k + j) * 1 + i = k + (j * 1 + i); omega
  rwa [e] at this
def hasPad (xs : List UInt8) : Bool := xs.getLast? == some 61
set_option maxHeartbeats 1000000 in
theorem hasSuffix_any (w : World) (A A2 : Option Addr) (n c : Nat) (xs : List UInt8) (hnc : n ≤ c) (hC : kB.C w A n xs) (hC2 : kB.C w A2 1 [61]) :
    Calls Tryz.prog 194 #[.slice A n c, .slice A2 1 1] w fun e w' => e = .returned (.bool (hasPad xs)) ∧ w = w' := by
  obtain rfl := hC.1
  have hx : xs.length ≤ 9223372036854775807 := hC.2.1
  rcases Nat.eq_zero_or_pos xs.length with h0 | h0
  · have hxs : xs = [] := List.eq_nil_of_length_eq_zero h0
    subst hxs
    have HF : Aside0 (hasPad [] = false) := ⟨rfl⟩
    clear hC hC2 h0
    go_enter Tryz.func194, Tryz.ntmps194
    go_wp2
    go_ret
    exact ⟨by rw [HF.out]; rfl, rfl⟩
  · obtain ⟨ad, rfl, _⟩ := hC.2.2 h0
    have hD := C_drop hC (xs.length - 1) (by omega)
    have HF : Aside0 (hasPad xs = decide (xs.drop (xs.length - 1) = [61])) := ⟨by
      unfold hasPad
      rw [List.getLast?_eq_getElem?, List.getElem?_eq_getElem (by omega), List.drop_eq_getElem_cons (by omega), List.drop_of_length_le (by omega)]
      rw [Bool.eq_iff_iff]
      simp⟩
    have HD := Aside0.mk hD
    have HC2 := Aside0.mk hC2
    clear hC hC2 hD
    have hcne : ¬ c = xs.length - 1 := by omega
    go_enter Tryz.func194, Tryz.ntmps194
    go_wp2_with fail
    refine (bequal_any _ _ _ _ _ _ _ _ _ HD.out HC2.out).mono ?_
    rintro e w1 ⟨rfl, rfl⟩
    obtain ⟨q, hq⟩ : ∃ q, q = decide (xs.drop (xs.length - 1) = [61]) := ⟨_, rfl⟩
    rw [← hq] at HF ⊢
    clear hq
    go_wp2
    go_ret
    exact ⟨by rw [HF.out]; rfl, rfl⟩
def guessOf (xs : List UInt8) : Int := if !hasPad xs && !hasStd xs then 4 else if !hasStd xs then 2 else if !hasPad xs then 3 else 1
set_option maxHeartbeats 1000000 in
theorem guess_any (w : World) (A : Option Addr) (n c : Nat) (xs : List UInt8) (hnc : n ≤ c) (hC : kB.C w A n xs) :
    Calls Tryz.prog 188 #[.slice A n c] w fun e w' => e = .returned (.int .i64 (guessOf xs)) ∧ Hold w w.heap.size w' [] := by
  obtain rfl := hC.1
  have H1 := Aside0.mk ((Hold.start w).alloc_ (.cells #[.int .u8 61] 5))
  have HL : Aside0 (kB.C (w.alloc (.cells #[.int .u8 61] 5)) (some ⟨w.heap.size, 0, none⟩) 1 [61]) := ⟨C1_lit (enc := bV) (h1 := fun _ => rfl) w 5 _ rfl [61] (by decide)⟩
  have HC := Aside0.mk (Kd.C_below hC H1.out.below)
  have HG : Aside0 (guessOf xs = if !hasPad xs && !hasStd xs then 4 else if !hasStd xs then 2 else if !hasPad xs then 3 else 1) := ⟨rfl⟩
  clear hC
  go_enter Tryz.func188, Tryz.ntmps188
  go_wp2_with fail
  refine (hasSuffix_any _ _ _ _ c xs hnc HC.out HL.out).mono ?_
  rintro e w1 ⟨rfl, rfl⟩
  generalize hasPad xs = p at HG ⊢
  go_wp2_with fail
  refine (zzStd_any _ _ _ c xs HC.out).mono ?_
  rintro e w2 ⟨rfl, rfl⟩
  generalize hasStd xs = q at HG ⊢
  cases p <;> cases q <;> (go_wp2; go_ret; exact ⟨by rw [HG.out]; rfl, H1.out⟩)
end Go.Proofs.YtdldblfklalaeaaGreatDoor
namespace Go.Proofs.YtdldblfklalaeaaGreatDoor
open Go.RowKit Go.Proofs.YtdldblfklalaeaaGreatDoorW.PrintWords
set_option linter.unusedVariables false
set_option linter.unusedSimpArgs false
theorem or32_0 (x : UInt8) : bits .or .u32 0 ((x.toNat : Int) % 4294967296) = ((x.toNat : Nat) : Int) := by
  have h := x.toNat_lt
  rw [show (x.toNat : Int) % 4294967296 = ((x.toNat : Nat) : Int) by omega, show (0 : Int) = ((0 : Nat) : Int) from rfl, u32_or_nat 0 x.toNat (by omega) (by omega), Nat.zero_or]
theorem or32_step (n : Nat) (y : UInt8) (hn : n < 65536) : bits .or .u32 ((n : Int) * 256 % 4294967296) ((y.toNat : Int) % 4294967296) = ((n * 256 + y.toNat : Nat) : Int) := by
  have h := y.toNat_lt
  rw [show (y.toNat : Int) % 4294967296 = ((y.toNat : Nat) : Int) by omega, show (n : Int) * 256 % 4294967296 = ((n * 256 : Nat) : Int) by omega, u32_or_nat _ _ (by omega) (by omega), or_add n y.toNat 8 (by omega)]
theorem and32 {N : Int} (n d i : Nat) (h : N = (n : Int)) (hn : n < 4294967296) (hi : n / d % 64 = i) : bits .and .u32 (N / (d : Int)) 63 = (i : Int) := by
  rw [h, ← Int.natCast_ediv]
  have := u32_and_nat (n / d) 63 (Nat.lt_of_le_of_lt (Nat.div_le_self _ _) hn) (by decide)
  rw [show (63 : Int) = ((63 : Nat) : Int) from rfl, this, show (63 : Nat) = 2 ^ 6 - 1 from rfl, Nat.and_two_pow_sub_one_eq_mod]
  rw [show (2 : Nat) ^ 6 = 64 from rfl, hi]
theorem and32' {N : Int} (n i : Nat) (h : N = (n : Int)) (hn : n < 4294967296) (hi : n % 64 = i) : bits .and .u32 N 63 = (i : Int) := by
  have := and32 n 1 i h hn (by rw [Nat.div_one]; exact hi)
  rwa [show N / ((1 : Nat) : Int) = N by simp] at this
theorem shl32_0 : (0 : Int) * 256 % 4294967296 = 0 := by decide
end Go.Proofs.YtdldblfklalaeaaGreatDoor
namespace Go.Proofs.YtdldblfklalaeaaGreatDoor
open Go.RowKit Go.Proofs.YtdldblfklalaeaaGreatDoorW.PrintWords Go.Lib
set_option linter.unusedVariables false
set_option linter.unusedSimpArgs false
def dX (url : Bool) (c : UInt8) : UInt8 := (decX url).getD c.toNat 0
theorem Hold.rangeD {w0 : World} {B : Nat} {w : World} {L : List Asrt} {url : Bool} {g t : Nat} {p : Int} (H : Hold w0 B w (.blk g (.cells (encX url p) t) :: L)) : w.rangeAt g 64 ((decX url).map bV) := by
  intro j v hv
  have hj : j < 256 := by
    have := (List.getElem?_eq_some_iff.1 hv).1
    rwa [List.length_map, decX_len] at this
  have := (H.cellq 0 rfl (64 + j) _ (ecells_atD (letX url) (decX url) p (letX_len url) (decX_len url) j hj)).1
  rw [this]
  rw [List.getElem?_map, List.getElem?_eq_getElem (by rw [decX_len]; exact hj)] at hv
  rw [List.getD_eq_getElem?_getD, List.getElem?_eq_getElem (by rw [decX_len]; exact hj)]
  exact hv
theorem sizeD (url : Bool) : (Tryz.prog.info? 114).map (·.size) = some ((decX url).map bV).length := by
  rw [List.length_map, decX_len]
  kernel_rfl
theorem Hold.dcell {w0 : World} {B : Nat} {w : World} {L : List Asrt} {url : Bool} {g t : Nat} {p : Int} (H : Hold w0 B w (.blk g (.cells (encX url p) t) :: L)) (c : UInt8) : w.cell? ⟨g, 64 + c.toNat, none⟩ = some (.int .u8 ((dX url c).toNat : Int)) :=
  (H.cellq 0 rfl (64 + c.toNat) _ (ecells_atD (letX url) (decX url) p (letX_len url) (decX_len url) c.toNat c.toNat_lt)).1
/-- Bytes written into a block from a place on; what lies ahead of them stays. -/
structure Wrote (cs cs' : Array Value) (off : Nat) (bs : List UInt8) : Prop where
  size : cs'.size = cs.size
  pre : cs'.toList.take (off + bs.length) = cs.toList.take off ++ bs.map bV
theorem wrote3 (cs : Array Value) (off : Nat) (a b c : UInt8) (h : off + 3 ≤ cs.size) : Wrote cs (((cs.setIfInBounds (off + 2) (bV c)).setIfInBounds (off + 1) (bV b)).setIfInBounds off (bV a)) off [a, b, c] := by
  constructor
  · simp
  · apply List.ext_getElem?
    intro i
    simp only [Array.toList_setIfInBounds, List.length_cons, List.length_nil, List.getElem?_take, List.getElem?_set, List.length_set, List.map_cons, List.map_nil, List.getElem?_append, List.length_take]
    have hl : cs.toList.length = cs.size := by simp
    rw [hl, Nat.min_eq_left (by omega)]
    rcases Nat.lt_or_ge i off with h1 | h1
    · rw [if_pos (by omega), if_neg (by omega), if_neg (by omega), if_neg (by omega), if_pos h1, if_pos h1]
    · obtain ⟨j, rfl⟩ : ∃ j, i = off + j := ⟨i - off, by omega⟩
      rw [if_neg (show ¬ off + j < off by omega), Nat.add_sub_cancel_left]
      match j with
      | 0 => simp; omega
      | 1 => simp; omega
      | 2 => simp; omega
      | j + 3 => rw [if_neg (by omega)]; rfl
theorem dX_lt (url : Bool) (c : UInt8) (h : dX url c ≠ 255) : (dX url c).toNat < 64 := by
  have hall : ∀ u : Bool, (decX u).all (fun q => q == 255 || decide (q.toNat < 64)) = true := by decide +kernel
  have hc := c.toNat_lt
  have hm : dX url c ∈ decX url := by
    unfold dX
    rw [List.getD_eq_getElem?_getD, List.getElem?_eq_getElem (by rw [decX_len]; exact hc)]
    exact List.getElem_mem _
  have := List.all_eq_true.1 (hall url) _ hm
  simp only [Bool.or_eq_true, beq_iff_eq, decide_eq_true_eq] at this
  rcases this with h2 | h2
  · exact absurd h2 h
  · exact h2
theorem v4_eq (a b c d : UInt8) (ha : a.toNat < 64) (hb : b.toNat < 64) (hc : c.toNat < 64) (hd : d.toNat < 64) : bits .or .u64 (bits .or .u64 (bits .or .u64 (IntKind.u64.wrap (IntKind.u64.wrap (a.toNat : Int) * 262144)) (IntKind.u64.wrap (IntKind.u64.wrap (b.toNat : Int) * 4096))) (IntKind.u64.wrap (IntKind.u64.wrap (c.toNat : Int) * 64))) (IntKind.u64.wrap (d.toNat : Int)) = ((a.toNat * 262144 + b.toNat * 4096 + c.toNat * 64 + d.toNat : Nat) : Int) := by
  rw [wrapN a.toNat (by omega), wrapN b.toNat (by omega), wrapN c.toNat (by omega), wrapN d.toNat (by omega)]
  rw [show (a.toNat : Int) * 262144 = ((a.toNat * 262144 : Nat) : Int) by omega, show (b.toNat : Int) * 4096 = ((b.toNat * 4096 : Nat) : Int) by omega, show (c.toNat : Int) * 64 = ((c.toNat * 64 : Nat) : Int) by omega]
  rw [wrapN _ (by omega), wrapN _ (by omega), wrapN _ (by omega), orN _ _ (by omega) (by omega)]
  rw [show a.toNat * 262144 = a.toNat * 2 ^ 18 from rfl, or_add a.toNat (b.toNat * 4096) 18 (by omega), orN _ _ (by omega) (by omega)]
  rw [show a.toNat * 2 ^ 18 + b.toNat * 4096 = (a.toNat * 64 + b.toNat) * 2 ^ 12 by omega, or_add _ (c.toNat * 64) 12 (by omega), orN _ _ (by omega) (by omega)]
  rw [show (a.toNat * 64 + b.toNat) * 2 ^ 12 + c.toNat * 64 = ((a.toNat * 64 + b.toNat) * 64 + c.toNat) * 2 ^ 6 by omega, or_add _ d.toNat 6 (by omega)]
def byA (a b : UInt8) : UInt8 := UInt8.ofNat (a.toNat * 4 + b.toNat / 16)
def byB (b c : UInt8) : UInt8 := UInt8.ofNat (b.toNat % 16 * 16 + c.toNat / 4)
def byC (c d : UInt8) : UInt8 := UInt8.ofNat (c.toNat % 4 * 64 + d.toNat)
theorem byA_eq {N : Int} (a b c d : UInt8) (ha : a.toNat < 64) (hb : b.toNat < 64) (hc : c.toNat < 64) (hd : d.toNat < 64) (h : N = ((a.toNat * 262144 + b.toNat * 4096 + c.toNat * 64 + d.toNat : Nat) : Int)) : N / 65536 % 256 = ((byA a b).toNat : Int) := by
  unfold byA
  rw [UInt8.toNat_ofNat_of_lt' (show a.toNat * 4 + b.toNat / 16 < 256 by omega), h]
  generalize a.toNat = a at *
  generalize b.toNat = b at *
  generalize c.toNat = c at *
  generalize d.toNat = d at *
  have e : (a * 262144 + b * 4096 + c * 64 + d) / 65536 % 256 = a * 4 + b / 16 := by omega
  rw [← e]
  omega
theorem byB_eq {N : Int} (a b c d : UInt8) (ha : a.toNat < 64) (hb : b.toNat < 64) (hc : c.toNat < 64) (hd : d.toNat < 64) (h : N = ((a.toNat * 262144 + b.toNat * 4096 + c.toNat * 64 + d.toNat : Nat) : Int)) : N / 256 % 256 = ((byB b c).toNat : Int) := by
  unfold byB
  rw [UInt8.toNat_ofNat_of_lt' (show b.toNat % 16 * 16 + c.toNat / 4 < 256 by omega), h]
  generalize a.toNat = a at *
  generalize b.toNat = b at *
  generalize c.toNat = c at *
  generalize d.toNat = d at *
  have e : (a * 262144 + b * 4096 + c * 64 + d) / 256 % 256 = b % 16 * 16 + c / 4 := by omega
  rw [← e]
  omega
theorem byC_eq {N : Int} (a b c d : UInt8) (ha : a.toNat < 64) (hb : b.toNat < 64) (hc : c.toNat < 64) (hd : d.toNat < 64) (h : N = ((a.toNat * 262144 + b.toNat * 4096 + c.toNat * 64 + d.toNat : Nat) : Int)) : N % 256 = ((byC c d).toNat : Int) := by
  unfold byC
  rw [UInt8.toNat_ofNat_of_lt' (show c.toNat % 4 * 64 + d.toNat < 256 by omega), h]
  generalize a.toNat = a at *
  generalize b.toNat = b at *
  generalize c.toNat = c at *
  generalize d.toNat = d at *
  have e : (a * 262144 + b * 4096 + c * 64 + d) % 256 = c % 4 * 64 + d := by omega
  rw [← e]
  omega
theorem cell_ltQ {w : World} {b j : Nat} {v : Value} (h : w.cell? ⟨b, j, none⟩ = some v) : b < w.heap.size := by
  rcases Nat.lt_or_ge b w.heap.size with h1 | h1
  · exact h1
  · simp [World.cell?, Array.getElem?_eq_none h1] at h
set_option maxRecDepth 100000 in
set_option maxHeartbeats 4000000 in
theorem quant4_any {w0 : World} {B : Nat} {L : List Asrt} (w : World) (url : Bool) (p : Int) (g gd off b o n c m cap t si : Nat) (D : Option Addr) (ts : List UInt8) (cs : Array Value) (hn : n ≤ 1000000000)
    (hD : D = some ⟨gd, off, none⟩) (hm : 3 ≤ m) (hfit : off + m ≤ cs.size) (hne : g ≠ gd) (H : Hold w0 B w (.blk g (.cells (encX url p) 220) :: .blk gd (.cells cs t) :: L))
    (hC : kB.C w (some ⟨b, o, none⟩) n ts) (hs : si + 4 ≤ n) (x y z u : UInt8) (hx : ts[si]? = some x) (hy : ts[si + 1]? = some y) (hz : ts[si + 2]? = some z) (hu : ts[si + 3]? = some u)
    (vx : dX url x ≠ 255) (vy : dX url y ≠ 255) (vz : dX url z ≠ 255) (vu : dX url u ≠ 255) :
    Calls Tryz.prog 199 #[.pointer (some ⟨g, 0, none⟩), .slice D m cap, .slice (some ⟨b, o, none⟩) n c, .int .i64 si] w fun e w' => e = .returned (.tuple #[.int .i64 (si + 4 : Nat), .int .i64 3, .nilIface]) ∧
      ∃ cs', Wrote cs cs' off [byA (dX url x) (dX url y), byB (dX url y) (dX url z), byC (dX url z) (dX url u)] ∧ Hold w0 B w' (.blk g (.cells (encX url p) 220) :: .blk gd (.cells cs' t) :: L) := by
  obtain rfl := hC.1
  subst hD
  have HH := Aside0.mk H
  have HRg := Aside0.mk (H.alloc_ (.cells #[.int .u8 0, .int .u8 0, .int .u8 0, .int .u8 0] 267)).rangeD
  have HSz := Aside0.mk (sizeD url)
  have hu79 := Tryz.underlying220
  have dx := H.dcell x
  have dy := H.dcell y
  have dz := H.dcell z
  have du := H.dcell u
  have cell : ∀ j v, ts[j]? = some v → w.cell? ⟨b, o + j, none⟩ = some (.int .u8 (v.toNat : Int)) := by
    intro j v hv
    obtain ⟨hj, rfl⟩ := List.getElem?_eq_some_iff.1 hv
    exact cell_of_C hC j hj
  have cx := cell si x hx
  have cy := cell (si + 1) y hy
  have cz := cell (si + 2) z hz
  have cu := cell (si + 3) u hu
  obtain ⟨d0, f0⟩ := H.cellq 1 rfl off _ (Array.getElem?_eq_getElem (by omega))
  obtain ⟨d1, f1⟩ := H.cellq 1 rfl (off + 1) _ (Array.getElem?_eq_getElem (by omega))
  obtain ⟨d2, f2⟩ := H.cellq 1 rfl (off + 2) _ (Array.getElem?_eq_getElem (by omega))
  generalize cs[off] = o0 at d0
  generalize cs[off + 1] = o1 at d1
  generalize cs[off + 2] = o2 at d2
  have hstr := (H.cellq 0 rfl 321 _ (ecells_atS _ _ _ (letX_len url) (decX_len url))).1
  have hgb := cell_ltQ cx
  have hgg : g < w.heap.size := H.blk_lt 0 rfl
  have hgd : gd < w.heap.size := H.blk_lt 1 rfl
  clear cell hx hy hz hu hC H
  obtain ⟨q0, hq0⟩ : ∃ q0, q0 = dX url x := ⟨_, rfl⟩
  obtain ⟨q1, hq1⟩ : ∃ q1, q1 = dX url y := ⟨_, rfl⟩
  obtain ⟨q2, hq2⟩ : ∃ q2, q2 = dX url z := ⟨_, rfl⟩
  obtain ⟨q3, hq3⟩ : ∃ q3, q3 = dX url u := ⟨_, rfl⟩
  have b0 := dX_lt url x vx
  have b1 := dX_lt url y vy
  have b2 := dX_lt url z vz
  have b3 := dX_lt url u vu
  rw [← hq0] at dx vx b0 ⊢
  rw [← hq1] at dy vy b1 ⊢
  rw [← hq2] at dz vz b2 ⊢
  rw [← hq3] at du vu b3 ⊢
  have ne255 : ∀ q : UInt8, q ≠ 255 → ((q.toNat : Int) != 255) = true := by
    intro q h
    rw [bne_iff_ne]
    intro e
    exact h (UInt8.toNat_inj.1 (by show q.toNat = 255; omega))
  have t0 := ne255 q0 vx
  have t1 := ne255 q1 vy
  have t2 := ne255 q2 vz
  have t3 := ne255 q3 vu
  obtain ⟨N, hN⟩ : ∃ N, bits .or .u64 (bits .or .u64 (bits .or .u64 (IntKind.u64.wrap (IntKind.u64.wrap (q0.toNat : Int) * 262144)) (IntKind.u64.wrap (IntKind.u64.wrap (q1.toNat : Int) * 4096))) (IntKind.u64.wrap (IntKind.u64.wrap (q2.toNat : Int) * 64))) (IntKind.u64.wrap (q3.toNat : Int)) = N := ⟨_, rfl⟩
  have hv := hN.symm.trans (v4_eq q0 q1 q2 q3 b0 b1 b2 b3)
  have HA : Aside0 (N / 65536 % 256 = ((byA q0 q1).toNat : Int)) := ⟨byA_eq q0 q1 q2 q3 b0 b1 b2 b3 hv⟩
  have HB : Aside0 (N / 256 % 256 = ((byB q1 q2).toNat : Int)) := ⟨byB_eq q0 q1 q2 q3 b0 b1 b2 b3 hv⟩
  have HC : Aside0 (N % 256 = ((byC q2 q3).toNat : Int)) := ⟨byC_eq q0 q1 q2 q3 b0 b1 b2 b3 hv⟩
  have HFit : Aside0 (off + 3 ≤ cs.size) := ⟨by omega⟩
  clear hv b0 b1 b2 b3
  have HQ0 := Aside0.mk hq0
  have HQ1 := Aside0.mk hq1
  have HQ2 := Aside0.mk hq2
  have HQ3 := Aside0.mk hq3
  have lx : ((ts.length : Int) == (si : Int)) = false := by rw [beq_eq_false_iff_ne]; omega
  have ly : ((ts.length : Int) == (si : Int) + 1) = false := by rw [beq_eq_false_iff_ne]; omega
  have lz : ((ts.length : Int) == (si : Int) + 2) = false := by rw [beq_eq_false_iff_ne]; omega
  have lu : ((ts.length : Int) == (si : Int) + 3) = false := by rw [beq_eq_false_iff_ne]; omega
  have hlx := x.toNat_lt
  have hly := y.toNat_lt
  have hlz := z.toNat_lt
  have hlu := u.toNat_lt
  clear hq0 hq1 hq2 hq3 ne255 vx vy vz vu
  go_enter Tryz.func199, Tryz.ntmps199
  go_wp2_with ((with_reducible refine at_dst (N := 20) rfl ?_); refine wpList_load_mid rfl 114 (.tmp 19) rfl g 64 rfl ((decX url).map bV) _ HRg.out Tryz.underlying114 rfl HSz.out ?_)
  refine wp_loop_rounds 5 ?_
  rw [rounds_succ]
  go_wp2
  rw [rounds_succ]
  go_wp2
  rw [rounds_succ]
  go_wp2
  rw [rounds_succ]
  go_wp2
  rw [rounds_succ]
  go_wp2
  refine bodyPost_ret (results_tmp3 rfl _ _ _) rfl ?_
  refine ⟨?_, _, wrote3 cs off (byA q0 q1) (byB q1 q2) (byC q2 q3) HFit.out, ?_⟩
  · have e : (si : Int) + 1 + 1 + 1 + 1 = ((si + 4 : Nat) : Int) := by omega
    rw [← e]
    rfl
  · have h := ((((HH.out.store 1 rfl (off + 2) (.int .u8 (N % 256))).store 1 rfl (off + 1) (.int .u8 (N / 256 % 256))).store 1 rfl off (.int .u8 (N / 65536 % 256))).alloc_ (.cells #[.int .u8 (N / 65536 % 256), .int .u8 0, .int .u8 0, .int .u8 (q3.toNat : Int)] 267))
    rw [HA.out, HB.out, HC.out] at h ⊢
    exact h
end Go.Proofs.YtdldblfklalaeaaGreatDoor
namespace Go.Proofs.YtdldblfklalaeaaGreatDoor
open Go.RowKit Go.Proofs.YtdldblfklalaeaaGreatDoorW.PrintWords Go.Lib
set_option linter.unusedVariables false
set_option linter.unusedSimpArgs false
theorem wrote2 (cs : Array Value) (off : Nat) (a b : UInt8) (h : off + 2 ≤ cs.size) : Wrote cs ((cs.setIfInBounds (off + 1) (bV b)).setIfInBounds off (bV a)) off [a, b] := by
  constructor
  · simp
  · apply List.ext_getElem?
    intro i
    simp only [Array.toList_setIfInBounds, List.length_cons, List.length_nil, List.getElem?_take, List.getElem?_set, List.length_set, List.map_cons, List.map_nil, List.getElem?_append, List.length_take]
    have hl : cs.toList.length = cs.size := by simp
    rw [hl, Nat.min_eq_left (by omega)]
    rcases Nat.lt_or_ge i off with h1 | h1
    · rw [if_pos (by omega), if_neg (by omega), if_neg (by omega), if_pos h1, if_pos h1]
    · obtain ⟨j, rfl⟩ : ∃ j, i = off + j := ⟨i - off, by omega⟩
      rw [if_neg (show ¬ off + j < off by omega), Nat.add_sub_cancel_left]
      match j with
      | 0 => simp; omega
      | 1 => simp; omega
      | j + 2 => rw [if_neg (by omega)]; rfl
theorem wrote1 (cs : Array Value) (off : Nat) (a : UInt8) (h : off + 1 ≤ cs.size) : Wrote cs (cs.setIfInBounds off (bV a)) off [a] := by
  constructor
  · simp
  · apply List.ext_getElem?
    intro i
    simp only [Array.toList_setIfInBounds, List.length_cons, List.length_nil, List.getElem?_take, List.getElem?_set, List.length_set, List.map_cons, List.map_nil, List.getElem?_append, List.length_take]
    have hl : cs.toList.length = cs.size := by simp
    rw [hl, Nat.min_eq_left (by omega)]
    rcases Nat.lt_or_ge i off with h1 | h1
    · rw [if_pos (by omega), if_neg (by omega), if_pos h1, if_pos h1]
    · obtain ⟨j, rfl⟩ : ∃ j, i = off + j := ⟨i - off, by omega⟩
      rw [if_neg (show ¬ off + j < off by omega), Nat.add_sub_cancel_left]
      match j with
      | 0 => simp; omega
      | j + 1 => rw [if_neg (by omega)]; rfl
theorem w2_eq (a b : UInt8) (ha : a.toNat < 64) (hb : b.toNat < 64) : bits .or .u64 ((a.toNat : Int) * 262144) ((b.toNat : Int) * 4096) = ((a.toNat * 262144 + b.toNat * 4096 : Nat) : Int) := by
  rw [show (a.toNat : Int) * 262144 = ((a.toNat * 262144 : Nat) : Int) by omega, show (b.toNat : Int) * 4096 = ((b.toNat * 4096 : Nat) : Int) by omega, orN _ _ (by omega) (by omega), show a.toNat * 262144 = a.toNat * 2 ^ 18 from rfl, or_add a.toNat (b.toNat * 4096) 18 (by omega)]
theorem or_0 (n : Nat) (h : n < 18446744073709551616) : bits .or .u64 (n : Int) 0 = (n : Int) := by
  rw [show (0 : Int) = ((0 : Nat) : Int) from rfl, orN _ _ h (by omega), Nat.or_zero]
theorem w3_eq (a b c : UInt8) (ha : a.toNat < 64) (hb : b.toNat < 64) (hc : c.toNat < 64) : bits .or .u64 (bits .or .u64 (bits .or .u64 ((a.toNat : Int) * 262144) ((b.toNat : Int) * 4096)) ((c.toNat : Int) * 64)) 0 = ((a.toNat * 262144 + b.toNat * 4096 + c.toNat * 64 + (0 : UInt8).toNat : Nat) : Int) := by
  rw [w2_eq a b ha hb, show (c.toNat : Int) * 64 = ((c.toNat * 64 : Nat) : Int) by omega, orN _ _ (by omega) (by omega), show a.toNat * 262144 + b.toNat * 4096 = (a.toNat * 64 + b.toNat) * 2 ^ 12 by omega, or_add _ (c.toNat * 64) 12 (by omega), or_0 _ (by omega)]
  rw [show (0 : UInt8).toNat = 0 from rfl]
  omega
set_option maxRecDepth 100000 in
set_option maxHeartbeats 4000000 in
theorem quant3_any {w0 : World} {B : Nat} {L : List Asrt} (w : World) (url : Bool) (g gd off b o n c m cap t si : Nat) (D : Option Addr) (ts : List UInt8) (cs : Array Value) (hn : n ≤ 1000000000)
    (hD : D = some ⟨gd, off, none⟩) (hm : 2 ≤ m) (hfit : off + m ≤ cs.size) (hne : g ≠ gd) (H : Hold w0 B w (.blk g (.cells (encX url (-1)) 220) :: .blk gd (.cells cs t) :: L))
    (hC : kB.C w (some ⟨b, o, none⟩) n ts) (hs : si + 3 = n) (x y z : UInt8) (hx : ts[si]? = some x) (hy : ts[si + 1]? = some y) (hz : ts[si + 2]? = some z)
    (vx : dX url x ≠ 255) (vy : dX url y ≠ 255) (vz : dX url z ≠ 255) :
    Calls Tryz.prog 199 #[.pointer (some ⟨g, 0, none⟩), .slice D m cap, .slice (some ⟨b, o, none⟩) n c, .int .i64 si] w fun e w' => e = .returned (.tuple #[.int .i64 (si + 3 : Nat), .int .i64 2, .nilIface]) ∧
      ∃ cs', Wrote cs cs' off [byA (dX url x) (dX url y), byB (dX url y) (dX url z)] ∧ Hold w0 B w' (.blk g (.cells (encX url (-1)) 220) :: .blk gd (.cells cs' t) :: L) := by
  obtain rfl := hC.1
  subst hD
  have HH := Aside0.mk H
  have HRg := Aside0.mk (H.alloc_ (.cells #[.int .u8 0, .int .u8 0, .int .u8 0, .int .u8 0] 267)).rangeD
  have HSz := Aside0.mk (sizeD url)
  have hu79 := Tryz.underlying220
  have dx := H.dcell x
  have dy := H.dcell y
  have dz := H.dcell z
  have cell : ∀ j v, ts[j]? = some v → w.cell? ⟨b, o + j, none⟩ = some (.int .u8 (v.toNat : Int)) := by
    intro j v hv
    obtain ⟨hj, rfl⟩ := List.getElem?_eq_some_iff.1 hv
    exact cell_of_C hC j hj
  have cx := cell si x hx
  have cy := cell (si + 1) y hy
  have cz := cell (si + 2) z hz
  obtain ⟨d0, f0⟩ := H.cellq 1 rfl off _ (Array.getElem?_eq_getElem (by omega))
  obtain ⟨d1, f1⟩ := H.cellq 1 rfl (off + 1) _ (Array.getElem?_eq_getElem (by omega))
  obtain ⟨d1', f1'⟩ := H.cellq 1 rfl (off + 1) _ (Array.getElem?_eq_getElem (by omega))
  generalize cs[off] = o0 at d0
  generalize cs[off + 1] = o1 at d1
  clear d1' f1'
  have hstr := (H.cellq 0 rfl 321 _ (ecells_atS _ _ _ (letX_len url) (decX_len url))).1
  have hgb := cell_ltQ cx
  have hgg : g < w.heap.size := H.blk_lt 0 rfl
  have hgd : gd < w.heap.size := H.blk_lt 1 rfl
  have hpad := (H.cellq 0 rfl 320 _ (ecells_atP _ _ _ (letX_len url) (decX_len url))).1
  clear cell hx hy hz hC H
  obtain ⟨q0, hq0⟩ : ∃ q0, q0 = dX url x := ⟨_, rfl⟩
  obtain ⟨q1, hq1⟩ : ∃ q1, q1 = dX url y := ⟨_, rfl⟩
  obtain ⟨q2, hq2⟩ : ∃ q2, q2 = dX url z := ⟨_, rfl⟩
  have b0 := dX_lt url x vx
  have b1 := dX_lt url y vy
  have b2 := dX_lt url z vz
  rw [← hq0] at dx vx b0 ⊢
  rw [← hq1] at dy vy b1 ⊢
  rw [← hq2] at dz vz b2 ⊢
  have ne255 : ∀ q : UInt8, q ≠ 255 → ((q.toNat : Int) != 255) = true := by
    intro q h
    rw [bne_iff_ne]
    intro e
    exact h (UInt8.toNat_inj.1 (by show q.toNat = 255; omega))
  have t0 := ne255 q0 vx
  have t1 := ne255 q1 vy
  have t2 := ne255 q2 vz
  obtain ⟨N, hN⟩ : ∃ N, bits .or .u64 (bits .or .u64 (bits .or .u64 ((q0.toNat : Int) * 262144) ((q1.toNat : Int) * 4096)) ((q2.toNat : Int) * 64)) 0 = N := ⟨_, rfl⟩
  have hv := hN.symm.trans (w3_eq q0 q1 q2 b0 b1 b2)
  have HA : Aside0 (N / 65536 % 256 = ((byA q0 q1).toNat : Int)) := ⟨byA_eq q0 q1 q2 0 b0 b1 b2 (by decide) hv⟩
  have HB : Aside0 (N / 256 % 256 = ((byB q1 q2).toNat : Int)) := ⟨byB_eq q0 q1 q2 0 b0 b1 b2 (by decide) hv⟩
  clear hv
  have HFit : Aside0 (off + 2 ≤ cs.size) := ⟨by omega⟩
  have HQ0 := Aside0.mk hq0
  have HQ1 := Aside0.mk hq1
  have HQ2 := Aside0.mk hq2
  have lx : ((ts.length : Int) == (si : Int)) = false := by rw [beq_eq_false_iff_ne]; omega
  have ly : ((ts.length : Int) == (si : Int) + 1) = false := by rw [beq_eq_false_iff_ne]; omega
  have lz : ((ts.length : Int) == (si : Int) + 2) = false := by rw [beq_eq_false_iff_ne]; omega
  have hlx := x.toNat_lt
  have hly := y.toNat_lt
  have hlz := z.toNat_lt
  have lu : ((ts.length : Int) == (si : Int) + 1 + 1 + 1) = true := by rw [beq_iff_eq]; omega
  clear hq0 hq1 hq2 ne255 vx vy vz
  go_enter Tryz.func199, Tryz.ntmps199
  go_wp2_with ((with_reducible refine at_dst (N := 20) rfl ?_); refine wpList_load_mid rfl 114 (.tmp 19) rfl g 64 rfl ((decX url).map bV) _ HRg.out Tryz.underlying114 rfl HSz.out ?_)
  refine wp_loop_rounds 5 ?_
  rw [rounds_succ]
  go_wp2
  rw [rounds_succ]
  go_wp2
  rw [rounds_succ]
  go_wp2
  rw [rounds_succ]
  go_wp2
  refine bodyPost_ret (results_tmp3 rfl _ _ _) rfl ?_
  refine ⟨?_, _, wrote2 cs off (byA q0 q1) (byB q1 q2) HFit.out, ?_⟩
  · have e : (si : Int) + 1 + 1 + 1 = ((si + 3 : Nat) : Int) := by omega
    rw [← e]
    rfl
  · have h := (((HH.out.store 1 rfl (off + 1) (.int .u8 (N / 256 % 256))).store 1 rfl off (.int .u8 (N / 65536 % 256))).alloc_ (.cells #[.int .u8 (N / 65536 % 256), .int .u8 0, .int .u8 (N % 256), .int .u8 0] 267))
    rw [HA.out, HB.out] at h ⊢
    exact h
set_option maxRecDepth 100000 in
set_option maxHeartbeats 4000000 in
theorem quant2_any {w0 : World} {B : Nat} {L : List Asrt} (w : World) (url : Bool) (g gd off b o n c m cap t si : Nat) (D : Option Addr) (ts : List UInt8) (cs : Array Value) (hn : n ≤ 1000000000)
    (hD : D = some ⟨gd, off, none⟩) (hm : 1 ≤ m) (hfit : off + m ≤ cs.size) (hne : g ≠ gd) (H : Hold w0 B w (.blk g (.cells (encX url (-1)) 220) :: .blk gd (.cells cs t) :: L))
    (hC : kB.C w (some ⟨b, o, none⟩) n ts) (hs : si + 2 = n) (x y : UInt8) (hx : ts[si]? = some x) (hy : ts[si + 1]? = some y)
    (vx : dX url x ≠ 255) (vy : dX url y ≠ 255) :
    Calls Tryz.prog 199 #[.pointer (some ⟨g, 0, none⟩), .slice D m cap, .slice (some ⟨b, o, none⟩) n c, .int .i64 si] w fun e w' => e = .returned (.tuple #[.int .i64 (si + 2 : Nat), .int .i64 1, .nilIface]) ∧
      ∃ cs', Wrote cs cs' off [byA (dX url x) (dX url y)] ∧ Hold w0 B w' (.blk g (.cells (encX url (-1)) 220) :: .blk gd (.cells cs' t) :: L) := by
  obtain rfl := hC.1
  subst hD
  have HH := Aside0.mk H
  have HRg := Aside0.mk (H.alloc_ (.cells #[.int .u8 0, .int .u8 0, .int .u8 0, .int .u8 0] 267)).rangeD
  have HSz := Aside0.mk (sizeD url)
  have hu79 := Tryz.underlying220
  have dx := H.dcell x
  have dy := H.dcell y
  have cell : ∀ j v, ts[j]? = some v → w.cell? ⟨b, o + j, none⟩ = some (.int .u8 (v.toNat : Int)) := by
    intro j v hv
    obtain ⟨hj, rfl⟩ := List.getElem?_eq_some_iff.1 hv
    exact cell_of_C hC j hj
  have cx := cell si x hx
  have cy := cell (si + 1) y hy
  obtain ⟨d0, f0⟩ := H.cellq 1 rfl off _ (Array.getElem?_eq_getElem (by omega))
  generalize cs[off] = o0 at d0
  have hstr := (H.cellq 0 rfl 321 _ (ecells_atS _ _ _ (letX_len url) (decX_len url))).1
  have hgb := cell_ltQ cx
  have hgg : g < w.heap.size := H.blk_lt 0 rfl
  have hgd : gd < w.heap.size := H.blk_lt 1 rfl
  have hpad := (H.cellq 0 rfl 320 _ (ecells_atP _ _ _ (letX_len url) (decX_len url))).1
  clear cell hx hy hC H
  obtain ⟨q0, hq0⟩ : ∃ q0, q0 = dX url x := ⟨_, rfl⟩
  obtain ⟨q1, hq1⟩ : ∃ q1, q1 = dX url y := ⟨_, rfl⟩
  have b0 := dX_lt url x vx
  have b1 := dX_lt url y vy
  rw [← hq0] at dx vx b0 ⊢
  rw [← hq1] at dy vy b1 ⊢
  have ne255 : ∀ q : UInt8, q ≠ 255 → ((q.toNat : Int) != 255) = true := by
    intro q h
    rw [bne_iff_ne]
    intro e
    exact h (UInt8.toNat_inj.1 (by show q.toNat = 255; omega))
  have t0 := ne255 q0 vx
  have t1 := ne255 q1 vy
  obtain ⟨N, hN⟩ : ∃ N, bits .or .u64 (bits .or .u64 (bits .or .u64 ((q0.toNat : Int) * 262144) ((q1.toNat : Int) * 4096)) 0) 0 = N := ⟨_, rfl⟩
  have hv : N = ((q0.toNat * 262144 + q1.toNat * 4096 + (0 : UInt8).toNat * 64 + (0 : UInt8).toNat : Nat) : Int) := by
    rw [← hN, w2_eq q0 q1 b0 b1, or_0 _ (by omega), or_0 _ (by omega), show (0 : UInt8).toNat = 0 from rfl]
    omega
  have HA : Aside0 (N / 65536 % 256 = ((byA q0 q1).toNat : Int)) := ⟨byA_eq q0 q1 0 0 b0 b1 (by decide) (by decide) hv⟩
  clear hv
  have HFit : Aside0 (off + 1 ≤ cs.size) := ⟨by omega⟩
  have HQ0 := Aside0.mk hq0
  have HQ1 := Aside0.mk hq1
  have lx : ((ts.length : Int) == (si : Int)) = false := by rw [beq_eq_false_iff_ne]; omega
  have ly : ((ts.length : Int) == (si : Int) + 1) = false := by rw [beq_eq_false_iff_ne]; omega
  have hlx := x.toNat_lt
  have hly := y.toNat_lt
  have lu : ((ts.length : Int) == (si : Int) + 1 + 1) = true := by rw [beq_iff_eq]; omega
  clear hq0 hq1 ne255 vx vy
  go_enter Tryz.func199, Tryz.ntmps199
  go_wp2_with ((with_reducible refine at_dst (N := 20) rfl ?_); refine wpList_load_mid rfl 114 (.tmp 19) rfl g 64 rfl ((decX url).map bV) _ HRg.out Tryz.underlying114 rfl HSz.out ?_)
  refine wp_loop_rounds 5 ?_
  rw [rounds_succ]
  go_wp2
  rw [rounds_succ]
  go_wp2
  rw [rounds_succ]
  go_wp2
  refine bodyPost_ret (results_tmp3 rfl _ _ _) rfl ?_
  refine ⟨?_, _, wrote1 cs off (byA q0 q1) HFit.out, ?_⟩
  · have e : (si : Int) + 1 + 1 = ((si + 2 : Nat) : Int) := by omega
    rw [← e]
    rfl
  · have h := ((HH.out.store 1 rfl off (.int .u8 (N / 65536 % 256))).alloc_ (.cells #[.int .u8 (N / 65536 % 256), .int .u8 (N / 256 % 256), .int .u8 (N % 256), .int .u8 0] 267))
    rw [HA.out] at h ⊢
    exact h
end Go.Proofs.YtdldblfklalaeaaGreatDoor
namespace Go.Proofs.YtdldblfklalaeaaGreatDoor
open Go.RowKit Go.Proofs.YtdldblfklalaeaaGreatDoorW.PrintWords Go.Lib
set_option linter.unusedVariables false
set_option linter.unusedSimpArgs false
theorem dX_at (url : Bool) (k : Nat) (hk : k < 64) : dX url (b64at url k) = UInt8.ofNat k := by
  have h : ∀ u : Bool, (List.range 64).all (fun k => dX u (b64at u k) == UInt8.ofNat k) = true := by decide +kernel
  have := List.all_eq_true.1 (h url) k (List.mem_range.2 hk)
  simpa using this
theorem dX_ok (url : Bool) (k : Nat) (hk : k < 64) : dX url (b64at url k) ≠ 255 := by
  rw [dX_at url k hk]
  intro e
  have := congrArg UInt8.toNat e
  rw [UInt8.toNat_ofNat_of_lt' (show k < 256 by omega)] at this
  have h2 : (255 : UInt8).toNat = 255 := rfl
  omega
theorem dX_61 (url : Bool) : dX url 61 = 255 := by cases url <;> decide +kernel
theorem dX_nl (url : Bool) (c : UInt8) (h : dX url c ≠ 255) : c ≠ 10 ∧ c ≠ 13 := by
  constructor <;> (rintro rfl; exact h (by cases url <;> decide +kernel))
/-- Is a byte a letter? -/
def isL (url : Bool) (c : UInt8) : Bool := dX url c != 255
theorem isL_iff {url : Bool} {c : UInt8} : isL url c = true ↔ dX url c ≠ 255 := by unfold isL; simp
theorem isL_not {url : Bool} {c : UInt8} : isL url c = false ↔ dX url c = 255 := by unfold isL; simp
theorem isL_61 (url : Bool) : isL url 61 = false := isL_not.2 (dX_61 url)
theorem isL_at (url : Bool) (k : Nat) (hk : k < 64) : isL url (b64at url k) = true := isL_iff.2 (dX_ok url k hk)
/-- What a text is read as: letters, and behind them, if it is padded, signs of padding. -/
def decAll (url raw : Bool) : List UInt8 → Option (List UInt8)
  | x :: y :: z :: u :: r =>
    if isL url x && isL url y && isL url z && isL url u then (decAll url raw r).map ([byA (dX url x) (dX url y), byB (dX url y) (dX url z), byC (dX url z) (dX url u)] ++ ·)
    else if !raw && r.isEmpty && isL url x && isL url y && (u == 61) then
      (if isL url z then some [byA (dX url x) (dX url y), byB (dX url y) (dX url z)] else if z == 61 then some [byA (dX url x) (dX url y)] else none)
    else none
  | [x, y, z] => if raw && isL url x && isL url y && isL url z then some [byA (dX url x) (dX url y), byB (dX url y) (dX url z)] else none
  | [x, y] => if raw && isL url x && isL url y then some [byA (dX url x) (dX url y)] else none
  | [x] => none
  | [] => some []
theorem by3 (url : Bool) (x y z : UInt8) : byA (dX url (b64at url (x.toNat / 4))) (dX url (b64at url (x.toNat % 4 * 16 + y.toNat / 16))) = x ∧
    byB (dX url (b64at url (x.toNat % 4 * 16 + y.toNat / 16))) (dX url (b64at url (y.toNat % 16 * 4 + z.toNat / 64))) = y ∧
    byC (dX url (b64at url (y.toNat % 16 * 4 + z.toNat / 64))) (dX url (b64at url (z.toNat % 64))) = z := by
  have hx := x.toNat_lt
  have hy := y.toNat_lt
  have hz := z.toNat_lt
  rw [dX_at _ _ (by omega), dX_at _ _ (by omega), dX_at _ _ (by omega), dX_at _ _ (by omega)]
  unfold byA byB byC
  refine ⟨?_, ?_, ?_⟩ <;> (apply UInt8.toNat_inj.1; rw [UInt8.toNat_ofNat_of_lt' (by rw [UInt8.toNat_ofNat_of_lt' (show _ < 256 by omega), UInt8.toNat_ofNat_of_lt' (show _ < 256 by omega)]; show _ < 256; omega), UInt8.toNat_ofNat_of_lt' (show _ < 256 by omega), UInt8.toNat_ofNat_of_lt' (show _ < 256 by omega)]; omega)
theorem by2 (url : Bool) (x y : UInt8) : byA (dX url (b64at url (x.toNat / 4))) (dX url (b64at url (x.toNat % 4 * 16 + y.toNat / 16))) = x ∧
    byB (dX url (b64at url (x.toNat % 4 * 16 + y.toNat / 16))) (dX url (b64at url (y.toNat % 16 * 4))) = y := by
  have h := by3 url x y 0
  simp only [show (0 : UInt8).toNat / 64 = 0 from rfl, Nat.add_zero] at h
  exact ⟨h.1, h.2.1⟩
theorem by1 (url : Bool) (x : UInt8) : byA (dX url (b64at url (x.toNat / 4))) (dX url (b64at url (x.toNat % 4 * 16))) = x := by
  have h := by2 url x 0
  simp only [show (0 : UInt8).toNat / 16 = 0 from rfl, Nat.add_zero] at h
  exact h.1
theorem isL4 (url : Bool) (x y z : UInt8) : isL url (b64at url (x.toNat / 4)) = true ∧ isL url (b64at url (x.toNat % 4 * 16 + y.toNat / 16)) = true ∧ isL url (b64at url (y.toNat % 16 * 4 + z.toNat / 64)) = true ∧ isL url (b64at url (z.toNat % 64)) = true ∧
    isL url (b64at url (x.toNat % 4 * 16)) = true ∧ isL url (b64at url (y.toNat % 16 * 4)) = true := by
  have hx := x.toNat_lt
  have hy := y.toNat_lt
  have hz := z.toNat_lt
  refine ⟨isL_at _ _ (by omega), isL_at _ _ (by omega), isL_at _ _ (by omega), isL_at _ _ (by omega), isL_at _ _ (by omega), isL_at _ _ (by omega)⟩
theorem decAll_b64 (url : Bool) : ∀ xs, decAll url true (b64 url xs) = some xs
  | x :: y :: z :: r => by
    obtain ⟨h1, h2, h3⟩ := by3 url x y z
    obtain ⟨l1, l2, l3, l4, _⟩ := isL4 url x y z
    simp only [b64, decAll, l1, l2, l3, l4, Bool.and_self, if_true, decAll_b64 url r, h1, h2, h3, Option.map_some, List.cons_append, List.nil_append]
  | [x, y] => by
    obtain ⟨h1, h2⟩ := by2 url x y
    obtain ⟨l1, l2, _, _, _, l6⟩ := isL4 url x y 0
    simp only [b64, decAll, l1, l2, l6, Bool.and_self, if_true, h1, h2]
  | [x] => by
    have h1 := by1 url x
    obtain ⟨l1, _, _, _, l5, _⟩ := isL4 url x 0 0
    simp only [b64, decAll, l1, l5, Bool.and_self, if_true, h1]
  | [] => rfl
theorem b64_inj {url : Bool} {xs ys : List UInt8} (h : b64 url xs = b64 url ys) : xs = ys := by
  have h1 := decAll_b64 url xs
  rw [h, decAll_b64 url ys] at h1
  exact (Option.some.inj h1).symm
/-- A letter behind whole groups is none. -/
theorem decAll_cut (url : Bool) (c : UInt8) : ∀ (k : Nat) (xs : List UInt8), xs.length = 3 * k → decAll url true (b64 url xs ++ [c]) = none
  | 0, [], _ => by simp [b64, decAll]
  | k + 1, x :: y :: z :: r, h => by
    obtain ⟨l1, l2, l3, l4, _⟩ := isL4 url x y z
    have h' : r.length = 3 * k := by simp at h; omega
    simp only [b64, List.cons_append, decAll, l1, l2, l3, l4, Bool.and_self, if_true, decAll_cut url c k r h', Option.map_none]
/-- Padding: as much as is needed, and none else. -/
theorem decAll_pad (url : Bool) (m : Nat) (hm : 0 < m) : ∀ xs : List UInt8, decAll url false (b64 url xs ++ List.replicate m 61) = if m = (4 - (b64 url xs).length % 4) % 4 then some xs else none
  | x :: y :: z :: r => by
    obtain ⟨h1, h2, h3⟩ := by3 url x y z
    obtain ⟨l1, l2, l3, l4, _⟩ := isL4 url x y z
    have e0 : (b64 url (x :: y :: z :: r)).length % 4 = (b64 url r).length % 4 := by simp only [b64, List.length_cons]; omega
    have e1 : decAll url false (b64 url (x :: y :: z :: r) ++ List.replicate m 61) = (decAll url false (b64 url r ++ List.replicate m 61)).map ([x, y, z] ++ ·) := by
      simp only [b64, List.cons_append, decAll, l1, l2, l3, l4, Bool.and_self, if_true, h1, h2, h3]
    rw [e0, e1, decAll_pad url m hm r]
    by_cases e : m = (4 - (b64 url r).length % 4) % 4
    · rw [if_pos e, if_pos e]; rfl
    · rw [if_neg e, if_neg e]; rfl
  | [x, y] => by
    obtain ⟨h1, h2⟩ := by2 url x y
    obtain ⟨l1, l2, _, _, _, l6⟩ := isL4 url x y 0
    match m, hm with
    | 1, _ => simp [b64, decAll, l1, l2, l6, h1, h2, isL_61]
    | m + 2, _ => simp [b64, decAll, l1, l2, l6, h1, h2, isL_61, List.replicate_succ]
  | [x] => by
    have h1 := by1 url x
    obtain ⟨l1, _, _, _, l5, _⟩ := isL4 url x 0 0
    match m, hm with
    | 1, _ => simp [b64, decAll, l1, l5, h1, isL_61]
    | 2, _ => simp [b64, decAll, l1, l5, h1, isL_61]
    | m + 3, _ => simp [b64, decAll, l1, l5, h1, isL_61, List.replicate_succ]
  | [] => by
    match m, hm with
    | 1, _ => simp [b64, decAll]
    | 2, _ => simp [b64, decAll]
    | 3, _ => simp [b64, decAll]
    | m + 4, _ => simp [b64, decAll, isL_61, List.replicate_succ]
/-- Every byte of what is written is a letter. -/
theorem b64_all (url : Bool) : ∀ xs, (b64 url xs).all (isL url) = true
  | x :: y :: z :: r => by
    obtain ⟨l1, l2, l3, l4, _⟩ := isL4 url x y z
    simp only [b64, List.all_cons, l1, l2, l3, l4, b64_all url r, Bool.and_self]
  | [x, y] => by
    obtain ⟨l1, l2, _, _, _, l6⟩ := isL4 url x y 0
    simp only [b64, List.all_cons, List.all_nil, l1, l2, l6, Bool.and_self]
  | [x] => by
    obtain ⟨l1, _, _, _, l5, _⟩ := isL4 url x 0 0
    simp only [b64, List.all_cons, List.all_nil, l1, l5, Bool.and_self]
  | [] => rfl
theorem b64_isL (url : Bool) (xs : List UInt8) (c : UInt8) (hc : c ∈ b64 url xs) : isL url c = true := List.all_eq_true.1 (b64_all url xs) c hc
end Go.Proofs.YtdldblfklalaeaaGreatDoor
