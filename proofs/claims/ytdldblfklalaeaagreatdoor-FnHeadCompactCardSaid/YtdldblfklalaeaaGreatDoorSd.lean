/-
  fastfloat.ParseInt64 of up to 18 letters: its contract.
  fastfloat.ParseInt64 of 19 letters and more: its contract.
  strconv.ParseInt: its contracts, off the shelf, laid over this program.
  fastfloat.ParseInt64 of a number's text: its contract.
  spec.HeadInt: its contract.
  Value.Int64, HeaderGetInt64, impl.HeadInt64: their contracts.
  What the reader says of a whole number, and what the law looks for.
-/
import Derived.Test.YtdldblfklalaeaaGreatDoorCx
import Derived.Test.YtdldblfklalaeaaGreatDoorRows
import Derived.Shelf.Strconv.ErrVarParseInt
import Derived.Below
namespace Go.Proofs.YtdldblfklalaeaaGreatDoor
open Go.RowKit Go.Proofs.YtdldblfklalaeaaGreatDoorW.PrintWords Go.ChangeShapes Go.WideShapes
set_option linter.unusedVariables false
set_option linter.unusedSimpArgs false
set_option maxRecDepth 100000
/-- The number that digits write. -/
def valD (ds : Bs) : Nat := ds.foldl (fun a c => a * 10 + (c.toNat - 48)) 0
theorem valD_take (ds : Bs) (k : Nat) (hk : k < ds.length) : valD (ds.take (k + 1)) = valD (ds.take k) * 10 + (ds[k].toNat - 48) := by
  unfold valD
  rw [List.take_succ_eq_append_getElem hk, List.foldl_append]
  rfl
/-- A row of digits. -/
structure DigS (ds : Bs) : Prop where
  pos : 0 < ds.length
  all : ∀ c ∈ ds, 48 ≤ c.toNat ∧ c.toNat ≤ 57
theorem valD_lt {ds : Bs} (h : ∀ c ∈ ds, 48 ≤ c.toNat ∧ c.toNat ≤ 57) : ∀ k, k ≤ ds.length → valD (ds.take k) < 10 ^ k
  | 0, _ => by simp [valD]
  | k + 1, hk => by
    rw [valD_take ds k hk]
    have h1 := valD_lt h k (by omega)
    have h2 := h ds[k] (List.getElem_mem hk)
    rw [Nat.pow_succ]
    omega
set_option maxHeartbeats 4000000 in
theorem pint_plain (w : World) (ds : Bs) (h : DigS ds) (hl : ds.length + 0 ≤ 18) :
    Calls Tryz.prog 104 #[.string (bStr (ds))] w fun e w' => e = .returned (.tuple #[.int .i64 (valD ds : Int), .nilIface]) ∧ w' = w := by
  have hpos := h.pos
  have HV := Aside0.mk (valD_lt h.all)
  have HS := Aside0.mk (valD_take ds)
  have HA := Aside0.mk h.all
  obtain ⟨s, hs⟩ : ∃ s, s = (ds : Bs) := ⟨_, rfl⟩
  have hsl : s.length = ds.length + 0 := by rw [hs]; simp
  have HG : Aside0 (∀ k, (hk : k < ds.length) → s[k + 0]'(by omega) = ds[k]) := ⟨fun k hk => by subst hs; simp⟩
  skip
  obtain ⟨t, ht0⟩ : ∃ t, t = bStr (ds) := ⟨_, rfl⟩
  rw [← ht0]
  have ht : t = bStr s := by rw [hs]; exact ht0
  clear ht0
  have HT := Aside0.mk ht
  have hsz : t.size = ds.length + 0 := by rw [ht, bStr_size, hsl]
  have HV1 := Aside0.mk (valD_lt h.all ds.length (Nat.le_refl _))
  have t0 : ∀ h : 0 < t.size, (t[0]'h).toNat ≠ 45 := fun h => by
    have e := tget ht 0 h (by omega)
    rw [e]
    subst hs
    have := HA.out s[0] (List.getElem_mem hpos)
    omega
  have hne : (ds = []) = False := eq_false (fun e => by rw [e] at hpos; exact absurd hpos (by decide))
  have HVm : Aside0 (valD ds < 1000000000000000000) := ⟨by
    have e := HV1.out
    rw [List.take_length] at e
    have hp : (10 : Nat) ^ ds.length ≤ 10 ^ 18 := Nat.pow_le_pow_right (by omega) (by omega)
    omega⟩
  clear ht hs h
  have t1 : ∀ h : 0 < t.size, ((((t[0]'h).toNat : Nat) : Int) == 45) = false := fun h => by
    have := t0 h
    simp
    omega
  go_enter Tryz.func104, Tryz.ntmps104
  go_wp2
  go_loop [4, 6] (fun i d => ∃ k : Nat, k ≤ ds.length ∧ i = .int .u64 ((k : Nat) : Int) ∧ d = .int .i64 ((valD (ds.take k) : Nat) : Int)) (fun i d => ds.length + 0 - (intOf i).toNat)
  case atStart => exact ⟨0, Nat.zero_le _, rfl, rfl⟩
  case round =>
    obtain ⟨k, hk, rfl, rfl⟩ := hrel
    by_cases hlt : k < ds.length
    · have hkt : k < t.size := by omega
      have tk : t[k]'hkt = ds[k] := (tget HT.out (k) hkt (by omega)).trans (HG.out k hlt)
      have hc := HA.out ds[k] (List.getElem_mem hlt)
      have hv := HV.out k hk
      have hp : (10 : Nat) ^ k ≤ 10 ^ 17 := Nat.pow_le_pow_right (by omega) (by omega)
      have hs := HS.out k hlt
      have hlt2 : k + 1 ≤ ds.length := hlt
      obtain ⟨v', hv'⟩ : ∃ v', v' = valD (ds.take (k + 1)) := ⟨_, rfl⟩
      have HV' := Aside0.mk hv'
      rw [← hv'] at hs
      clear hv'
      generalize valD (ds.take k) = v at *
      generalize ds[k] = c at *
      obtain ⟨hc0, hc1⟩ := hc
      have hv17 : v < 100000000000000000 := by omega
      have d1 : decide ((48 : Int) ≤ (c.toNat : Int)) = true := decide_eq_true (by omega)
      have d2 : decide ((c.toNat : Int) ≤ (57 : Int)) = true := decide_eq_true (by omega)
      clear hp hv
      go_wp2
      go_round
      case rel => exact ⟨k + 1, hlt2, by go_num, by rw [← HV'.out, hs]; congr 1; omega⟩
      case measure => simp [intOf]; omega
    · obtain rfl : k = ds.length := by omega
      rw [List.take_length]
      have hvm := HVm.out
      obtain ⟨v, hv⟩ : ∃ v, v = valD ds := ⟨_, rfl⟩
      have HVv := Aside0.mk hv
      rw [← hv] at hvm ⊢
      clear HV HS HV1 hv
      go_wp2
      go_ret2
      exact ⟨by rw [← HVv.out]; rfl, rfl⟩
set_option maxHeartbeats 4000000 in
theorem pint_minus (w : World) (ds : Bs) (h : DigS ds) (hl : ds.length + 1 ≤ 18) :
    Calls Tryz.prog 104 #[.string (bStr (45 :: ds))] w fun e w' => e = .returned (.tuple #[.int .i64 (-(valD ds : Int)), .nilIface]) ∧ w' = w := by
  have hpos := h.pos
  have HV := Aside0.mk (valD_lt h.all)
  have HS := Aside0.mk (valD_take ds)
  have HA := Aside0.mk h.all
  obtain ⟨s, hs⟩ : ∃ s, s = (45 :: ds : Bs) := ⟨_, rfl⟩
  have hsl : s.length = ds.length + 1 := by rw [hs]; simp
  have HG : Aside0 (∀ k, (hk : k < ds.length) → s[k + 1]'(by omega) = ds[k]) := ⟨fun k hk => by subst hs; simp⟩
  skip
  obtain ⟨t, ht0⟩ : ∃ t, t = bStr (45 :: ds) := ⟨_, rfl⟩
  rw [← ht0]
  have ht : t = bStr s := by rw [hs]; exact ht0
  clear ht0
  have HT := Aside0.mk ht
  have hsz : t.size = ds.length + 1 := by rw [ht, bStr_size, hsl]
  have HV1 := Aside0.mk (valD_lt h.all ds.length (Nat.le_refl _))
  have t0 : ∀ h : 0 < t.size, (t[0]'h).toNat = 45 := fun h => by
    have e := tget ht 0 h (by omega)
    rw [e]
    subst hs
    rfl
  have hne : (ds = []) = False := eq_false (fun e => by rw [e] at hpos; exact absurd hpos (by decide))
  have HVm : Aside0 (valD ds < 1000000000000000000) := ⟨by
    have e := HV1.out
    rw [List.take_length] at e
    have hp : (10 : Nat) ^ ds.length ≤ 10 ^ 18 := Nat.pow_le_pow_right (by omega) (by omega)
    omega⟩
  clear ht hs h
  have t1 : ∀ h : 0 < t.size, ((((t[0]'h).toNat : Nat) : Int) == 45) = true := fun h => by
    have := t0 h
    simp
    omega
  go_enter Tryz.func104, Tryz.ntmps104
  go_wp2
  go_loop [4, 6] (fun i d => ∃ k : Nat, k ≤ ds.length ∧ i = .int .u64 ((k + 1 : Nat) : Int) ∧ d = .int .i64 ((valD (ds.take k) : Nat) : Int)) (fun i d => ds.length + 1 - (intOf i).toNat)
  case atStart => exact ⟨0, Nat.zero_le _, rfl, rfl⟩
  case round =>
    obtain ⟨k, hk, rfl, rfl⟩ := hrel
    by_cases hlt : k < ds.length
    · have hkt : k + 1 < t.size := by omega
      have tk : t[k + 1]'hkt = ds[k] := (tget HT.out (k + 1) hkt (by omega)).trans (HG.out k hlt)
      have hc := HA.out ds[k] (List.getElem_mem hlt)
      have hv := HV.out k hk
      have hp : (10 : Nat) ^ k ≤ 10 ^ 17 := Nat.pow_le_pow_right (by omega) (by omega)
      have hs := HS.out k hlt
      have hlt2 : k + 1 ≤ ds.length := hlt
      obtain ⟨v', hv'⟩ : ∃ v', v' = valD (ds.take (k + 1)) := ⟨_, rfl⟩
      have HV' := Aside0.mk hv'
      rw [← hv'] at hs
      clear hv'
      generalize valD (ds.take k) = v at *
      generalize ds[k] = c at *
      obtain ⟨hc0, hc1⟩ := hc
      have hv17 : v < 100000000000000000 := by omega
      have d1 : decide ((48 : Int) ≤ (c.toNat : Int)) = true := decide_eq_true (by omega)
      have d2 : decide ((c.toNat : Int) ≤ (57 : Int)) = true := decide_eq_true (by omega)
      clear hp hv
      go_wp2
      go_round
      case rel => exact ⟨k + 1, hlt2, by go_num, by rw [← HV'.out, hs]; congr 1; omega⟩
      case measure => simp [intOf]; omega
    · obtain rfl : k = ds.length := by omega
      rw [List.take_length]
      have hvm := HVm.out
      obtain ⟨v, hv⟩ : ∃ v, v = valD ds := ⟨_, rfl⟩
      have HVv := Aside0.mk hv
      rw [← hv] at hvm ⊢
      clear HV HS HV1 hv
      go_wp2
      go_ret2
      exact ⟨by rw [← HVv.out]; rfl, rfl⟩
end Go.Proofs.YtdldblfklalaeaaGreatDoor
namespace Go.Proofs.YtdldblfklalaeaaGreatDoor
open Go.RowKit Go.Proofs.YtdldblfklalaeaaGreatDoorW.PrintWords Go.ChangeShapes Go.WideShapes
set_option linter.unusedVariables false
set_option linter.unusedSimpArgs false
set_option maxRecDepth 100000
/-- What strconv.ParseInt answers. -/
def RetP (r : Option Int) (e : Ending) : Prop :=
  match r with
  | some v => e = .returned (.tuple #[.int .i64 v, .nilIface])
  | none => ∃ z T x, e = .returned (.tuple #[.int .i64 z, .iface T x])
/-- What ParseInt64 answers. -/
def RetI (r : Option Int) (e : Ending) : Prop :=
  match r with
  | some v => e = .returned (.tuple #[.int .i64 v, .nilIface])
  | none => ∃ T x, e = .returned (.tuple #[.int .i64 0, .iface T x])
set_option maxHeartbeats 4000000 in
theorem pint_plain_long (w : World) (ds : Bs) (h : DigS ds) (hl : 19 ≤ ds.length + 0) (hm : ds.length ≤ 1000) (r : Option Int) (HP0 : Calls Tryz.prog 117 #[.string (bStr (ds)), .int .i64 10, .int .i64 64] w fun e w' => RetP r e ∧ Below w.heap.size w w') :
    Calls Tryz.prog 104 #[.string (bStr (ds))] w fun e w' => RetI r e ∧ Below w.heap.size w w' := by
  have hpos := h.pos
  have HP := Aside0.mk HP0
  clear HP0
  have HV := Aside0.mk (valD_lt h.all)
  have HS := Aside0.mk (valD_take ds)
  have HA := Aside0.mk h.all
  obtain ⟨s, hs⟩ : ∃ s, s = (ds : Bs) := ⟨_, rfl⟩
  have hsl : s.length = ds.length + 0 := by rw [hs]; simp
  have HG : Aside0 (∀ k, (hk : k < ds.length) → s[k + 0]'(by omega) = ds[k]) := ⟨fun k hk => by subst hs; simp⟩
  skip
  obtain ⟨t, ht0⟩ : ∃ t, t = bStr (ds) := ⟨_, rfl⟩
  rw [← ht0] at HP ⊢
  have ht : t = bStr s := by rw [hs]; exact ht0
  clear ht0
  have HT := Aside0.mk ht
  have hsz : t.size = ds.length + 0 := by rw [ht, bStr_size, hsl]
  have HV1 := Aside0.mk (valD_lt h.all ds.length (Nat.le_refl _))
  have t0 : ∀ h : 0 < t.size, (t[0]'h).toNat ≠ 45 := fun h => by
    have e := tget ht 0 h (by omega)
    rw [e]
    subst hs
    have := HA.out s[0] (List.getElem_mem hpos)
    omega
  have hne : (ds = []) = False := eq_false (fun e => by rw [e] at hpos; exact absurd hpos (by decide))
  clear ht hs h
  have t1 : ∀ h : 0 < t.size, ((((t[0]'h).toNat : Nat) : Int) == 45) = false := fun h => by
    have := t0 h
    simp
    omega
  go_enter Tryz.func104, Tryz.ntmps104
  go_wp2
  go_loop [4, 6] (fun i d => ∃ k : Nat, k ≤ ds.length ∧ k ≤ 18 ∧ i = .int .u64 ((k : Nat) : Int) ∧ d = .int .i64 ((valD (ds.take k) : Nat) : Int)) (fun i d => ds.length + 0 - (intOf i).toNat)
  case atStart => exact ⟨0, Nat.zero_le _, by omega, rfl, rfl⟩
  case round =>
    obtain ⟨k, hk, hk18, rfl, rfl⟩ := hrel
    by_cases hlt : k < ds.length
    · have hkt : k < t.size := by omega
      have tk : t[k]'hkt = ds[k] := (tget HT.out (k) hkt (by omega)).trans (HG.out k hlt)
      have hc := HA.out ds[k] (List.getElem_mem hlt)
      have hv := HV.out k hk
      have hs := HS.out k hlt
      have hlt2 : k + 1 ≤ ds.length := hlt
      obtain ⟨v', hv'⟩ : ∃ v', v' = valD (ds.take (k + 1)) := ⟨_, rfl⟩
      have HV' := Aside0.mk hv'
      rw [← hv'] at hs
      clear hv'
      generalize valD (ds.take k) = v at *
      generalize ds[k] = c at *
      obtain ⟨hc0, hc1⟩ := hc
      have d1 : decide ((48 : Int) ≤ (c.toNat : Int)) = true := decide_eq_true (by omega)
      have d2 : decide ((c.toNat : Int) ≤ (57 : Int)) = true := decide_eq_true (by omega)
      by_cases h18 : k = 18
      · obtain rfl : k = 18 := by omega
        replace tk : t[18]'hkt = c := tk
        clear hv hs HV' hlt2
        go_wp2_with fail
        refine HP.out.mono ?_
        cases r with
        | some v2 =>
          rintro e w2 ⟨rfl, hb⟩
          have HB := Aside0.mk hb
          clear hb
          go_wp2
          go_ret2
          exact ⟨rfl, HB.out⟩
        | none =>
          rintro e w2 ⟨⟨z, T, x, rfl⟩, hb⟩
          have HB := Aside0.mk hb
          clear hb
          go_wp2
          go_ret2
          exact ⟨⟨_, _, rfl⟩, HB.out⟩
      · have hk17 : k < 18 := by omega
        have hp : (10 : Nat) ^ k ≤ 10 ^ 17 := Nat.pow_le_pow_right (by omega) (by omega)
        have hv17 : v < 100000000000000000 := by omega
        clear hp hv h18
        go_wp2
        go_round
        case rel => exact ⟨k + 1, hlt2, by omega, by go_num, by rw [← HV'.out, hs]; congr 1; omega⟩
        case measure => simp [intOf]; omega
    · exfalso
      omega
set_option maxHeartbeats 4000000 in
theorem pint_minus_long (w : World) (ds : Bs) (h : DigS ds) (hl : 19 ≤ ds.length + 1) (hm : ds.length ≤ 1000) (r : Option Int) (HP0 : Calls Tryz.prog 117 #[.string (bStr (45 :: ds)), .int .i64 10, .int .i64 64] w fun e w' => RetP r e ∧ Below w.heap.size w w') :
    Calls Tryz.prog 104 #[.string (bStr (45 :: ds))] w fun e w' => RetI r e ∧ Below w.heap.size w w' := by
  have hpos := h.pos
  have HP := Aside0.mk HP0
  clear HP0
  have HV := Aside0.mk (valD_lt h.all)
  have HS := Aside0.mk (valD_take ds)
  have HA := Aside0.mk h.all
  obtain ⟨s, hs⟩ : ∃ s, s = (45 :: ds : Bs) := ⟨_, rfl⟩
  have hsl : s.length = ds.length + 1 := by rw [hs]; simp
  have HG : Aside0 (∀ k, (hk : k < ds.length) → s[k + 1]'(by omega) = ds[k]) := ⟨fun k hk => by subst hs; simp⟩
  skip
  obtain ⟨t, ht0⟩ : ∃ t, t = bStr (45 :: ds) := ⟨_, rfl⟩
  rw [← ht0] at HP ⊢
  have ht : t = bStr s := by rw [hs]; exact ht0
  clear ht0
  have HT := Aside0.mk ht
  have hsz : t.size = ds.length + 1 := by rw [ht, bStr_size, hsl]
  have HV1 := Aside0.mk (valD_lt h.all ds.length (Nat.le_refl _))
  have t0 : ∀ h : 0 < t.size, (t[0]'h).toNat = 45 := fun h => by
    have e := tget ht 0 h (by omega)
    rw [e]
    subst hs
    rfl
  have hne : (ds = []) = False := eq_false (fun e => by rw [e] at hpos; exact absurd hpos (by decide))
  clear ht hs h
  have t1 : ∀ h : 0 < t.size, ((((t[0]'h).toNat : Nat) : Int) == 45) = true := fun h => by
    have := t0 h
    simp
    omega
  go_enter Tryz.func104, Tryz.ntmps104
  go_wp2
  go_loop [4, 6] (fun i d => ∃ k : Nat, k ≤ ds.length ∧ k + 1 ≤ 18 ∧ i = .int .u64 ((k + 1 : Nat) : Int) ∧ d = .int .i64 ((valD (ds.take k) : Nat) : Int)) (fun i d => ds.length + 1 - (intOf i).toNat)
  case atStart => exact ⟨0, Nat.zero_le _, by omega, rfl, rfl⟩
  case round =>
    obtain ⟨k, hk, hk18, rfl, rfl⟩ := hrel
    by_cases hlt : k < ds.length
    · have hkt : k + 1 < t.size := by omega
      have tk : t[k + 1]'hkt = ds[k] := (tget HT.out (k + 1) hkt (by omega)).trans (HG.out k hlt)
      have hc := HA.out ds[k] (List.getElem_mem hlt)
      have hv := HV.out k hk
      have hs := HS.out k hlt
      have hlt2 : k + 1 ≤ ds.length := hlt
      obtain ⟨v', hv'⟩ : ∃ v', v' = valD (ds.take (k + 1)) := ⟨_, rfl⟩
      have HV' := Aside0.mk hv'
      rw [← hv'] at hs
      clear hv'
      generalize valD (ds.take k) = v at *
      generalize ds[k] = c at *
      obtain ⟨hc0, hc1⟩ := hc
      have d1 : decide ((48 : Int) ≤ (c.toNat : Int)) = true := decide_eq_true (by omega)
      have d2 : decide ((c.toNat : Int) ≤ (57 : Int)) = true := decide_eq_true (by omega)
      by_cases h18 : k + 1 = 18
      · obtain rfl : k = 17 := by omega
        replace tk : t[18]'hkt = c := tk
        clear hv hs HV' hlt2
        go_wp2_with fail
        refine HP.out.mono ?_
        cases r with
        | some v2 =>
          rintro e w2 ⟨rfl, hb⟩
          have HB := Aside0.mk hb
          clear hb
          go_wp2
          go_ret2
          exact ⟨rfl, HB.out⟩
        | none =>
          rintro e w2 ⟨⟨z, T, x, rfl⟩, hb⟩
          have HB := Aside0.mk hb
          clear hb
          go_wp2
          go_ret2
          exact ⟨⟨_, _, rfl⟩, HB.out⟩
      · have hk17 : k + 1 < 18 := by omega
        have hp : (10 : Nat) ^ k ≤ 10 ^ 17 := Nat.pow_le_pow_right (by omega) (by omega)
        have hv17 : v < 100000000000000000 := by omega
        clear hp hv h18
        go_wp2
        go_round
        case rel => exact ⟨k + 1, hlt2, by omega, by go_num, by rw [← HV'.out, hs]; congr 1; omega⟩
        case measure => simp [intOf]; omega
    · exfalso
      omega
end Go.Proofs.YtdldblfklalaeaaGreatDoor
namespace Go.Proofs.YtdldblfklalaeaaGreatDoor
open Go.RowKit Go.Shelf Go.Lib
set_option linter.unusedVariables false
def piRen : Go.Shelf.Ren := ⟨fun | 174 => 117 | 247 => 138 | 245 => 123 | 287 => 144 | 279 => 140 | 280 => 141 | 281 => 142 | 282 => 143 | 321 => 151 | 322 => 152 | 316 => 149 | 171 => 150 | 205 => 100 | 243 => 153 | 246 => 154 | 283 => 155 | 284 => 156 | 285 => 157 | 286 => 158 | 129 => 160 | 317 => 159 | 318 => 161 | 319 => 162 | 320 => 163 | 337 => 164 | 338 => 165 | n => n, fun | 9 => 9 | 3 => 3 | 2 => 2 | 75 => 81 | 85 => 99 | 4 => 4 | 167 => 221 | 5 => 5 | 53 => 22 | 175 => 209 | 46 => 118 | 168 => 222 | 37 => 30 | 0 => 0 | 210 => 227 | 21 => 21 | 127 => 230 | 145 => 197 | 143 => 195 | 171 => 232 | 173 => 235 | 212 => 238 | 51 => 157 | 20 => 20 | 213 => 239 | 232 => 110 | 233 => 218 | 80 => 78 | n => n, fun | 15 => 4 | 16 => 5 | 17 => 6 | 18 => 7 | 19 => 8 | n => n⟩
set_option maxRecDepth 100000 in
theorem piLays : LaysC.n174 Tryz.prog piRen :=
  { mixed := by kernel_rfl
    f129 := Tryz.func160.trans (congrArg some (by kernel_rfl))
    f171 := Tryz.func150.trans (congrArg some (by kernel_rfl))
    f174 := Tryz.func117.trans (congrArg some (by kernel_rfl))
    f205 := Tryz.func100.trans (congrArg some (by kernel_rfl))
    f243 := Tryz.func153.trans (congrArg some (by kernel_rfl))
    f245 := Tryz.func123.trans (congrArg some (by kernel_rfl))
    f246 := Tryz.func154.trans (congrArg some (by kernel_rfl))
    f247 := Tryz.func138.trans (congrArg some (by kernel_rfl))
    f279 := Tryz.func140.trans (congrArg some (by kernel_rfl))
    f280 := Tryz.func141.trans (congrArg some (by kernel_rfl))
    f281 := Tryz.func142.trans (congrArg some (by kernel_rfl))
    f282 := Tryz.func143.trans (congrArg some (by kernel_rfl))
    f283 := Tryz.func155.trans (congrArg some (by kernel_rfl))
    f284 := Tryz.func156.trans (congrArg some (by kernel_rfl))
    f285 := Tryz.func157.trans (congrArg some (by kernel_rfl))
    f286 := Tryz.func158.trans (congrArg some (by kernel_rfl))
    f287 := Tryz.func144.trans (congrArg some (by kernel_rfl))
    f316 := Tryz.func149.trans (congrArg some (by kernel_rfl))
    f317 := Tryz.func159.trans (congrArg some (by kernel_rfl))
    f318 := Tryz.func161.trans (congrArg some (by kernel_rfl))
    f319 := Tryz.func162.trans (congrArg some (by kernel_rfl))
    f320 := Tryz.func163.trans (congrArg some (by kernel_rfl))
    f321 := Tryz.func151.trans (congrArg some (by kernel_rfl))
    f322 := Tryz.func152.trans (congrArg some (by kernel_rfl))
    f337 := Tryz.func164.trans (congrArg some (by kernel_rfl))
    f338 := Tryz.func165.trans (congrArg some (by kernel_rfl))
    t0 := Tryz.underlying0
    a0 := Tryz.isAgg0
    z0 := Tryz.sizeOf0
    v0 := Tryz.zeroValue0
    t2 := Tryz.underlying2
    a2 := Tryz.isAgg2
    z2 := Tryz.sizeOf2
    v2 := Tryz.zeroValue2
    t3 := Tryz.underlying3
    a3 := Tryz.isAgg3
    z3 := Tryz.sizeOf3
    v3 := Tryz.zeroValue3
    t4 := Tryz.underlying4
    a4 := Tryz.isAgg4
    z4 := Tryz.sizeOf4
    v4 := Tryz.zeroValue4
    t5 := Tryz.underlying5
    a5 := Tryz.isAgg5
    z5 := Tryz.sizeOf5
    v5 := Tryz.zeroValue5
    t9 := Tryz.underlying9
    a9 := Tryz.isAgg9
    z9 := Tryz.sizeOf9
    v9 := Tryz.zeroValue9
    t20 := Tryz.underlying20
    a20 := Tryz.isAgg20
    z20 := Tryz.sizeOf20
    v20 := Tryz.zeroValue20
    t21 := Tryz.underlying21
    a21 := Tryz.isAgg21
    z21 := Tryz.sizeOf21
    v21 := Tryz.zeroValue21
    t37 := Tryz.underlying30
    a37 := Tryz.isAgg30
    z37 := Tryz.sizeOf30
    v37 := Tryz.zeroValue30
    t46 := Tryz.underlying118
    a46 := Tryz.isAgg118
    z46 := Tryz.sizeOf118
    v46 := Tryz.zeroValue118
    t51 := Tryz.underlying157
    a51 := Tryz.isAgg157
    z51 := Tryz.sizeOf157
    v51 := Tryz.zeroValue157
    t53 := Tryz.underlying22
    a53 := Tryz.isAgg22
    z53 := Tryz.sizeOf22
    v53 := Tryz.zeroValue22
    t75 := Tryz.underlying81
    a75 := Tryz.isAgg81
    z75 := Tryz.sizeOf81
    v75 := Tryz.zeroValue81
    t85 := Tryz.underlying99
    a85 := Tryz.isAgg99
    z85 := Tryz.sizeOf99
    v85 := Tryz.zeroValue99
    t127 := Tryz.underlying230
    a127 := Tryz.isAgg230
    z127 := Tryz.sizeOf230
    v127 := Tryz.zeroValue230
    t143 := Tryz.underlying195
    a143 := Tryz.isAgg195
    z143 := Tryz.sizeOf195
    v143 := Tryz.zeroValue195
    t145 := Tryz.underlying197
    a145 := Tryz.isAgg197
    z145 := Tryz.sizeOf197
    v145 := Tryz.zeroValue197
    t167 := Tryz.underlying221
    a167 := Tryz.isAgg221
    z167 := Tryz.sizeOf221
    v167 := Tryz.zeroValue221
    t168 := Tryz.underlying222
    a168 := Tryz.isAgg222
    z168 := Tryz.sizeOf222
    v168 := Tryz.zeroValue222
    t171 := Tryz.underlying232
    a171 := Tryz.isAgg232
    z171 := Tryz.sizeOf232
    v171 := Tryz.zeroValue232
    t173 := Tryz.underlying235
    a173 := Tryz.isAgg235
    z173 := Tryz.sizeOf235
    v173 := Tryz.zeroValue235
    t175 := Tryz.underlying209
    a175 := Tryz.isAgg209
    z175 := Tryz.sizeOf209
    v175 := Tryz.zeroValue209
    t210 := Tryz.underlying227
    a210 := Tryz.isAgg227
    z210 := Tryz.sizeOf227
    v210 := Tryz.zeroValue227
    t212 := Tryz.underlying238
    a212 := Tryz.isAgg238
    z212 := Tryz.sizeOf238
    v212 := Tryz.zeroValue238
    t213 := Tryz.underlying239
    a213 := Tryz.isAgg239
    z213 := Tryz.sizeOf239
    t232 := Tryz.underlying110
    a232 := Tryz.isAgg110
    z232 := Tryz.sizeOf110
    v232 := Tryz.zeroValue110
    t233 := Tryz.underlying218
    a233 := Tryz.isAgg218
    z233 := Tryz.sizeOf218
    v233 := Tryz.zeroValue218
    g15 := by kernel_rfl
    g16 := by kernel_rfl
    g17 := by kernel_rfl
    g18 := by kernel_rfl
    g19 := by kernel_rfl
    t80 := Tryz.underlying78
    a80 := Tryz.isAgg78
    z80 := Tryz.sizeOf78
    v80 := Tryz.zeroValue78
    i0 := by kernel_rfl
    i2 := by kernel_rfl
    i3 := by kernel_rfl
    i4 := by kernel_rfl
    i5 := by kernel_rfl
    i9 := by kernel_rfl
    i20 := by kernel_rfl
    i21 := by kernel_rfl
    i37 := by kernel_rfl
    i46 := by kernel_rfl
    i51 := by kernel_rfl
    i53 := by kernel_rfl
    i75 := by kernel_rfl
    i80 := by kernel_rfl
    i85 := by kernel_rfl
    i127 := by kernel_rfl
    i143 := by kernel_rfl
    i145 := by kernel_rfl
    i167 := by kernel_rfl
    i168 := by kernel_rfl
    i171 := by kernel_rfl
    i173 := by kernel_rfl
    i175 := by kernel_rfl
    i210 := by kernel_rfl
    i212 := by kernel_rfl
    i232 := by kernel_rfl
    i233 := by kernel_rfl
    m15 := by kernel_rfl
    m16 := by kernel_rfl
    m17 := by kernel_rfl
    m18 := by kernel_rfl
    m19 := by kernel_rfl
    c0 := by kernel_rfl
    c2 := by kernel_rfl
    c3 := by kernel_rfl
    c4 := by kernel_rfl
    c5 := by kernel_rfl
    c9 := by kernel_rfl
    c20 := by kernel_rfl
    c21 := by kernel_rfl
    c37 := by kernel_rfl
    c46 := by kernel_rfl
    c51 := by kernel_rfl
    c53 := by kernel_rfl
    c75 := by kernel_rfl
    c80 := by kernel_rfl
    c85 := by kernel_rfl
    c127 := by kernel_rfl
    c143 := by kernel_rfl
    c145 := by kernel_rfl
    c167 := by kernel_rfl
    c168 := by kernel_rfl
    c171 := by kernel_rfl
    c173 := by kernel_rfl
    c175 := by kernel_rfl
    c210 := by kernel_rfl
    c212 := by kernel_rfl
    c213 := by kernel_rfl
    c232 := by kernel_rfl
    c233 := by kernel_rfl }
end Go.Proofs.YtdldblfklalaeaaGreatDoor
namespace Go.Proofs.YtdldblfklalaeaaGreatDoor
open Go.RowKit Go.Proofs.YtdldblfklalaeaaGreatDoorW.PrintWords Go.ChangeShapes Go.WideShapes
set_option linter.unusedVariables false
set_option linter.unusedSimpArgs false
set_option maxRecDepth 100000
theorem valD_snoc (ds : Bs) (c : UInt8) : valD (ds ++ [c]) = valD ds * 10 + (c.toNat - 48) := by
  unfold valD
  rw [List.foldl_append]
  rfl
theorem dig_toNat (d : Nat) (h : d < 10) : (UInt8.ofNat (48 + d)).toNat = 48 + d := by
  rw [UInt8.toNat_ofNat']
  omega
theorem digK_val : ∀ (k n : Nat), 0 < k → n < 10 ^ k → valD (digK k n) = n
  | 0, _, h, _ => absurd h (Nat.lt_irrefl _)
  | k + 1, n, _, h => by
    rw [digK]
    by_cases hn : n < 10
    · rw [if_pos hn]
      show 0 * 10 + ((UInt8.ofNat (48 + n)).toNat - 48) = n
      rw [dig_toNat n hn]
      omega
    · rw [if_neg hn, valD_snoc, dig_toNat _ (Nat.mod_lt _ (by decide))]
      have hk : 0 < k := by
        rcases Nat.eq_zero_or_pos k with rfl | h0
        · rw [Nat.zero_add, Nat.pow_one] at h; omega
        · exact h0
      rw [digK_val k (n / 10) hk (by rw [Nat.pow_succ] at h; omega)]
      omega
theorem digF_val (n : Nat) (h : n < 18446744073709551616) : valD (digF n) = n := digK_val 20 n (by decide) (Nat.lt_of_lt_of_le h (by decide))
theorem digF_digS (n : Nat) : DigS (digF n) where
  pos := by
    unfold digF
    rw [digK]
    split <;> simp
  all c hc := by
    have h := (digF_digits n).2 c hc
    rw [UInt8.le_iff_toNat_le, UInt8.le_iff_toNat_le] at h
    exact h
/-- Digits behind a number. -/
def valA (acc : Nat) (ds : Bs) : Nat := ds.foldl (fun a c => a * 10 + (c.toNat - 48)) acc
theorem valA_ge : ∀ (ds : Bs) (acc : Nat), acc ≤ valA acc ds
  | [], _ => Nat.le_refl _
  | c :: r, acc => by
    have := valA_ge r (acc * 10 + (c.toNat - 48))
    show acc ≤ valA (acc * 10 + (c.toNat - 48)) r
    omega
theorem parseM_ok : ∀ (ds : Bs) (acc : Nat), (∀ c ∈ ds, 48 ≤ c.toNat ∧ c.toNat ≤ 57) → valA acc ds ≤ 18446744073709551615 → Lib.parseUintM (2 ^ 64 - 1) acc ds = .ok (valA acc ds)
  | [], _, _, _ => rfl
  | c :: r, acc, hd, h => by
    have h1 := valA_ge r (acc * 10 + (c.toNat - 48))
    have h' : valA (acc * 10 + (c.toNat - 48)) r ≤ 18446744073709551615 := h
    rw [Lib.parseUintM, if_pos (hd c (List.mem_cons_self ..)), if_neg (by omega), if_neg (by rw [show (2 : Nat) ^ 64 - 1 = 18446744073709551615 from rfl]; omega)]
    exact parseM_ok r _ (fun c hc => hd c (List.mem_cons_of_mem _ hc)) h'
theorem parseU_num (n : Nat) (h : n < 18446744073709551616) : Lib.parseUintB 64 (digF n) = .ok n := by
  have hp := (digF_digS n).pos
  unfold Lib.parseUintB
  rw [if_neg (fun e => by rw [e] at hp; exact absurd hp (by decide))]
  have hv : valA 0 (digF n) = n := digF_val n h
  rw [parseM_ok (digF n) 0 (digF_digS n).all (by rw [hv]; omega), hv]
/-- What a number's text is as a number with a sign, if it fits. -/
def intR (neg : Bool) (n : Nat) : Option Int := if neg = true then (if n ≤ 9223372036854775808 then some (-(n : Int)) else none) else (if n < 9223372036854775808 then some (n : Int) else none)
def sgn (neg : Bool) : Bs := if neg = true then [45] else []
theorem parseI_num (neg : Bool) (n : Nat) (h : n < 18446744073709551616) : Lib.parseIntB 64 (sgn neg ++ digF n) = match intR neg n with | some v => .ok v | none => .range := by
  cases neg with
  | true =>
    show Lib.parseIntB 64 (45 :: digF n) = _
    unfold Lib.parseIntB
    simp only [show (45 : UInt8).toNat = 45 from rfl, or_true, if_true, parseU_num n h, not_true_eq_false, false_and, if_false, true_and]
    unfold intR
    rw [if_pos rfl]
    by_cases hn : n ≤ 9223372036854775808
    · rw [if_pos hn, if_neg (by rw [show (2 : Nat) ^ (64 - 1) = 9223372036854775808 from rfl]; omega)]
    · rw [if_neg hn, if_pos (by rw [show (2 : Nat) ^ (64 - 1) = 9223372036854775808 from rfl]; omega)]
  | false =>
    show Lib.parseIntB 64 (digF n) = _
    have hd := digF_digS n
    have hu := parseU_num n h
    generalize digF n = ds at *
    cases ds with
    | nil => exact absurd hd.pos (by decide)
    | cons c r =>
      have hc := hd.all c (List.mem_cons_self ..)
      rw [show intR false n = (if n < 9223372036854775808 then some (n : Int) else none) from if_neg (by decide)]
      unfold Lib.parseIntB
      have e1 : ¬ c.toNat = 43 := by omega
      have e2 : ¬ c.toNat = 45 := by omega
      simp only [e1, e2, or_self, if_false, hu, not_false_eq_true, true_and, false_and]
      by_cases hn : n < 9223372036854775808
      · rw [if_pos hn, if_neg (by rw [show (2 : Nat) ^ (64 - 1) = 9223372036854775808 from rfl]; omega)]
      · rw [if_neg hn, if_pos (by rw [show (2 : Nat) ^ (64 - 1) = 9223372036854775808 from rfl]; omega)]
/-- Where the library's two errors lie. -/
def ErrCell (w : World) : Prop := ∃ te pe, w.cell? ⟨piRen.g 16, 0, none⟩ = some (.iface te pe)
theorem ErrCell.on {w w' : World} (h : ErrCell w) (hb : Below w.heap.size w w') : ErrCell w' := by
  obtain ⟨te, pe, h⟩ := h
  exact ⟨te, pe, (hb.cell (cell_lt h)).trans h⟩
theorem parseInt_any (w : World) (neg : Bool) (n : Nat) (hn : n < 18446744073709551616) (hE : ErrCell w) :
    Calls Tryz.prog 117 #[.string (bStr (sgn neg ++ digF n)), .int .i64 10, .int .i64 64] w fun e w' => RetP (intR neg n) e ∧ Below w.heap.size w w' := by
  have hp := parseI_num neg n hn
  have hsz : (bStr (sgn neg ++ digF n)).size ≤ 21 := by
    rw [bStr_size, List.length_append]
    have := digF_len n
    cases neg <;> simp [sgn] <;> omega
  rw [← bStr_list (sgn neg ++ digF n)] at hp
  cases hr : intR neg n with
  | some v =>
    rw [hr] at hp
    refine (Go.Proofs.Any.strconv_ParseInt_10_at64_ok piLays _ (by omega) v hp w).mono ?_
    rintro e w' ⟨rfl, hw⟩
    refine ⟨rfl, ?_⟩
    rcases hw with rfl | ⟨t, rfl⟩
    · exact Below.refl _ _
    · exact (Below.refl w.heap.size w).grown (row := none) ⟨rfl, rfl, rfl, by rw [Lib.bytesWorld_size]; omega, fun k hk _ => Lib.bytesWorld_at_old w _ t k hk⟩ (Nat.le_refl _) (fun k h => by cases h)
  | none =>
    rw [hr] at hp
    obtain ⟨te, pe, hc⟩ := hE
    refine (Go.Proofs.Any.strconv_ParseInt_10_at64_range piLays _ (by omega) hp _ w hc (.inr ⟨te, pe, rfl⟩)).mono ?_
    rintro e w' ⟨N, rfl, _, _, hb⟩
    exact ⟨⟨_, _, _, rfl⟩, hb⟩
/-- fastfloat.ParseInt64 of a number's text. -/
theorem pint_any (w : World) (neg : Bool) (n : Nat) (hn : n < 18446744073709551616) (hE : ErrCell w) :
    Calls Tryz.prog 104 #[.string (bStr (sgn neg ++ digF n))] w fun e w' => RetI (intR neg n) e ∧ Below w.heap.size w w' := by
  have hd := digF_digS n
  have hl := digF_len n
  have hv := digF_val n hn
  have hP := parseInt_any w neg n hn hE
  have hlt : ∀ k, (digF n).length ≤ k → n < 10 ^ k := fun k hk => by
    have h1 := valD_lt hd.all (digF n).length (Nat.le_refl _)
    rw [List.take_length, hv] at h1
    exact Nat.lt_of_lt_of_le h1 (Nat.pow_le_pow_right (by decide) hk)
  cases neg with
  | false =>
    by_cases h18 : (digF n).length + 0 ≤ 18
    · refine (pint_plain w (digF n) hd h18).mono ?_
      rintro e w' ⟨rfl, rfl⟩
      have h1 := hlt 18 h18
      rw [show intR false n = (if n < 9223372036854775808 then some (n : Int) else none) from if_neg (by decide), if_pos (by omega)]
      exact ⟨by rw [hv]; rfl, Below.refl _ _⟩
    · exact pint_plain_long w (digF n) hd (by omega) (by omega) _ hP
  | true =>
    by_cases h18 : (digF n).length + 1 ≤ 18
    · refine (pint_minus w (digF n) hd h18).mono ?_
      rintro e w' ⟨rfl, rfl⟩
      have h1 := hlt 17 (by omega)
      rw [show intR true n = (if n ≤ 9223372036854775808 then some (-(n : Int)) else none) from if_pos rfl, if_pos (by omega)]
      exact ⟨by rw [hv]; rfl, Below.refl _ _⟩
    · exact pint_minus_long w (digF n) hd (by omega) (by omega) _ hP
end Go.Proofs.YtdldblfklalaeaaGreatDoor
namespace Go.Proofs.YtdldblfklalaeaaGreatDoor
open Go.RowKit Go.Proofs.YtdldblfklalaeaaGreatDoorW.PrintWords Go.ChangeShapes Go.WideShapes
set_option linter.unusedVariables false
set_option linter.unusedSimpArgs false
set_option maxRecDepth 100000
/-- Is it a number that fits into 64 bits with a sign? -/
structure FitI (f : Hf) : Prop where
  kind : f.2.1 = 2
  le : f.2.2.2.2.1 ≤ 9223372036854775808
  top : f.2.2.2.2.1 = 9223372036854775808 → f.2.2.2.1 = true
/-- What the law looks for: the number, if it fits. -/
def IntIs (f : Hf) (r : Option Int) : Prop := (FitI f ∧ r = some (if f.2.2.2.1 = true then -f.2.2.2.2.1 else f.2.2.2.2.1)) ∨ (¬ FitI f ∧ r = none)
set_option maxHeartbeats 4000000 in
theorem headInt_any (w : World) (f : Hf) (A : Option Addr) (c : Nat) (hW : FWf f) :
    Calls Tryz.prog 45 #[.agg (hfCells f A c)] w fun e w' => (∃ r, IntIs f r ∧ e = .returned (.tuple #[.int .i64 (r.getD 0), .bool r.isSome])) ∧ Hold w w.heap.size w' [] := by
  have hu := Tryz.underlying45
  have H0 := Aside0.mk ((Hold.start w).alloc_ (.cells #[.string f.1, .int .u8 f.2.1, .bool f.2.2.1, .bool f.2.2.2.1, .int .u64 f.2.2.2.2.1, .string f.2.2.2.2.2.1, .slice A f.2.2.2.2.2.2.length c] 45))
  have hn0 := hW.n0
  have hn1 := hW.n1
  have HNo : Aside0 (¬ FitI f → IntIs f none) := ⟨fun h => .inr ⟨h, rfl⟩⟩
  have HYes : Aside0 (FitI f → IntIs f (some (if f.2.2.2.1 = true then -f.2.2.2.2.1 else f.2.2.2.2.1))) := ⟨fun h => .inl ⟨h, rfl⟩⟩
  have HMk : Aside0 (f.2.1 = 2 → f.2.2.2.2.1 ≤ 9223372036854775808 → (f.2.2.2.2.1 = 9223372036854775808 → f.2.2.2.1 = true) → FitI f) := ⟨fun a b c => ⟨a, b, c⟩⟩
  have HK : Aside0 (FitI f → f.2.1 = 2 ∧ f.2.2.2.2.1 ≤ 9223372036854775808 ∧ (f.2.2.2.2.1 = 9223372036854775808 → f.2.2.2.1 = true)) := ⟨fun h => ⟨h.kind, h.le, h.top⟩⟩
  unfold hfCells
  generalize f.2.2.2.1 = m at *
  generalize f.2.2.2.2.1 = v at *
  generalize f.2.1 = kd at *
  by_cases h1 : kd = 2
  · subst h1
    by_cases h2 : 9223372036854775808 < v
    · have HF := Aside0.mk (HNo.out (fun h => by have := (HK.out h).2.1; omega))
      have e2 : (9223372036854775808 < v) = True := eq_true h2
      clear h2 HNo HYes HMk HK hW
      go_enter Tryz.func45, Tryz.ntmps45
      go_wp2_with fail
      go_ret2
      exact ⟨⟨none, HF.out, rfl⟩, H0.out⟩
    · have e2 : (9223372036854775808 < v) = False := eq_false h2
      by_cases h3 : v = 9223372036854775808
      · have e3 : (v == 9223372036854775808) = true := by simpa using h3
        cases m with
        | true =>
          have HF := Aside0.mk (HYes.out (HMk.out rfl (by omega) (fun _ => rfl)))
          subst h3
          have hw : wrap64 (-wrap64 9223372036854775808) = -9223372036854775808 := by unfold wrap64; omega
          have HF2 : Aside0 (IntIs f (some (-9223372036854775808))) := ⟨HF.out⟩
          clear h2 HNo HYes HMk HK hW e3 e2 HF
          go_enter Tryz.func45, Tryz.ntmps45
          go_wp2_with fail
          go_ret2
          refine ⟨⟨some (-9223372036854775808), HF2.out, ?_⟩, H0.out⟩
          show Ending.returned (.tuple #[.int .i64 (wrap64 (-wrap64 9223372036854775808)), _]) = _
          rw [hw]
          rfl
        | false =>
          have HF := Aside0.mk (HNo.out (fun h => by have := (HK.out h).2.2 h3; cases this))
          subst h3
          clear h2 HNo HYes HMk HK hW e3 e2
          go_enter Tryz.func45, Tryz.ntmps45
          go_wp2_with fail
          go_ret2
          exact ⟨⟨none, HF.out, rfl⟩, H0.out⟩
      · have e3 : (v == 9223372036854775808) = false := by simpa using h3
        have HF := Aside0.mk (HYes.out (HMk.out rfl (by omega) (fun e => absurd e h3)))
        have hv2 : v < 9223372036854775808 := by omega
        clear h2 h3 HNo HYes HMk HK hW
        cases m with
        | true =>
          go_enter Tryz.func45, Tryz.ntmps45
          go_wp2_with fail
          go_ret2
          exact ⟨⟨_, HF.out, rfl⟩, H0.out⟩
        | false =>
          go_enter Tryz.func45, Tryz.ntmps45
          go_wp2_with fail
          go_ret2
          exact ⟨⟨_, HF.out, rfl⟩, H0.out⟩
  · have e1 : (kd != 2) = true := by simpa using h1
    have HF := Aside0.mk (HNo.out (fun h => h1 (HK.out h).1))
    clear h1 HNo HYes HMk HK hW
    go_enter Tryz.func45, Tryz.ntmps45
    go_wp2_with fail
    go_ret2
    exact ⟨⟨none, HF.out, rfl⟩, H0.out⟩
end Go.Proofs.YtdldblfklalaeaaGreatDoor
namespace Go.Proofs.YtdldblfklalaeaaGreatDoor
open Go.RowKit Go.Proofs.YtdldblfklalaeaaGreatDoorW.PrintWords Go.ChangeShapes Go.WideShapes
set_option linter.unusedVariables false
set_option linter.unusedSimpArgs false
set_option maxRecDepth 100000
theorem vint_yes (w : World) (b o : Nat) (neg : Bool) (n : Nat) (hn : n < 18446744073709551616) (hE : ErrCell w) (h3 : w.cell? ⟨b, o + 3, none⟩ = some (.string (bStr (sgn neg ++ digF n)))) (h4 : w.cell? ⟨b, o + 4, none⟩ = some (.int .i64 4)) :
    Calls Tryz.prog 87 #[.pointer (some ⟨b, o, none⟩)] w fun e w' => RetI (intR neg n) e ∧ Below w.heap.size w w' := by
  have HT := Aside0.mk (vtype_plain w b o 4 (by omega) h4)
  have HP := Aside0.mk (pint_any w neg n hn hE)
  obtain ⟨t, ht⟩ : ∃ t, t = bStr (sgn neg ++ digF n) := ⟨_, rfl⟩
  rw [← ht] at h3 HP
  obtain ⟨r, hr⟩ : ∃ r, r = intR neg n := ⟨_, rfl⟩
  rw [← hr] at HP ⊢
  clear h4 ht hr hn hE
  go_enter Tryz.func87, Tryz.ntmps87
  go_wp2_with fail
  refine HT.out.mono ?_
  rintro e w1 ⟨rfl, rfl⟩
  go_wp2_with fail
  refine HP.out.mono ?_
  cases r with
  | some v =>
    rintro e w2 ⟨rfl, hb⟩
    have HB := Aside0.mk hb
    clear hb
    go_wp2
    go_ret2
    exact ⟨rfl, HB.out⟩
  | none =>
    rintro e w2 ⟨⟨T, x, rfl⟩, hb⟩
    have HB := Aside0.mk hb
    clear hb
    go_wp2
    go_ret2
    exact ⟨⟨_, _, rfl⟩, HB.out⟩
theorem vint_no (w : World) (b o : Nat) (k : Int) (hk : k = 0 ∨ k = 1 ∨ k = 2 ∨ k = 3 ∨ k = 5 ∨ k = 6) (h4 : w.cell? ⟨b, o + 4, none⟩ = some (.int .i64 k)) :
    Calls Tryz.prog 87 #[.pointer (some ⟨b, o, none⟩)] w fun e w' => ∃ g, e = .returned (.tuple #[.int .i64 0, errP g]) ∧ Below w.heap.size w w' := by
  have HT := Aside0.mk (vtype_plain w b o k (by omega) h4)
  clear h4
  rcases hk with rfl | rfl | rfl | rfl | rfl | rfl
  all_goals
    go_enter Tryz.func87, Tryz.ntmps87
    go_wp2_with fail
    refine HT.out.mono ?_
    rintro e w1 ⟨rfl, rfl⟩
    go_wp2_with fail
    refine (errNew_b _ _).mono ?_
    rintro e w1 ⟨rfl, hE⟩
    have HE := Aside0.mk hE
    clear hE
    go_wp2
    go_ret2
    exact ⟨_, rfl, HE.out⟩
theorem vint_raw (w : World) (b o : Nat) (raw : Bs) (hT : blkT w b 174) (hl : raw.length ≤ 900000000000) (hw : Well raw) (h3 : w.cell? ⟨b, o + 3, none⟩ = some (.string (bStr raw))) (h4 : w.cell? ⟨b, o + 4, none⟩ = some (.int .i64 7)) :
    Calls Tryz.prog 87 #[.pointer (some ⟨b, o, none⟩)] w fun e w' => (∃ T x, e = .returned (.tuple #[.int .i64 0, .iface T x])) ∧ Upd w w' (TxtCells b o) := by
  have HTy := Aside0.mk (vtype_raw w b o raw hT hl hw h3 h4)
  obtain ⟨u, hu⟩ : ∃ u, u = bStr (unesc raw) := ⟨_, rfl⟩
  rw [← hu] at HTy
  clear h3 h4 hl hw hT hu
  go_enter Tryz.func87, Tryz.ntmps87
  go_wp2_with fail
  refine HTy.out.mono ?_
  rintro e w2 ⟨rfl, w1, hb, hw2⟩
  have HU : Aside0 (Upd w w2 (TxtCells b o)) := ⟨by
    rw [hw2]
    exact (Upd.of_below hb (TxtCells b o)).trans ((Upd.setCell w1 b (o + 3) _ (C := TxtCells b o) ⟨rfl, .inl rfl⟩).trans (Upd.setCell _ b (o + 4) _ (C := TxtCells b o) ⟨rfl, .inr rfl⟩) (fun _ _ _ h => h) (fun _ _ _ h => h)) (fun _ _ _ h => h) (fun _ _ _ h => h)⟩
  clear hb hw2
  go_wp2_with fail
  refine (errNew_b _ _).mono ?_
  rintro e w3 ⟨rfl, hE⟩
  have HE := Aside0.mk hE
  clear hE
  go_wp2
  go_ret2
  exact ⟨⟨_, _, rfl⟩, HU.out.trans (Upd.of_below HE.out (fun _ _ => False)) (fun _ _ _ h => h) (fun _ _ _ h => h.elim)⟩
/-- What a name finds, as a number. -/
def IntT (v : Option JV) (r : Option Int) : Prop := (∃ neg n, n < 18446744073709551616 ∧ v = some (.num (sgn neg ++ digF n)) ∧ r = intR neg n) ∨ ((∀ s, v ≠ some (.num s)) ∧ r = none)
structure ErrB (B : Nat) (w : World) : Prop where
  is : ErrCell w
  lt : piRen.g 16 < B
theorem ErrB.on {B : Nat} {w w' : World} (h : ErrB B w) (hb : Below B w w') : ErrB B w' := by
  obtain ⟨⟨te, pe, hc⟩, hl⟩ := h
  exact ⟨⟨te, pe, (hb.cell (p := ⟨piRen.g 16, 0, none⟩) hl).trans hc⟩, hl⟩
theorem hint_any (w : World) (g B : Nat) (t : Option JV) (key : Bs) (r : Option Int) (hH : HdrAt B w g t) (hB : B ≤ w.heap.size) (hf : FitO t) (hr : IntT (tGet t key) r) (hE : ErrB B w) :
    Calls Tryz.prog 63 #[hdrV g, .string (bStr key)] w fun e w' => RetI r e ∧ Below B w w' := by
  have HG := Aside0.mk (hget_any w g B t key hH hB hf)
  have HEr := Aside0.mk (fun w' (hb : Below B w w') => (hE.on hb).is)
  have HR := Aside0.mk hr
  obtain ⟨q, hq⟩ : ∃ q, q = tGet t key := ⟨_, rfl⟩
  rw [← hq] at HG HR
  obtain ⟨k, hk⟩ : ∃ k, k = bStr key := ⟨_, rfl⟩
  rw [← hk] at HG ⊢
  have HB0 := Aside0.mk hB
  clear hH hf hr hk hB hq hE
  go_enter Tryz.func63, Tryz.ntmps63
  go_wp2_with fail
  refine HG.out.mono ?_
  cases q with
  | none =>
    rintro e w1 ⟨⟨T, x, rfl⟩, hb⟩
    have HB := Aside0.mk hb
    obtain rfl : r = none := by
      rcases HR.out with ⟨_, _, _, h, _⟩ | ⟨_, h⟩
      · cases h
      · exact h
    clear hb
    go_wp2
    go_ret2
    exact ⟨⟨_, _, rfl⟩, HB.out⟩
  | some v =>
    rintro e w1 ⟨⟨b, o, rfl, hL, hfv⟩, hb⟩
    have HB := Aside0.mk hb
    have HBs : Aside0 (B ≤ w1.heap.size) := ⟨Nat.le_trans HB0.out hb.size⟩
    have hE1 := HEr.out w1 hb
    clear hb
    rcases HR.out with ⟨neg, n, hn, hv, hrr⟩ | ⟨hv, rfl⟩
    · injection hv with hv
      subst hv
      cases hL with
      | num hT al h3 h4 =>
        have HY := Aside0.mk (vint_yes w1 b o neg n hn hE1 h3 h4)
        rw [← hrr] at HY
        clear hT al h3 h4 hfv hrr hn hE1 HR
        go_wp2_with fail
        refine HY.out.mono ?_
        cases r with
        | some v =>
          rintro e w2 ⟨rfl, hb2⟩
          have HB2 := Aside0.mk hb2
          clear hb2
          go_wp2
          go_ret2
          exact ⟨rfl, HB.out.trans (HB2.out.mono HBs.out)⟩
        | none =>
          rintro e w2 ⟨⟨T, x, rfl⟩, hb2⟩
          have HB2 := Aside0.mk hb2
          clear hb2
          go_wp2
          go_ret2
          exact ⟨⟨_, _, rfl⟩, HB.out.trans (HB2.out.mono HBs.out)⟩
    · have hcase : (∃ k : Int, (k = 0 ∨ k = 1 ∨ k = 2 ∨ k = 3 ∨ k = 5 ∨ k = 6) ∧ w1.cell? ⟨b, o + 4, none⟩ = some (.int .i64 k)) ∨ (∃ raw, B ≤ b ∧ blkT w1 b 174 ∧ raw.length ≤ 900000000000 ∧ Well raw ∧ w1.cell? ⟨b, o + 3, none⟩ = some (.string (bStr raw)) ∧ w1.cell? ⟨b, o + 4, none⟩ = some (.int .i64 7)) := by
        cases hL with
        | @str _ _ raw hB1 hT _ hStr =>
          rcases hStr with ⟨h3, h4⟩ | ⟨_, h4⟩
          · exact .inr ⟨raw, hB1, hT, hfv.2, hfv.1, h3, h4⟩
          · exact .inl ⟨3, by omega, h4⟩
        | num _ _ _ h4 => exact absurd rfl (hv _)
        | tru _ _ h4 => exact .inl ⟨5, by omega, h4⟩
        | fls _ _ h4 => exact .inl ⟨6, by omega, h4⟩
        | nul _ _ h4 => exact .inl ⟨0, by omega, h4⟩
        | arr _ _ h4 => exact .inl ⟨2, by omega, h4⟩
        | obj _ _ h4 => exact .inl ⟨1, by omega, h4⟩
      clear hL hfv hv hE1
      rcases hcase with ⟨k4, hk4, h4⟩ | ⟨raw, hB1, hT, hl, hw, h3, h4⟩
      · have HN := Aside0.mk (vint_no w1 b o k4 hk4 h4)
        clear hk4 h4
        go_wp2_with fail
        refine HN.out.mono ?_
        rintro e w2 ⟨g2, rfl, hb2⟩
        have HB2 := Aside0.mk hb2
        clear hb2
        unfold errP
        go_wp2
        go_ret2
        exact ⟨⟨_, _, rfl⟩, HB.out.trans (HB2.out.mono HBs.out)⟩
      · have HN := Aside0.mk (vint_raw w1 b o raw hT hl hw h3 h4)
        have HB1 := Aside0.mk hB1
        clear hT hl hw h3 h4 hB1
        go_wp2_with fail
        refine HN.out.mono ?_
        rintro e w2 ⟨⟨T, x, rfl⟩, hU⟩
        have HU := Aside0.mk hU
        clear hU
        go_wp2
        go_ret2
        exact ⟨⟨_, _, rfl⟩, HB.out.trans (HU.out.below B HBs.out (fun b' o' hb' hh => by have := hh.1; have := HB1.out; omega))⟩
end Go.Proofs.YtdldblfklalaeaaGreatDoor
namespace Go.Proofs.YtdldblfklalaeaaGreatDoor
open Go.RowKit
set_option linter.unusedVariables false
set_option linter.unusedSimpArgs false
set_option maxRecDepth 100000
theorem int_told {l : List Hf} {x : Nat} (hg : l.length ≤ 30 ∧ (∀ f ∈ l, FOk f) ∧ (l.map (·.1)).Nodup) {s : ByteArray} {f : Hf} {b : Bool} (h : FindIs l s f b) {r : Option Int} (hr : IntIs f r) :
    IntT (tGet (pTop (headF l x)) s.data.toList) (if b = true then r else none) := by
  obtain ⟨h1, h2, h3⟩ := head_told l x hg.2.1 hg.2.2
  rcases h with ⟨rfl, hm, rfl⟩ | ⟨rfl, rfl, hno⟩
  · rw [if_pos rfl]
    obtain ⟨v, hv, hi⟩ := h2 f hm
    have hok := hg.2.1 f hm
    rw [hv]
    unfold IsVal at hi
    by_cases hk : f.2.1 = 2
    · rw [if_neg (by omega), if_neg (by omega), if_pos hk] at hi
      have hn0 := hok.n0
      have hn1 := hok.n1
      refine .inl ⟨(f.2.2.2.1 && decide (0 < f.2.2.2.2.1)), f.2.2.2.2.1.toNat, by omega, by rw [hi]; rfl, ?_⟩
      have hz : ((f.2.2.2.2.1.toNat : Nat) : Int) = f.2.2.2.2.1 := Int.toNat_of_nonneg hn0
      rcases hr with ⟨hF, rfl⟩ | ⟨hF, rfl⟩
      · have hle := hF.le
        have htop := hF.top
        unfold intR
        cases hm2 : f.2.2.2.1 with
        | true =>
          rw [if_pos rfl, Bool.true_and]
          by_cases hp : 0 < f.2.2.2.2.1
          · rw [decide_eq_true hp, if_pos rfl, if_pos (by omega), hz]
          · rw [decide_eq_false hp, if_neg (by decide), if_pos (by omega), hz]
            congr 1
            omega
        | false =>
          have : f.2.2.2.2.1 ≠ 9223372036854775808 := fun e => by have := htop e; rw [hm2] at this; cases this
          rw [if_neg (by decide), Bool.false_and, if_neg (by decide), if_pos (by omega), hz]
      · unfold intR
        cases hm2 : f.2.2.2.1 with
        | true =>
          have hbig : 9223372036854775808 < f.2.2.2.2.1 := by
            rcases Int.lt_or_le 9223372036854775808 f.2.2.2.2.1 with h | h
            · exact h
            · exact absurd ⟨hk, h, fun _ => hm2⟩ hF
          rw [Bool.true_and, decide_eq_true (by omega), if_pos rfl, if_neg (by omega)]
        | false =>
          have hbig : 9223372036854775808 ≤ f.2.2.2.2.1 := by
            rcases Int.lt_or_le f.2.2.2.2.1 9223372036854775808 with h | h
            · exact absurd ⟨hk, by omega, fun e => by omega⟩ hF
            · exact h
          rw [Bool.false_and, if_neg (by decide), if_neg (by omega)]
    · refine .inr ⟨fun q => ?_, ?_⟩
      · by_cases k0 : f.2.1 = 0
        · rw [if_pos k0] at hi; subst hi; simp
        rw [if_neg k0] at hi
        by_cases k1 : f.2.1 = 1
        · rw [if_pos k1] at hi; subst hi; cases f.2.2.1 <;> simp
        rw [if_neg k1, if_neg hk] at hi
        by_cases k3 : f.2.1 = 3
        · rw [if_pos k3] at hi; obtain ⟨_, hh, _⟩ := hi; subst hh; simp
        rw [if_neg k3] at hi
        by_cases k5 : f.2.1 = 5
        · rw [if_pos k5] at hi; obtain ⟨_, hh⟩ := hi; subst hh; simp
        rw [if_neg k5] at hi
        obtain ⟨_, hh, _⟩ := hi
        subst hh
        simp
      · rcases hr with ⟨hF, _⟩ | ⟨_, rfl⟩
        · exact absurd hF.kind hk
        · rfl
  · rw [if_neg (by decide)]
    exact .inr ⟨fun q => by rw [h3 s hno]; simp, rfl⟩
end Go.Proofs.YtdldblfklalaeaaGreatDoor
