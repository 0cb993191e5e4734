/-
  bytes.LastIndexByte; the readers of a header that is no header: their contracts.
-/
import Derived.Test.YtdldblfklalaeaaGreatDoorLl
import Derived.Test.YtdldblfklalaeaaGreatDoorRe
import Derived.Test.YtdldblfklalaeaaGreatDoorQk
namespace Go.Proofs.YtdldblfklalaeaaGreatDoor
open Go.RowKit Go.Proofs.YtdldblfklalaeaaGreatDoorW.PrintWords Go.ChangeShapes Go.WideShapes
set_option linter.unusedVariables false
set_option linter.unusedSimpArgs false
set_option maxRecDepth 100000
theorem lastB_any (w : World) (A : Option Addr) (n c : Nat) (s : Bs) (ch : UInt8) (hC : kB.C w A n s) (hm : ch ∈ s) :
    Calls Tryz.prog 62 #[.slice A n c, .int .u8 (ch.toNat : Int)] w fun e w' => (∃ k : Nat, e = .returned (.int .i64 (k : Int)) ∧ s[k]? = some ch) ∧ w' = w := by
  obtain rfl := hC.1
  have hx : s.length ≤ 9223372036854775807 := hC.2.1
  have HC := Aside0.mk hC
  have HM := Aside0.mk hm
  clear hC hm
  go_enter Tryz.func62, Tryz.ntmps62
  go_wp2
  go_loopw [5] (fun i wr => wr = w ∧ ∃ k : Nat, k ≤ s.length ∧ i = .int .i64 ((k : Int) - 1) ∧ ∀ j, k ≤ j → s[j]? ≠ some ch) (fun i _ => (intOf i + 1).toNat)
  case atStart => exact ⟨rfl, s.length, Nat.le_refl _, by go_num, fun j hj h => by have := (List.getElem?_eq_some_iff.1 h).1; omega⟩
  case round =>
    obtain ⟨rfl, k, hk, rfl, hno⟩ := hrel
    cases k with
    | zero =>
      exfalso
      obtain ⟨j, hj, e⟩ := List.getElem_of_mem HM.out
      exact hno j (Nat.zero_le _) (by rw [List.getElem?_eq_getElem hj, e])
    | succ k =>
      have ek : ((k + 1 : Nat) : Int) - 1 = (k : Int) := by omega
      rw [ek]
      have hkl : k < s.length := hk
      obtain ⟨ad, rfl, ec⟩ := C1_get HC.out k hkl
      have hs : s[k]? = some s[k] := List.getElem?_eq_getElem hkl
      generalize s[k] = u at *
      replace ec : wr.cell? (ad.add k) = some (.int .u8 (u.toNat : Int)) := ec
      have hul := u.toNat_lt
      have hcl := ch.toNat_lt
      clear ek
      by_cases hu : u = ch
      · subst hu
        have HS := Aside0.mk hs
        clear hno hs
        go_wp2
        go_ret
        exact ⟨⟨k, rfl, HS.out⟩, rfl⟩
      · have hbe : ((u.toNat : Int) == (ch.toNat : Int)) = false := by
          rw [beq_eq_false_iff_ne]
          intro h
          exact hu (UInt8.toNat_inj.1 (by omega))
        have HN : Aside0 (∀ j, k ≤ j → s[j]? ≠ some ch) := ⟨fun j hj h => by
          rcases Nat.lt_or_ge k j with h2 | h2
          · exact hno j h2 h
          · obtain rfl : j = k := by omega
            rw [hs] at h
            injection h with h
            exact hu h⟩
        clear hno hs hu
        go_wp2
        go_roundw
        case rel => exact ⟨trivial, k, by omega, by go_num, HN.out⟩
        case measure => simp [intOf]
theorem lastI_any (w : World) (A : Option Addr) (n c : Nat) (s : Bs) (ch : UInt8) (hC : kB.C w A n s) (hm : ch ∈ s) :
    Calls Tryz.prog 23 #[.slice A n c, .int .u8 (ch.toNat : Int)] w fun e w' => (∃ k : Nat, e = .returned (.int .i64 (k : Int)) ∧ s[k]? = some ch) ∧ w' = w := by
  have HL := Aside0.mk (lastB_any w A n c s ch hC hm)
  obtain ⟨z, hz⟩ : ∃ z : Int, z = (ch.toNat : Int) := ⟨_, rfl⟩
  rw [← hz] at HL ⊢
  clear hC hm hz
  go_enter Tryz.func23, Tryz.ntmps23
  go_wp2_with fail
  refine HL.out.mono ?_
  rintro e w1 ⟨⟨k, rfl, hk⟩, rfl⟩
  have HK := Aside0.mk hk
  clear hk
  go_wp2
  go_ret
  exact ⟨⟨k, rfl, HK.out⟩, rfl⟩
theorem hint_none (w : World) (g B : Nat) (key : Bs) (hH : HdrAt B w g none) (hB : B ≤ w.heap.size) :
    Calls Tryz.prog 63 #[hdrV g, .string (bStr key)] w fun e w' => (∃ T x, e = .returned (.tuple #[.int .i64 0, .iface T x])) ∧ Below B w w' := by
  have HG := Aside0.mk (hget_any w g B none key hH hB (fun v h => by cases h))
  obtain ⟨k, hk⟩ : ∃ k, k = bStr key := ⟨_, rfl⟩
  rw [← hk] at HG ⊢
  clear hH hk hB
  go_enter Tryz.func63, Tryz.ntmps63
  go_wp2_with fail
  refine HG.out.mono ?_
  rintro e w1 ⟨⟨T, x, rfl⟩, hb⟩
  have HB := Aside0.mk hb
  clear hb
  go_wp2
  go_ret2
  exact ⟨⟨_, _, rfl⟩, HB.out⟩
theorem headInt64_none (s key : Bs) (w : World) (n c : Nat) (A : Option Addr) (hs : s.length ≤ 900000000000) (hn : n ≤ 900000000000) (hT : kB.C w A n s) (hp : pTop s = none) :
    Calls Tryz.prog 24 #[.slice A n c, .string (bStr key)] w fun e w' => e = .returned (.tuple #[.int .i64 0, .bool false]) ∧ Below w.heap.size w w' := by
  have HH := Aside0.mk (head_any s w n c A hs hn hT)
  rw [hp] at HH
  have HS := Aside0.mk (fun (w1 : World) (g : Nat) (h : HdrAt w.heap.size w1 g none) (hB : w.heap.size ≤ w1.heap.size) => hint_none w1 g w.heap.size key h hB)
  obtain ⟨k, hk⟩ : ∃ k, k = bStr key := ⟨_, rfl⟩
  rw [← hk] at HS ⊢
  clear hs hn hT hp hk
  go_enter Tryz.func24, Tryz.ntmps24
  go_wp2_with fail
  refine HH.out.mono ?_
  rintro e w1 ⟨g, rfl, hb, hd⟩
  have HS1 := Aside0.mk (HS.out w1 g hd hb.size)
  have HB := Aside0.mk hb
  clear hb hd
  go_wp2_with fail
  refine HS1.out.mono ?_
  rintro e w2 ⟨⟨T, x, rfl⟩, hb2⟩
  have HB2 := Aside0.mk hb2
  clear hb2
  go_wp2
  go_quiet (fail)
  go_wp2
  go_ret2
  exact ⟨rfl, endB (HB.out.trans HB2.out) _⟩
theorem headList_none (s key : Bs) (w : World) (n c : Nat) (A : Option Addr) (hs : s.length ≤ 900000000000) (hn : n ≤ 900000000000) (hT : kB.C w A n s) (hp : pTop s = none) :
    Calls Tryz.prog 26 #[.slice A n c, .string (bStr key)] w fun e w' => e = .returned (.tuple #[.slice none 0 0, .bool false]) ∧ Below w.heap.size w w' := by
  have HH := Aside0.mk (head_any s w n c A hs hn hT)
  rw [hp] at HH
  have HS := Aside0.mk (fun (w1 : World) (g : Nat) (h : HdrAt w.heap.size w1 g none) (hB : w.heap.size ≤ w1.heap.size) => harr_any w1 g w.heap.size none key h hB (fun v h => by cases h))
  obtain ⟨k, hk⟩ : ∃ k, k = bStr key := ⟨_, rfl⟩
  rw [← hk] at HS ⊢
  clear hs hn hT hp hk
  go_enter Tryz.func26, Tryz.ntmps26
  go_wp2_with fail
  refine HH.out.mono ?_
  rintro e w1 ⟨g, rfl, hb, hd⟩
  have HS1 := Aside0.mk (HS.out w1 g hd hb.size)
  have HB := Aside0.mk hb
  clear hb hd
  go_wp2_with fail
  refine HS1.out.mono ?_
  rintro e w2 ⟨⟨T, x, rfl⟩, hb2⟩
  have HB2 := Aside0.mk hb2
  clear hb2
  go_wp2
  go_quiet (fail)
  go_wp2
  go_ret2
  exact ⟨rfl, endB (HB.out.trans HB2.out) _⟩
/-- The other readers, where there is no header. -/
theorem headString_none (s key : Bs) (w : World) (n c : Nat) (A : Option Addr) (hs : s.length ≤ 900000000000) (hn : n ≤ 900000000000) (hT : kB.C w A n s) (hp : pTop s = none) :
    Calls Tryz.prog 13 #[.slice A n c, .string (bStr key)] w fun e w' => e = .returned (.tuple #[.string (bStr []), .bool false]) ∧ Below w.heap.size w w' := by
  have h := headString_any s key w n c A hs hn hT (by rw [hp]; exact fun v h => by cases h)
  rw [hp] at h
  exact h
theorem headBool_none (s key : Bs) (w : World) (n c : Nat) (A : Option Addr) (hs : s.length ≤ 900000000000) (hn : n ≤ 900000000000) (hT : kB.C w A n s) (hp : pTop s = none) :
    Calls Tryz.prog 25 #[.slice A n c, .string (bStr key)] w fun e w' => e = .returned (.tuple #[.bool false, .bool false]) ∧ Below w.heap.size w w' := by
  have h := headBool_any s key w n c A hs hn hT (by rw [hp]; exact fun v h => by cases h)
  rw [hp] at h
  exact h
theorem headHas_none (s key : Bs) (w : World) (n c : Nat) (A : Option Addr) (hs : s.length ≤ 900000000000) (hn : n ≤ 900000000000) (hT : kB.C w A n s) (hp : pTop s = none) :
    Calls Tryz.prog 18 #[.slice A n c, .string (bStr key)] w fun e w' => e = .returned (.bool false) ∧ Below w.heap.size w w' := by
  have h := headHas_any s key w n c A hs hn hT (by rw [hp]; exact fun v h => by cases h)
  rw [hp] at h
  exact h
end Go.Proofs.YtdldblfklalaeaaGreatDoor
