-- PRINTED BY print.sh 35421559b90ae4d0a3588c463048766b98c2df88dd9212a6774a882060cdf62d: not written by this session
import Derived.Test.YtpcbmjphffpplaaGreatDoorProg
import Derived.Below
import Derived.Deep.Draws
import Derived.Deep.AppendLies
import Derived.Maps.AppendAt
import Derived.OwnWalk
import Derived.Laws.BytesArg
import Derived.Laws.MakeOwn
import Derived.Laws.OwnMore
import Derived.Deep.OwnRows
import Derived.Tactics
import Derived.Lib.ConvBytes
import Derived.Laws.Slices
import Derived.WalkKit
import Derived.KernelRfl
import Derived.RowKit3
import Derived.Deep.LoopGhost
import Derived.Deep.QuietTactic
import Derived.BigQuiet
import Derived.WideLaws
import Derived.Deep.DeepCutAuto
import Derived.Deep.CutBlock
import Derived.Deep.RegionHeld3
import Derived.Laws.Rows
import Derived.Lib.AppendStr
import Derived.ArgAppend
import Derived.Laws.IdiomCopy
import Derived.OrdersHeld
import Derived.Laws.BitsLemmas
import Derived.RowKit
import Derived.Test.YtpcbmjphffpplaaGreatDoorWWords
import Derived.Test.YtpcbmjphffpplaaGreatDoorWLast
import Derived.Test.YtpcbmjphffpplaaGreatDoorWTab
import Derived.Test.YtpcbmjphffpplaaGreatDoorWFour
import Derived.Test.YtpcbmjphffpplaaGreatDoorWQPut
import Derived.Test.YtpcbmjphffpplaaGreatDoorWApart
import Derived.Test.YtpcbmjphffpplaaGreatDoorWArr
import Derived.Test.YtpcbmjphffpplaaGreatDoorWZeros
import Derived.Test.YtpcbmjphffpplaaGreatDoorWFoot
import Derived.Test.YtpcbmjphffpplaaGreatDoorWKept
import Derived.Test.YtpcbmjphffpplaaGreatDoorWShare
import Derived.Test.YtpcbmjphffpplaaGreatDoorWN
import Derived.Test.YtpcbmjphffpplaaGreatDoorWFootNe
import Derived.Test.YtpcbmjphffpplaaGreatDoorWAt
import Derived.Test.YtpcbmjphffpplaaGreatDoorWEqStruct
import Derived.Test.YtpcbmjphffpplaaGreatDoorWRepsOne
import Derived.Test.YtpcbmjphffpplaaGreatDoorWInv
import Derived.Test.YtpcbmjphffpplaaGreatDoorWInvWords
import Derived.Test.YtpcbmjphffpplaaGreatDoorWGuard
import Derived.Test.YtpcbmjphffpplaaGreatDoorWNEv
import Derived.Test.YtpcbmjphffpplaaGreatDoorWMore
namespace Go.Proofs.YtpcbmjphffpplaaGreatDoor.PFnKeySetClones
open Go.RowKit Go.Proofs.YtpcbmjphffpplaaGreatDoorW.PrintWords Go.Proofs.YtpcbmjphffpplaaGreatDoorW.PrintLast Go.Proofs.YtpcbmjphffpplaaGreatDoorW.PrintMore
attribute [local go_sem] max2_int min2_int max_two min_two max_three min_three max_four min_four   -- for this text's walks alone
set_option linter.unusedVariables false
set_option linter.unusedSimpArgs false



def errW : Option Int → Value
  | none => .nilIface
  | some c => .iface 0 (.int .i64 c)
theorem errW_none : errW none = .nilIface := rfl
theorem errW_some (c : Int) : errW (some c) = .iface 0 (.int .i64 c) := rfl

theorem info5 : (Tryz.prog.info? 5).map (fun i => (i.zero, i.size, i.bytes)) = some (some (.int .u8 0), 1, 1) := by kernel_rfl
theorem info9 : (Tryz.prog.info? 9).map (fun i => (i.zero, i.size, i.bytes)) = some (some (.string ⟨#[]⟩), 1, 16) := by kernel_rfl
theorem info32 : (Tryz.prog.info? 32).map (fun i => (i.zero, i.size, i.bytes)) = some (some (.agg #[(.int .i64 0), (.int .i64 0), (.int .i64 0), (.string ⟨#[]⟩), (.string ⟨#[]⟩)]), 5, 56) := by kernel_rfl
theorem info45 : (Tryz.prog.info? 45).map (fun i => (i.zero, i.size, i.bytes)) = some (some (.agg #[(.slice none 0 0), (.bool false), (.string ⟨#[]⟩)]), 3, 48) := by kernel_rfl
theorem info101 : (Tryz.prog.info? 101).map (fun i => (i.zero, i.size, i.bytes)) = some (some (.agg #[(.string ⟨#[]⟩), (.bool false), (.bool false)]), 3, 24) := by kernel_rfl
theorem info102 : (Tryz.prog.info? 102).map (fun i => (i.zero, i.size, i.bytes)) = some (some (.agg #[(.string ⟨#[]⟩), (.bool false), (.bool false)]), 3, 24) := by kernel_rfl
theorem info104 : (Tryz.prog.info? 104).map (fun i => (i.zero, i.size, i.bytes)) = some (some (.agg #[(.string ⟨#[]⟩), (.bool false)]), 2, 24) := by kernel_rfl
-- the values' own types
/-! #### struct type 48 -/
structure S48 where
  f0 : Int
  f1 : Int
  f2 : Int
  f3 : Int
def z48 : S48 := ⟨(0 : Int), (0 : Int), (0 : Int), (0 : Int)⟩
def k48 : Kd S48 := Kd.iso (Kd.pair (Kd.int .u8) (Kd.pair (Kd.int .u8) (Kd.pair (Kd.int .i8) (Kd.int .u8)))) (fun x : S48 => (x.f0, x.f1, x.f2, x.f3))
theorem k48_open {w : World} {x : S48} {cs : List Value} (h : k48.K w x cs) : cs = [.int .u8 x.f0, .int .u8 x.f1, .int .i8 x.f2, .int .u8 x.f3] := by
  obtain ⟨_, _, rfl, rfl, ⟨_, _, rfl, rfl, ⟨_, _, rfl, rfl, rfl⟩⟩⟩ := h
  exact rfl
theorem k48_openM {w : World} {base : Nat} {ok : Nat → Prop} {x : S48} {cs : List Value} (h : k48.M w base ok x cs) : cs = [.int .u8 x.f0, .int .u8 x.f1, .int .i8 x.f2, .int .u8 x.f3] := by
  obtain ⟨_, _, rfl, rfl, ⟨_, _, rfl, rfl, ⟨_, _, rfl, rfl, rfl⟩⟩⟩ := h
  exact rfl
theorem k48_mk (w : World) (x : S48)  : k48.K w x [.int .u8 x.f0, .int .u8 x.f1, .int .i8 x.f2, .int .u8 x.f3] := ⟨[.int .u8 x.f0], [.int .u8 x.f1, .int .i8 x.f2, .int .u8 x.f3], rfl, rfl, ⟨[.int .u8 x.f1], [.int .i8 x.f2, .int .u8 x.f3], rfl, rfl, ⟨[.int .i8 x.f2], [.int .u8 x.f3], rfl, rfl, rfl⟩⟩⟩
theorem k48_mkM (w : World) (base : Nat) (ok : Nat → Prop) (x : S48)  : k48.M w base ok x [.int .u8 x.f0, .int .u8 x.f1, .int .i8 x.f2, .int .u8 x.f3] := ⟨[.int .u8 x.f0], [.int .u8 x.f1, .int .i8 x.f2, .int .u8 x.f3], rfl, rfl, ⟨[.int .u8 x.f1], [.int .i8 x.f2, .int .u8 x.f3], rfl, rfl, ⟨[.int .i8 x.f2], [.int .u8 x.f3], rfl, rfl, rfl⟩⟩⟩
def rd_T48 (xs : List S48) (i : Int) : S48 := xs.getD i.toNat z48
theorem at_T48 {w : World} {A : Option Addr} {n : Nat} {xs : List S48} (h : Kd.C k48 w A n xs) (i : Int) (h0 : 0 ≤ i) (h1 : i < n) : ∃ ad , A = some ad ∧ w.cell? (ad.add (i.toNat * 4)) = some (.int .u8 (rd_T48 xs i).f0) ∧ w.cell? ⟨(ad.add (i.toNat * 4)).block, (ad.add (i.toNat * 4)).off + 1, none⟩ = some (.int .u8 (rd_T48 xs i).f1) ∧ w.cell? ⟨(ad.add (i.toNat * 4)).block, (ad.add (i.toNat * 4)).off + 2, none⟩ = some (.int .i8 (rd_T48 xs i).f2) ∧ w.cell? ⟨(ad.add (i.toNat * 4)).block, (ad.add (i.toNat * 4)).off + 3, none⟩ = some (.int .u8 (rd_T48 xs i).f3) := by
  obtain ⟨ad, c, e, _, hK, hc0⟩ := Kd.C_get h z48 i h0 h1
  have hc : ∀ j u, c[j]? = some u → w.cell? (ad.add (i.toNat * 4 + j)) = some u := hc0
  obtain rfl := k48_open hK
  exact ⟨ad, e, hc 0 _ rfl, by rw [← add_field _ _ 1 (by omega)]; exact hc 1 _ rfl, by rw [← add_field _ _ 2 (by omega)]; exact hc 2 _ rfl, by rw [← add_field _ _ 3 (by omega)]; exact hc 3 _ rfl⟩

/-! #### struct type 104 -/
structure S104 where
  f0 : ByteArray
  f1 : Bool
def z104 : S104 := ⟨(⟨#[]⟩ : ByteArray), false⟩
def k104 : Kd S104 := Kd.iso (Kd.pair Kd.string Kd.bool) (fun x : S104 => (x.f0, x.f1))
theorem k104_open {w : World} {x : S104} {cs : List Value} (h : k104.K w x cs) : cs = [.string x.f0, .bool x.f1] := by
  obtain ⟨_, _, rfl, rfl, rfl⟩ := h
  exact rfl
theorem k104_openM {w : World} {base : Nat} {ok : Nat → Prop} {x : S104} {cs : List Value} (h : k104.M w base ok x cs) : cs = [.string x.f0, .bool x.f1] := by
  obtain ⟨_, _, rfl, rfl, rfl⟩ := h
  exact rfl
theorem k104_mk (w : World) (x : S104)  : k104.K w x [.string x.f0, .bool x.f1] := ⟨[.string x.f0], [.bool x.f1], rfl, rfl, rfl⟩
theorem k104_mkM (w : World) (base : Nat) (ok : Nat → Prop) (x : S104)  : k104.M w base ok x [.string x.f0, .bool x.f1] := ⟨[.string x.f0], [.bool x.f1], rfl, rfl, rfl⟩
def rd_T104 (xs : List S104) (i : Int) : S104 := xs.getD i.toNat z104
theorem at_T104 {w : World} {A : Option Addr} {n : Nat} {xs : List S104} (h : Kd.C k104 w A n xs) (i : Int) (h0 : 0 ≤ i) (h1 : i < n) : ∃ ad , A = some ad ∧ w.cell? (ad.add (i.toNat * 2)) = some (.string (rd_T104 xs i).f0) ∧ w.cell? ⟨(ad.add (i.toNat * 2)).block, (ad.add (i.toNat * 2)).off + 1, none⟩ = some (.bool (rd_T104 xs i).f1) := by
  obtain ⟨ad, c, e, _, hK, hc0⟩ := Kd.C_get h z104 i h0 h1
  have hc : ∀ j u, c[j]? = some u → w.cell? (ad.add (i.toNat * 2 + j)) = some u := hc0
  obtain rfl := k104_open hK
  exact ⟨ad, e, hc 0 _ rfl, by rw [← add_field _ _ 1 (by omega)]; exact hc 1 _ rfl⟩

/-! #### struct type 102 -/
structure S102 where
  f0 : ByteArray
  f1 : Bool
  f2 : Bool
def z102 : S102 := ⟨(⟨#[]⟩ : ByteArray), false, false⟩
def k102 : Kd S102 := Kd.iso (Kd.pair Kd.string (Kd.pair Kd.bool Kd.bool)) (fun x : S102 => (x.f0, x.f1, x.f2))
theorem k102_open {w : World} {x : S102} {cs : List Value} (h : k102.K w x cs) : cs = [.string x.f0, .bool x.f1, .bool x.f2] := by
  obtain ⟨_, _, rfl, rfl, ⟨_, _, rfl, rfl, rfl⟩⟩ := h
  exact rfl
theorem k102_openM {w : World} {base : Nat} {ok : Nat → Prop} {x : S102} {cs : List Value} (h : k102.M w base ok x cs) : cs = [.string x.f0, .bool x.f1, .bool x.f2] := by
  obtain ⟨_, _, rfl, rfl, ⟨_, _, rfl, rfl, rfl⟩⟩ := h
  exact rfl
theorem k102_mk (w : World) (x : S102)  : k102.K w x [.string x.f0, .bool x.f1, .bool x.f2] := ⟨[.string x.f0], [.bool x.f1, .bool x.f2], rfl, rfl, ⟨[.bool x.f1], [.bool x.f2], rfl, rfl, rfl⟩⟩
theorem k102_mkM (w : World) (base : Nat) (ok : Nat → Prop) (x : S102)  : k102.M w base ok x [.string x.f0, .bool x.f1, .bool x.f2] := ⟨[.string x.f0], [.bool x.f1, .bool x.f2], rfl, rfl, ⟨[.bool x.f1], [.bool x.f2], rfl, rfl, rfl⟩⟩
def rd_T102 (xs : List S102) (i : Int) : S102 := xs.getD i.toNat z102
theorem at_T102 {w : World} {A : Option Addr} {n : Nat} {xs : List S102} (h : Kd.C k102 w A n xs) (i : Int) (h0 : 0 ≤ i) (h1 : i < n) : ∃ ad , A = some ad ∧ w.cell? (ad.add (i.toNat * 3)) = some (.string (rd_T102 xs i).f0) ∧ w.cell? ⟨(ad.add (i.toNat * 3)).block, (ad.add (i.toNat * 3)).off + 1, none⟩ = some (.bool (rd_T102 xs i).f1) ∧ w.cell? ⟨(ad.add (i.toNat * 3)).block, (ad.add (i.toNat * 3)).off + 2, none⟩ = some (.bool (rd_T102 xs i).f2) := by
  obtain ⟨ad, c, e, _, hK, hc0⟩ := Kd.C_get h z102 i h0 h1
  have hc : ∀ j u, c[j]? = some u → w.cell? (ad.add (i.toNat * 3 + j)) = some u := hc0
  obtain rfl := k102_open hK
  exact ⟨ad, e, hc 0 _ rfl, by rw [← add_field _ _ 1 (by omega)]; exact hc 1 _ rfl, by rw [← add_field _ _ 2 (by omega)]; exact hc 2 _ rfl⟩

/-! #### struct type 101 -/
structure S101 where
  f0 : ByteArray
  f1 : Bool
  f2 : Bool
def z101 : S101 := ⟨(⟨#[]⟩ : ByteArray), false, false⟩
def k101 : Kd S101 := Kd.iso (Kd.pair Kd.string (Kd.pair Kd.bool Kd.bool)) (fun x : S101 => (x.f0, x.f1, x.f2))
theorem k101_open {w : World} {x : S101} {cs : List Value} (h : k101.K w x cs) : cs = [.string x.f0, .bool x.f1, .bool x.f2] := by
  obtain ⟨_, _, rfl, rfl, ⟨_, _, rfl, rfl, rfl⟩⟩ := h
  exact rfl
theorem k101_openM {w : World} {base : Nat} {ok : Nat → Prop} {x : S101} {cs : List Value} (h : k101.M w base ok x cs) : cs = [.string x.f0, .bool x.f1, .bool x.f2] := by
  obtain ⟨_, _, rfl, rfl, ⟨_, _, rfl, rfl, rfl⟩⟩ := h
  exact rfl
theorem k101_mk (w : World) (x : S101)  : k101.K w x [.string x.f0, .bool x.f1, .bool x.f2] := ⟨[.string x.f0], [.bool x.f1, .bool x.f2], rfl, rfl, ⟨[.bool x.f1], [.bool x.f2], rfl, rfl, rfl⟩⟩
theorem k101_mkM (w : World) (base : Nat) (ok : Nat → Prop) (x : S101)  : k101.M w base ok x [.string x.f0, .bool x.f1, .bool x.f2] := ⟨[.string x.f0], [.bool x.f1, .bool x.f2], rfl, rfl, ⟨[.bool x.f1], [.bool x.f2], rfl, rfl, rfl⟩⟩
def rd_T101 (xs : List S101) (i : Int) : S101 := xs.getD i.toNat z101
theorem at_T101 {w : World} {A : Option Addr} {n : Nat} {xs : List S101} (h : Kd.C k101 w A n xs) (i : Int) (h0 : 0 ≤ i) (h1 : i < n) : ∃ ad , A = some ad ∧ w.cell? (ad.add (i.toNat * 3)) = some (.string (rd_T101 xs i).f0) ∧ w.cell? ⟨(ad.add (i.toNat * 3)).block, (ad.add (i.toNat * 3)).off + 1, none⟩ = some (.bool (rd_T101 xs i).f1) ∧ w.cell? ⟨(ad.add (i.toNat * 3)).block, (ad.add (i.toNat * 3)).off + 2, none⟩ = some (.bool (rd_T101 xs i).f2) := by
  obtain ⟨ad, c, e, _, hK, hc0⟩ := Kd.C_get h z101 i h0 h1
  have hc : ∀ j u, c[j]? = some u → w.cell? (ad.add (i.toNat * 3 + j)) = some u := hc0
  obtain rfl := k101_open hK
  exact ⟨ad, e, hc 0 _ rfl, by rw [← add_field _ _ 1 (by omega)]; exact hc 1 _ rfl, by rw [← add_field _ _ 2 (by omega)]; exact hc 2 _ rfl⟩

def rd_L8 (xs : List (List Int)) (i : Int) : (List Int) := xs.getD i.toNat ([] : List Int)
theorem at_L8 {w : World} {A : Option Addr} {n : Nat} {xs : List (List Int)} (h : Kd.C (Kd.slice 5 (Kd.int .u8)) w A n xs) (i : Int) (h0 : 0 ≤ i) (h1 : i < n) : ∃ ad A0 c0, A = some ad ∧ w.cell? (ad.add i.toNat) = some (.slice A0 (rd_L8 xs i).length c0) ∧ (rd_L8 xs i).length ≤ c0 ∧ (Kd.int .u8).C w A0 (rd_L8 xs i).length (rd_L8 xs i) := by
  obtain ⟨ad, c, e, _, hK, hc0⟩ := Kd.C_get h ([] : List Int) i h0 h1
  have hc : ∀ j u, c[j]? = some u → w.cell? (ad.add (i.toNat * 1 + j)) = some u := hc0
  obtain ⟨A0, c0, rfl, l0, g0⟩ := hK
  exact ⟨ad, A0, c0, e, by have hq := hc 0 _ rfl; rwa [Nat.mul_one, Nat.add_zero] at hq, l0, g0⟩

/-! #### struct type 45 -/
structure S45 where
  f0 : (List Int)
  f1 : Bool
  f2 : ByteArray
def z45 : S45 := ⟨([] : List Int), false, (⟨#[]⟩ : ByteArray)⟩
def k45 : Kd S45 := Kd.iso (Kd.pair (Kd.slice 5 (Kd.int .u8)) (Kd.pair Kd.bool Kd.string)) (fun x : S45 => (x.f0, x.f1, x.f2))
theorem k45_open {w : World} {x : S45} {cs : List Value} (h : k45.K w x cs) : ∃ A0 c0, cs = [.slice A0 x.f0.length c0, .bool x.f1, .string x.f2] ∧ x.f0.length ≤ c0 ∧ (Kd.int .u8).C w A0 x.f0.length x.f0 := by
  obtain ⟨_, _, rfl, ⟨A0, c0, rfl, l0, g0⟩, ⟨_, _, rfl, rfl, rfl⟩⟩ := h
  exact ⟨A0, c0, rfl, l0, g0⟩
theorem k45_openM {w : World} {base : Nat} {ok : Nat → Prop} {x : S45} {cs : List Value} (h : k45.M w base ok x cs) : ∃ v0, cs = [v0, .bool x.f1, .string x.f2] ∧ (Kd.int .u8).R 5 w base ok v0 x.f0 := by
  obtain ⟨_, _, rfl, ⟨v0, rfl, g0⟩, ⟨_, _, rfl, rfl, rfl⟩⟩ := h
  exact ⟨v0, rfl, g0⟩
theorem k45_mk (w : World) (x : S45) {A0 : Option Addr} {c0 : Nat} (l0 : x.f0.length ≤ c0) (g0 : (Kd.int .u8).C w A0 x.f0.length x.f0) : k45.K w x [.slice A0 x.f0.length c0, .bool x.f1, .string x.f2] := ⟨[.slice A0 x.f0.length c0], [.bool x.f1, .string x.f2], rfl, ⟨A0, c0, rfl, l0, g0⟩, ⟨[.bool x.f1], [.string x.f2], rfl, rfl, rfl⟩⟩
theorem k45_mkM (w : World) (base : Nat) (ok : Nat → Prop) (x : S45) {v0 : Value} (g0 : (Kd.int .u8).R 5 w base ok v0 x.f0) : k45.M w base ok x [v0, .bool x.f1, .string x.f2] := ⟨[v0], [.bool x.f1, .string x.f2], rfl, ⟨v0, rfl, g0⟩, ⟨[.bool x.f1], [.string x.f2], rfl, rfl, rfl⟩⟩
def rd_T45 (xs : List S45) (i : Int) : S45 := xs.getD i.toNat z45
theorem at_T45 {w : World} {A : Option Addr} {n : Nat} {xs : List S45} (h : Kd.C k45 w A n xs) (i : Int) (h0 : 0 ≤ i) (h1 : i < n) : ∃ ad A0 c0, A = some ad ∧ w.cell? (ad.add (i.toNat * 3)) = some (.slice A0 (rd_T45 xs i).f0.length c0) ∧ w.cell? ⟨(ad.add (i.toNat * 3)).block, (ad.add (i.toNat * 3)).off + 1, none⟩ = some (.bool (rd_T45 xs i).f1) ∧ w.cell? ⟨(ad.add (i.toNat * 3)).block, (ad.add (i.toNat * 3)).off + 2, none⟩ = some (.string (rd_T45 xs i).f2) ∧ (rd_T45 xs i).f0.length ≤ c0 ∧ (Kd.int .u8).C w A0 (rd_T45 xs i).f0.length (rd_T45 xs i).f0 := by
  obtain ⟨ad, c, e, _, hK, hc0⟩ := Kd.C_get h z45 i h0 h1
  have hc : ∀ j u, c[j]? = some u → w.cell? (ad.add (i.toNat * 3 + j)) = some u := hc0
  obtain ⟨A0, c0, rfl, l0, g0⟩ := k45_open hK
  exact ⟨ad, A0, c0, e, hc 0 _ rfl, by rw [← add_field _ _ 1 (by omega)]; exact hc 1 _ rfl, by rw [← add_field _ _ 2 (by omega)]; exact hc 2 _ rfl, l0, g0⟩

/-! #### struct type 32 -/
structure S32 where
  f0 : Int
  f1 : Int
  f2 : Int
  f3 : ByteArray
  f4 : ByteArray
def z32 : S32 := ⟨(0 : Int), (0 : Int), (0 : Int), (⟨#[]⟩ : ByteArray), (⟨#[]⟩ : ByteArray)⟩
def k32 : Kd S32 := Kd.iso (Kd.pair (Kd.int .i64) (Kd.pair (Kd.int .i64) (Kd.pair (Kd.int .i64) (Kd.pair Kd.string Kd.string)))) (fun x : S32 => (x.f0, x.f1, x.f2, x.f3, x.f4))
theorem k32_open {w : World} {x : S32} {cs : List Value} (h : k32.K w x cs) : cs = [.int .i64 x.f0, .int .i64 x.f1, .int .i64 x.f2, .string x.f3, .string x.f4] := by
  obtain ⟨_, _, rfl, rfl, ⟨_, _, rfl, rfl, ⟨_, _, rfl, rfl, ⟨_, _, rfl, rfl, rfl⟩⟩⟩⟩ := h
  exact rfl
theorem k32_openM {w : World} {base : Nat} {ok : Nat → Prop} {x : S32} {cs : List Value} (h : k32.M w base ok x cs) : cs = [.int .i64 x.f0, .int .i64 x.f1, .int .i64 x.f2, .string x.f3, .string x.f4] := by
  obtain ⟨_, _, rfl, rfl, ⟨_, _, rfl, rfl, ⟨_, _, rfl, rfl, ⟨_, _, rfl, rfl, rfl⟩⟩⟩⟩ := h
  exact rfl
theorem k32_mk (w : World) (x : S32)  : k32.K w x [.int .i64 x.f0, .int .i64 x.f1, .int .i64 x.f2, .string x.f3, .string x.f4] := ⟨[.int .i64 x.f0], [.int .i64 x.f1, .int .i64 x.f2, .string x.f3, .string x.f4], rfl, rfl, ⟨[.int .i64 x.f1], [.int .i64 x.f2, .string x.f3, .string x.f4], rfl, rfl, ⟨[.int .i64 x.f2], [.string x.f3, .string x.f4], rfl, rfl, ⟨[.string x.f3], [.string x.f4], rfl, rfl, rfl⟩⟩⟩⟩
theorem k32_mkM (w : World) (base : Nat) (ok : Nat → Prop) (x : S32)  : k32.M w base ok x [.int .i64 x.f0, .int .i64 x.f1, .int .i64 x.f2, .string x.f3, .string x.f4] := ⟨[.int .i64 x.f0], [.int .i64 x.f1, .int .i64 x.f2, .string x.f3, .string x.f4], rfl, rfl, ⟨[.int .i64 x.f1], [.int .i64 x.f2, .string x.f3, .string x.f4], rfl, rfl, ⟨[.int .i64 x.f2], [.string x.f3, .string x.f4], rfl, rfl, ⟨[.string x.f3], [.string x.f4], rfl, rfl, rfl⟩⟩⟩⟩
def rd_T32 (xs : List S32) (i : Int) : S32 := xs.getD i.toNat z32
theorem at_T32 {w : World} {A : Option Addr} {n : Nat} {xs : List S32} (h : Kd.C k32 w A n xs) (i : Int) (h0 : 0 ≤ i) (h1 : i < n) : ∃ ad , A = some ad ∧ w.cell? (ad.add (i.toNat * 5)) = some (.int .i64 (rd_T32 xs i).f0) ∧ w.cell? ⟨(ad.add (i.toNat * 5)).block, (ad.add (i.toNat * 5)).off + 1, none⟩ = some (.int .i64 (rd_T32 xs i).f1) ∧ w.cell? ⟨(ad.add (i.toNat * 5)).block, (ad.add (i.toNat * 5)).off + 2, none⟩ = some (.int .i64 (rd_T32 xs i).f2) ∧ w.cell? ⟨(ad.add (i.toNat * 5)).block, (ad.add (i.toNat * 5)).off + 3, none⟩ = some (.string (rd_T32 xs i).f3) ∧ w.cell? ⟨(ad.add (i.toNat * 5)).block, (ad.add (i.toNat * 5)).off + 4, none⟩ = some (.string (rd_T32 xs i).f4) := by
  obtain ⟨ad, c, e, _, hK, hc0⟩ := Kd.C_get h z32 i h0 h1
  have hc : ∀ j u, c[j]? = some u → w.cell? (ad.add (i.toNat * 5 + j)) = some u := hc0
  obtain rfl := k32_open hK
  exact ⟨ad, e, hc 0 _ rfl, by rw [← add_field _ _ 1 (by omega)]; exact hc 1 _ rfl, by rw [← add_field _ _ 2 (by omega)]; exact hc 2 _ rfl, by rw [← add_field _ _ 3 (by omega)]; exact hc 3 _ rfl, by rw [← add_field _ _ 4 (by omega)]; exact hc 4 _ rfl⟩

def rd_L12 (xs : List (List Int)) (i : Int) : (List Int) := xs.getD i.toNat ([] : List Int)
theorem at_L12 {w : World} {A : Option Addr} {n : Nat} {xs : List (List Int)} (h : Kd.C (Kd.slice 3 (Kd.int .i64)) w A n xs) (i : Int) (h0 : 0 ≤ i) (h1 : i < n) : ∃ ad A0 c0, A = some ad ∧ w.cell? (ad.add i.toNat) = some (.slice A0 (rd_L12 xs i).length c0) ∧ (rd_L12 xs i).length ≤ c0 ∧ (Kd.int .i64).C w A0 (rd_L12 xs i).length (rd_L12 xs i) := by
  obtain ⟨ad, c, e, _, hK, hc0⟩ := Kd.C_get h ([] : List Int) i h0 h1
  have hc : ∀ j u, c[j]? = some u → w.cell? (ad.add (i.toNat * 1 + j)) = some u := hc0
  obtain ⟨A0, c0, rfl, l0, g0⟩ := hK
  exact ⟨ad, A0, c0, e, by have hq := hc 0 _ rfl; rwa [Nat.mul_one, Nat.add_zero] at hq, l0, g0⟩

def rd_L13 (xs : List (List ByteArray)) (i : Int) : (List ByteArray) := xs.getD i.toNat ([] : List ByteArray)
theorem at_L13 {w : World} {A : Option Addr} {n : Nat} {xs : List (List ByteArray)} (h : Kd.C (Kd.slice 9 Kd.string) w A n xs) (i : Int) (h0 : 0 ≤ i) (h1 : i < n) : ∃ ad A0 c0, A = some ad ∧ w.cell? (ad.add i.toNat) = some (.slice A0 (rd_L13 xs i).length c0) ∧ (rd_L13 xs i).length ≤ c0 ∧ Kd.string.C w A0 (rd_L13 xs i).length (rd_L13 xs i) := by
  obtain ⟨ad, c, e, _, hK, hc0⟩ := Kd.C_get h ([] : List ByteArray) i h0 h1
  have hc : ∀ j u, c[j]? = some u → w.cell? (ad.add (i.toNat * 1 + j)) = some u := hc0
  obtain ⟨A0, c0, rfl, l0, g0⟩ := hK
  exact ⟨ad, A0, c0, e, by have hq := hc 0 _ rfl; rwa [Nat.mul_one, Nat.add_zero] at hq, l0, g0⟩

/-! #### struct type 37 -/
structure S37 where
  f0 : Bool
  f1 : Int
  f2 : Int
  f3 : Int
  f4 : (List Int)
  f5 : (List ByteArray)
def z37 : S37 := ⟨false, (0 : Int), (0 : Int), (0 : Int), ([] : List Int), ([] : List ByteArray)⟩
def k37 : Kd S37 := Kd.iso (Kd.pair Kd.bool (Kd.pair (Kd.int .i64) (Kd.pair (Kd.int .i64) (Kd.pair (Kd.int .i64) (Kd.pair (Kd.slice 3 (Kd.int .i64)) (Kd.slice 9 Kd.string)))))) (fun x : S37 => (x.f0, x.f1, x.f2, x.f3, x.f4, x.f5))
theorem k37_open {w : World} {x : S37} {cs : List Value} (h : k37.K w x cs) : ∃ A4 c4 A5 c5, cs = [.bool x.f0, .int .i64 x.f1, .int .i64 x.f2, .int .i64 x.f3, .slice A4 x.f4.length c4, .slice A5 x.f5.length c5] ∧ x.f4.length ≤ c4 ∧ (Kd.int .i64).C w A4 x.f4.length x.f4 ∧ x.f5.length ≤ c5 ∧ Kd.string.C w A5 x.f5.length x.f5 := by
  obtain ⟨_, _, rfl, rfl, ⟨_, _, rfl, rfl, ⟨_, _, rfl, rfl, ⟨_, _, rfl, rfl, ⟨_, _, rfl, ⟨A4, c4, rfl, l4, g4⟩, ⟨A5, c5, rfl, l5, g5⟩⟩⟩⟩⟩⟩ := h
  exact ⟨A4, c4, A5, c5, rfl, l4, g4, l5, g5⟩
theorem k37_openM {w : World} {base : Nat} {ok : Nat → Prop} {x : S37} {cs : List Value} (h : k37.M w base ok x cs) : ∃ v4 v5, cs = [.bool x.f0, .int .i64 x.f1, .int .i64 x.f2, .int .i64 x.f3, v4, v5] ∧ (Kd.int .i64).R 3 w base ok v4 x.f4 ∧ Kd.string.R 9 w base ok v5 x.f5 := by
  obtain ⟨_, _, rfl, rfl, ⟨_, _, rfl, rfl, ⟨_, _, rfl, rfl, ⟨_, _, rfl, rfl, ⟨_, _, rfl, ⟨v4, rfl, g4⟩, ⟨v5, rfl, g5⟩⟩⟩⟩⟩⟩ := h
  exact ⟨v4, v5, rfl, g4, g5⟩
theorem k37_mk (w : World) (x : S37) {A4 : Option Addr} {c4 : Nat} (l4 : x.f4.length ≤ c4) (g4 : (Kd.int .i64).C w A4 x.f4.length x.f4) {A5 : Option Addr} {c5 : Nat} (l5 : x.f5.length ≤ c5) (g5 : Kd.string.C w A5 x.f5.length x.f5) : k37.K w x [.bool x.f0, .int .i64 x.f1, .int .i64 x.f2, .int .i64 x.f3, .slice A4 x.f4.length c4, .slice A5 x.f5.length c5] := ⟨[.bool x.f0], [.int .i64 x.f1, .int .i64 x.f2, .int .i64 x.f3, .slice A4 x.f4.length c4, .slice A5 x.f5.length c5], rfl, rfl, ⟨[.int .i64 x.f1], [.int .i64 x.f2, .int .i64 x.f3, .slice A4 x.f4.length c4, .slice A5 x.f5.length c5], rfl, rfl, ⟨[.int .i64 x.f2], [.int .i64 x.f3, .slice A4 x.f4.length c4, .slice A5 x.f5.length c5], rfl, rfl, ⟨[.int .i64 x.f3], [.slice A4 x.f4.length c4, .slice A5 x.f5.length c5], rfl, rfl, ⟨[.slice A4 x.f4.length c4], [.slice A5 x.f5.length c5], rfl, ⟨A4, c4, rfl, l4, g4⟩, ⟨A5, c5, rfl, l5, g5⟩⟩⟩⟩⟩⟩
theorem k37_mkM (w : World) (base : Nat) (ok : Nat → Prop) (x : S37) {v4 : Value} (g4 : (Kd.int .i64).R 3 w base ok v4 x.f4) {v5 : Value} (g5 : Kd.string.R 9 w base ok v5 x.f5) : k37.M w base ok x [.bool x.f0, .int .i64 x.f1, .int .i64 x.f2, .int .i64 x.f3, v4, v5] := ⟨[.bool x.f0], [.int .i64 x.f1, .int .i64 x.f2, .int .i64 x.f3, v4, v5], rfl, rfl, ⟨[.int .i64 x.f1], [.int .i64 x.f2, .int .i64 x.f3, v4, v5], rfl, rfl, ⟨[.int .i64 x.f2], [.int .i64 x.f3, v4, v5], rfl, rfl, ⟨[.int .i64 x.f3], [v4, v5], rfl, rfl, ⟨[v4], [v5], rfl, ⟨v4, rfl, g4⟩, ⟨v5, rfl, g5⟩⟩⟩⟩⟩⟩
def rd_T37 (xs : List S37) (i : Int) : S37 := xs.getD i.toNat z37
theorem at_T37 {w : World} {A : Option Addr} {n : Nat} {xs : List S37} (h : Kd.C k37 w A n xs) (i : Int) (h0 : 0 ≤ i) (h1 : i < n) : ∃ ad A4 c4 A5 c5, A = some ad ∧ w.cell? (ad.add (i.toNat * 6)) = some (.bool (rd_T37 xs i).f0) ∧ w.cell? ⟨(ad.add (i.toNat * 6)).block, (ad.add (i.toNat * 6)).off + 1, none⟩ = some (.int .i64 (rd_T37 xs i).f1) ∧ w.cell? ⟨(ad.add (i.toNat * 6)).block, (ad.add (i.toNat * 6)).off + 2, none⟩ = some (.int .i64 (rd_T37 xs i).f2) ∧ w.cell? ⟨(ad.add (i.toNat * 6)).block, (ad.add (i.toNat * 6)).off + 3, none⟩ = some (.int .i64 (rd_T37 xs i).f3) ∧ w.cell? ⟨(ad.add (i.toNat * 6)).block, (ad.add (i.toNat * 6)).off + 4, none⟩ = some (.slice A4 (rd_T37 xs i).f4.length c4) ∧ w.cell? ⟨(ad.add (i.toNat * 6)).block, (ad.add (i.toNat * 6)).off + 5, none⟩ = some (.slice A5 (rd_T37 xs i).f5.length c5) ∧ (rd_T37 xs i).f4.length ≤ c4 ∧ (Kd.int .i64).C w A4 (rd_T37 xs i).f4.length (rd_T37 xs i).f4 ∧ (rd_T37 xs i).f5.length ≤ c5 ∧ Kd.string.C w A5 (rd_T37 xs i).f5.length (rd_T37 xs i).f5 := by
  obtain ⟨ad, c, e, _, hK, hc0⟩ := Kd.C_get h z37 i h0 h1
  have hc : ∀ j u, c[j]? = some u → w.cell? (ad.add (i.toNat * 6 + j)) = some u := hc0
  obtain ⟨A4, c4, A5, c5, rfl, l4, g4, l5, g5⟩ := k37_open hK
  exact ⟨ad, A4, c4, A5, c5, e, hc 0 _ rfl, by rw [← add_field _ _ 1 (by omega)]; exact hc 1 _ rfl, by rw [← add_field _ _ 2 (by omega)]; exact hc 2 _ rfl, by rw [← add_field _ _ 3 (by omega)]; exact hc 3 _ rfl, by rw [← add_field _ _ 4 (by omega)]; exact hc 4 _ rfl, by rw [← add_field _ _ 5 (by omega)]; exact hc 5 _ rfl, l4, g4, l5, g5⟩

end Go.Proofs.YtpcbmjphffpplaaGreatDoor.PFnKeySetClones
