/-
  encoding/base64: NewEncoding, WithPadding, the four encodings: their contracts.
-/
import Derived.Test.YtlncbbmmlhammaaDoorEncOps
import Derived.Test.YtlncbbmmlhammaaDoorB
import Derived.Test.YtlncbbmmlhammaaDoorRows
import Derived.WalkKit
import Derived.WalkSpells
import Derived.WalkLawsBesides
import Derived.Deep.QuietTactic
import Derived.BigQuiet
import Derived.Deep.DeepCutAuto
import Derived.Deep.CutBlock
namespace Go.Proofs.YtlncbbmmlhammaaDoor
open Go.RowKit Go.Proofs.YtlncbbmmlhammaaDoorW.PrintWords Go.Lib
set_option linter.unusedVariables false
set_option linter.unusedSimpArgs false
/-- The cells of an encoding. -/
def ecells (enc dec : List UInt8) (pad : Int) : Array Value := (enc.map bV ++ dec.map bV ++ [Value.int .i32 pad, Value.bool false]).toArray
/-- The map behind k letters of an alphabet. -/
def decN (s : List UInt8) : Nat → List UInt8
  | 0 => List.replicate 256 255
  | k + 1 => (decN s k).set (s.getD k 0).toNat (UInt8.ofNat k)
theorem decN_len (s : List UInt8) : ∀ k, (decN s k).length = 256
  | 0 => List.length_replicate
  | k + 1 => (List.length_set ..).trans (decN_len s k)
theorem ecells_size {enc dec : List UInt8} {pad : Int} (h1 : enc.length = 64) (h2 : dec.length = 256) : (ecells enc dec pad).size = 322 := by
  unfold ecells
  rw [List.size_toArray, List.length_append, List.length_append, List.length_map, List.length_map, h1, h2]
  rfl
/-- An alphabet of 64 letters, each once, none the end of a line. -/
structure Alpha (s : List UInt8) : Prop where
  len : s.length = 64
  ok : ∀ k, k < 64 → (s.getD k 0 ≠ 10 ∧ s.getD k 0 ≠ 13) ∧ (decN s k).getD (s.getD k 0).toNat 0 = 255
def zEnc : Value := .agg (ecells (List.replicate 64 0) (List.replicate 256 0) 0)
theorem zEnc_info : (Tryd.prog.info? 70).map (·.zero) = some (some zEnc) := by kernel_rfl


def ff256 : List UInt8 := List.replicate 256 255
theorem ecells_pad (enc dec : List UInt8) (h1 : enc.length = 64) (h2 : dec.length = 256) (p q : Int) : (ecells enc dec p).setIfInBounds 320 (.int .i32 q) = ecells enc dec q := by
  unfold ecells
  apply Array.ext'
  simp only [Array.toList_setIfInBounds]
  rw [List.set_append_right _ _ (by simp [h1, h2])]
  simp [h1, h2]
theorem byteCells_eq (l : List UInt8) : byteCells l = l.map bV := rfl
theorem ecells_enc (s dec : List UInt8) (n : List UInt8) (hs : s.length = 64) (hn : n.length = 64) (p : Int) : ((ecells n dec p).toList.take 0 ++ byteCells s ++ (ecells n dec p).toList.drop (0 + 64)).toArray = ecells s dec p := by
  unfold ecells
  rw [byteCells_eq]
  simp only [List.take_zero, List.nil_append, Nat.zero_add]
  rw [List.append_assoc, List.drop_append_of_le_length (by rw [List.length_map, hn]; exact Nat.le_refl _), List.drop_of_length_le (by rw [List.length_map, hn]; exact Nat.le_refl _), List.nil_append, List.append_assoc]
theorem ecells_dec (s n dec : List UInt8) (hs : s.length = 64) (hn : n.length = 256) (hd : dec.length = 256) (p : Int) : ((ecells s n p).toList.take 64 ++ byteCells dec ++ (ecells s n p).toList.drop (64 + 256)).toArray = ecells s dec p := by
  unfold ecells
  rw [byteCells_eq]
  have h1 : (s.map bV).length = 64 := by rw [List.length_map, hs]
  have h2 : (n.map bV).length = 256 := by rw [List.length_map, hn]
  have e1 : (s.map bV ++ n.map bV ++ [Value.int .i32 p, Value.bool false]).take 64 = s.map bV := by
    rw [List.append_assoc, List.take_append_of_le_length (by omega), List.take_of_length_le (by omega)]
  have e2 : (s.map bV ++ n.map bV ++ [Value.int .i32 p, Value.bool false]).drop (64 + 256) = [Value.int .i32 p, Value.bool false] := by
    rw [List.drop_append_of_le_length (by rw [List.length_append]; omega), List.drop_of_length_le (by rw [List.length_append]; omega), List.nil_append]
  rw [show (s.map bV ++ n.map bV ++ [Value.int .i32 p, Value.bool false]).toArray.toList = s.map bV ++ n.map bV ++ [Value.int .i32 p, Value.bool false] from rfl, e1, e2]
theorem ecells_set (s dec : List UInt8) (hs : s.length = 64) (j : Nat) (hj : j < dec.length) (c : UInt8) (p : Int) : (ecells s dec p).setIfInBounds (64 + j) (.int .u8 (c.toNat : Int)) = ecells s (dec.set j c) p := by
  unfold ecells
  apply Array.ext'
  simp only [Array.toList_setIfInBounds]
  rw [List.append_assoc, List.set_append_right _ _ (by simp [hs]), List.length_map, hs, Nat.add_sub_cancel_left, List.set_append_left _ _ (by rw [List.length_map]; exact hj), ← List.append_assoc]
  congr 2
  rw [show Value.int .u8 (c.toNat : Int) = bV c from rfl, ← List.map_set]
theorem ecells_atE (s dec : List UInt8) (p : Int) (hs : s.length = 64) (k : Nat) (hk : k < 64) : (ecells s dec p)[k]? = some (bV (s.getD k 0)) := by
  unfold ecells
  rw [List.getElem?_toArray, List.append_assoc, List.getElem?_append_left (by rw [List.length_map, hs]; exact hk), List.getElem?_map, List.getElem?_eq_getElem (by omega), List.getD_eq_getElem?_getD, List.getElem?_eq_getElem (by omega)]
  rfl
theorem ecells_atD (s dec : List UInt8) (p : Int) (hs : s.length = 64) (hd : dec.length = 256) (k : Nat) (hk : k < 256) : (ecells s dec p)[64 + k]? = some (bV (dec.getD k 0)) := by
  unfold ecells
  rw [List.getElem?_toArray, List.append_assoc, List.getElem?_append_right (by rw [List.length_map, hs]; omega), List.length_map, hs, Nat.add_sub_cancel_left, List.getElem?_append_left (by rw [List.length_map, hd]; exact hk), List.getElem?_map, List.getElem?_eq_getElem (by omega), List.getD_eq_getElem?_getD, List.getElem?_eq_getElem (by omega)]
  rfl
theorem ecells_atP (s dec : List UInt8) (p : Int) (hs : s.length = 64) (hd : dec.length = 256) : (ecells s dec p)[320]? = some (.int .i32 p) := by
  unfold ecells
  rw [List.getElem?_toArray, List.getElem?_append_right (by simp [hs, hd])]
  simp [hs, hd]
theorem ecells_atS (s dec : List UInt8) (p : Int) (hs : s.length = 64) (hd : dec.length = 256) : (ecells s dec p)[321]? = some (.bool false) := by
  unfold ecells
  rw [List.getElem?_toArray, List.getElem?_append_right (by simp [hs, hd])]
  simp [hs, hd]
end Go.Proofs.YtlncbbmmlhammaaDoor
