/-
  Words of this session: a zero value of a wide type as a block; copy from a text into a block. No program in sight.
  Bytes as numbers of 64 bits, in parts of six bits: as the walk spells them. No program in sight.
  encoding/base64: NewEncoding, WithPadding, the four encodings: their contracts.
  encoding/base64: NewEncoding's walk.
  encoding/base64: WithPadding; zzRawURL, zzURL, zzRawStd, zzStdPadded: their contracts.
  encoding/base64: EncodedLen, Encode without padding: their contracts.
  laws.partOwn: a copy.
  bytes.Clone: a copy, or nil.
  inner/base64: Encode, EncodeToString, EncodedLen: their contracts.
  impl.Encoded and the like: their contracts.
  spec.PartSame: whether bytes are equal.
  Two assertions, exchanged (the Door seat's part of Encode4).
  What a copy gives, as a callee wants it (the Door seat's part of Encode5).
-/
import Derived.Test.YtdldblfklalaeaaGreatDoorQa
import Derived.Lib.BufferWrite
import Derived.Test.YtdldblfklalaeaaGreatDoorRows
import Derived.WalkKit
import Derived.WalkSpells
import Derived.WalkLawsBesides
import Derived.Deep.QuietTactic
import Derived.BigQuiet
import Derived.Deep.DeepCutAuto
import Derived.Deep.CutBlock
import Derived.Laws.Rows
import Derived.Deep.MidRow
namespace Go.Proofs.YtdldblfklalaeaaGreatDoor
open Go.RowKit Go.Proofs.YtdldblfklalaeaaGreatDoorW.PrintWords Go.Lib
set_option linter.unusedVariables false
section
variable {P : Program} {ops : Array Oper} {rest : List Oper} {o : Oper} {a : Act} {Q : Exit → Act → World → Prop} {w0 W : World} {B : Nat} {L : List Asrt}
/-- new(T), of a wide type: its cells by name. -/
theorem Hold.allocZ (hS : Hold w0 B W L) (hgd : o.guard = none) {N : Tmp} (hd : o.dst = some N) (t : TypeId) (ho : o.op = .alloc t) (z : Value) (cs : Array Value) (hz : (P.info? t).map (·.zero) = some (some z)) (hcs : z.cells = cs)
    (h : ∀ w1, Hold w0 B w1 (.blk W.heap.size (.cells cs t (0, 0)) :: L) → W.heap.size < w1.heap.size → wpList P ops Q rest (a.put o.dst (.pointer (some ⟨W.heap.size, 0, none⟩))) w1) : wpList P ops Q (o :: rest) a W := by
  subst hcs
  refine wpList_plain hgd fun K hK => ?_
  unfold Oper.wp execOp
  cases hi : P.info? t with
  | none => simp [hi] at hz
  | some i =>
    have hz' : i.zero = some z := by simpa [hi] using hz
    simp [ho, Instr.alloc, zeroValue, typeInfo, hi, hz', newVar]
    exact hK _ _ (h _ (hS.alloc _) (by simp))
/-- copy(dst, s), dst a part of a block. -/
theorem Hold.copyStr (i : Nat) (hS : Hold w0 B W L) {g t : Nat} {cs : Array Value} (hi : L[i]? = some (.blk g (.cells cs t (0, 0)))) (hgd : o.guard = none) (d s : Operand) (dT sT e : TypeId)
    (ho : o.op = .call { callee := .builtin .copy, args := #[d, s], argTypes := #[dT, sT] }) (hu : P.underlying dT = some (.slice e)) (hsz : (P.info? e).map (·.size) = some 1)
    (off dLen dCap : Nat) (b : ByteArray) (hd : a.eval d = .slice (some ⟨g, off, none⟩) dLen dCap) (hs : a.eval s = .string b) (hle : b.size ≤ dLen) (hfit : off + b.size ≤ cs.size)
    (cs' : Array Value) (hcs : (cs.toList.take off ++ byteCells b.data.toList ++ cs.toList.drop (off + b.size)).toArray = cs')
    (h : ∀ w1, Hold w0 B w1 (L.set i (.blk g (.cells cs' t (0, 0)))) → w1.heap.size = W.heap.size → wpList P ops Q rest (a.put o.dst (goInt b.size)) w1) : wpList P ops Q (o :: rest) a W := by
  subst hcs
  refine wpList_plain hgd fun K hK => ?_
  unfold Oper.wp execOp
  simp only [ho, resolve, invoke, builtin, Sem.run_bind, Sem.run_pure, Result.andThen_ok, List.map_toArray, List.map_cons, List.map_nil, hd, hs]
  rw [run_copy_row_string W dT sT o.type e g off dLen dCap b cs t hu hsz (hS.blk i hi) hle hfit]
  exact hK _ _ (h _ (hS.setRow i hi) (by simp [World.setRow]))
end
end Go.Proofs.YtdldblfklalaeaaGreatDoor
namespace Go.Proofs.YtdldblfklalaeaaGreatDoor
open Go.RowKit Go.Proofs.YtdldblfklalaeaaGreatDoorW.PrintWords
set_option linter.unusedVariables false
set_option linter.unusedSimpArgs false
theorem wrapN (n : Nat) (h : n < 18446744073709551616) : IntKind.u64.wrap (n : Int) = (n : Int) := by
  simp only [IntKind.wrap, IntKind.u64, IntKind.signed, IntKind.bits]
  simp
  omega
theorem and63 (a : Nat) (h : a < 18446744073709551616) : bits .and .u64 (a : Int) 63 = ((a % 64 : Nat) : Int) := by
  have := u64_and_nat a 63 h (by decide)
  rw [show (63 : Int) = ((63 : Nat) : Int) from rfl, this, show (63 : Nat) = 2 ^ 6 - 1 from rfl, Nat.and_two_pow_sub_one_eq_mod]
theorem or_add (a b k : Nat) (hb : b < 2 ^ k) : (a * 2 ^ k) ||| b = a * 2 ^ k + b := by
  rw [Nat.mul_comm, ← Nat.two_pow_add_eq_or_of_lt hb]
theorem orN (a b : Nat) (ha : a < 18446744073709551616) (hb : b < 18446744073709551616) : bits .or .u64 (a : Int) (b : Int) = ((a ||| b : Nat) : Int) := u64_or_nat a b ha hb
theorem v1_eq (x : UInt8) : IntKind.u64.wrap (IntKind.u64.wrap (x.toNat : Int) * 65536) = ((x.toNat * 65536 : Nat) : Int) := by
  have h := x.toNat_lt
  rw [wrapN _ (by omega), show (x.toNat : Int) * 65536 = ((x.toNat * 65536 : Nat) : Int) by omega, wrapN _ (by omega)]
theorem v2_eq (x y : UInt8) : bits .or .u64 (IntKind.u64.wrap (IntKind.u64.wrap (x.toNat : Int) * 65536)) (IntKind.u64.wrap (IntKind.u64.wrap (y.toNat : Int) * 256)) = ((x.toNat * 65536 + y.toNat * 256 : Nat) : Int) := by
  have h := x.toNat_lt
  have k := y.toNat_lt
  rw [v1_eq, wrapN y.toNat (by omega), show (y.toNat : Int) * 256 = ((y.toNat * 256 : Nat) : Int) by omega, wrapN _ (by omega), orN _ _ (by omega) (by omega)]
  rw [show x.toNat * 65536 = x.toNat * 2 ^ 16 from rfl, or_add _ _ 16 (by omega)]
theorem v3_eq (x y z : UInt8) : bits .or .u64 (bits .or .u64 (IntKind.u64.wrap (IntKind.u64.wrap (x.toNat : Int) * 65536)) (IntKind.u64.wrap (IntKind.u64.wrap (y.toNat : Int) * 256))) (IntKind.u64.wrap (z.toNat : Int)) = ((x.toNat * 65536 + y.toNat * 256 + z.toNat : Nat) : Int) := by
  have h := x.toNat_lt
  have k := y.toNat_lt
  have l := z.toNat_lt
  rw [v2_eq, wrapN z.toNat (by omega), orN _ _ (by omega) (by omega), show x.toNat * 65536 + y.toNat * 256 = (x.toNat * 256 + y.toNat) * 2 ^ 8 by omega, or_add _ _ 8 (by omega)]
theorem part (n d : Nat) (hn : n < 18446744073709551616) : bits .and .u64 ((n : Int) / (d : Int)) 63 = ((n / d % 64 : Nat) : Int) := by
  rw [← Int.natCast_ediv, and63 _ (Nat.lt_of_le_of_lt (Nat.div_le_self _ _) hn)]
theorem part0 {N : Int} (n d i : Nat) (h : N = (n : Int)) (hn : n < 18446744073709551616) (hi : n / d % 64 = i) : bits .and .u64 (N / (d : Int)) 63 = (i : Int) := by
  rw [h, part n d hn, hi]
theorem part1 {N : Int} (n i : Nat) (h : N = (n : Int)) (hn : n < 18446744073709551616) (hi : n % 64 = i) : bits .and .u64 N 63 = (i : Int) := by
  rw [h, and63 n hn, hi]
end Go.Proofs.YtdldblfklalaeaaGreatDoor
namespace Go.Proofs.YtdldblfklalaeaaGreatDoor
open Go.RowKit Go.Proofs.YtdldblfklalaeaaGreatDoorW.PrintWords Go.Lib
set_option linter.unusedVariables false
set_option linter.unusedSimpArgs false
/-- The cells of an encoding. -/
def ecells (enc dec : List UInt8) (pad : Int) : Array Value := (enc.map bV ++ dec.map bV ++ [Value.int .i32 pad, Value.bool false]).toArray
/-- The map behind k letters of an alphabet. -/
def decN (s : List UInt8) : Nat → List UInt8
  | 0 => List.replicate 256 255
  | k + 1 => (decN s k).set (s.getD k 0).toNat (UInt8.ofNat k)
theorem decN_len (s : List UInt8) : ∀ k, (decN s k).length = 256
  | 0 => List.length_replicate
  | k + 1 => (List.length_set ..).trans (decN_len s k)
theorem ecells_size {enc dec : List UInt8} {pad : Int} (h1 : enc.length = 64) (h2 : dec.length = 256) : (ecells enc dec pad).size = 322 := by
  unfold ecells
  rw [List.size_toArray, List.length_append, List.length_append, List.length_map, List.length_map, h1, h2]
  rfl
/-- An alphabet of 64 letters, each once, none the end of a line. -/
structure Alpha (s : List UInt8) : Prop where
  len : s.length = 64
  ok : ∀ k, k < 64 → (s.getD k 0 ≠ 10 ∧ s.getD k 0 ≠ 13) ∧ (decN s k).getD (s.getD k 0).toNat 0 = 255
def zEnc : Value := .agg (ecells (List.replicate 64 0) (List.replicate 256 0) 0)
theorem zEnc_info : (Tryz.prog.info? 220).map (·.zero) = some (some zEnc) := by kernel_rfl


def ff256 : List UInt8 := List.replicate 256 255
theorem ecells_pad (enc dec : List UInt8) (h1 : enc.length = 64) (h2 : dec.length = 256) (p q : Int) : (ecells enc dec p).setIfInBounds 320 (.int .i32 q) = ecells enc dec q := by
  unfold ecells
  apply Array.ext'
  simp only [Array.toList_setIfInBounds]
  rw [List.set_append_right _ _ (by simp [h1, h2])]
  simp [h1, h2]
theorem byteCells_eq (l : List UInt8) : byteCells l = l.map bV := rfl
theorem ecells_enc (s dec : List UInt8) (n : List UInt8) (hs : s.length = 64) (hn : n.length = 64) (p : Int) : ((ecells n dec p).toList.take 0 ++ byteCells s ++ (ecells n dec p).toList.drop (0 + 64)).toArray = ecells s dec p := by
  unfold ecells
  rw [byteCells_eq]
  simp only [List.take_zero, List.nil_append, Nat.zero_add]
  rw [List.append_assoc, List.drop_append_of_le_length (by rw [List.length_map, hn]; exact Nat.le_refl _), List.drop_of_length_le (by rw [List.length_map, hn]; exact Nat.le_refl _), List.nil_append, List.append_assoc]
theorem ecells_dec (s n dec : List UInt8) (hs : s.length = 64) (hn : n.length = 256) (hd : dec.length = 256) (p : Int) : ((ecells s n p).toList.take 64 ++ byteCells dec ++ (ecells s n p).toList.drop (64 + 256)).toArray = ecells s dec p := by
  unfold ecells
  rw [byteCells_eq]
  have h1 : (s.map bV).length = 64 := by rw [List.length_map, hs]
  have h2 : (n.map bV).length = 256 := by rw [List.length_map, hn]
  have e1 : (s.map bV ++ n.map bV ++ [Value.int .i32 p, Value.bool false]).take 64 = s.map bV := by
    rw [List.append_assoc, List.take_append_of_le_length (by omega), List.take_of_length_le (by omega)]
  have e2 : (s.map bV ++ n.map bV ++ [Value.int .i32 p, Value.bool false]).drop (64 + 256) = [Value.int .i32 p, Value.bool false] := by
    rw [List.drop_append_of_le_length (by rw [List.length_append]; omega), List.drop_of_length_le (by rw [List.length_append]; omega), List.nil_append]
  rw [show (s.map bV ++ n.map bV ++ [Value.int .i32 p, Value.bool false]).toArray.toList = s.map bV ++ n.map bV ++ [Value.int .i32 p, Value.bool false] from rfl, e1, e2]
theorem ecells_set (s dec : List UInt8) (hs : s.length = 64) (j : Nat) (hj : j < dec.length) (c : UInt8) (p : Int) : (ecells s dec p).setIfInBounds (64 + j) (.int .u8 (c.toNat : Int)) = ecells s (dec.set j c) p := by
  unfold ecells
  apply Array.ext'
  simp only [Array.toList_setIfInBounds]
  rw [List.append_assoc, List.set_append_right _ _ (by simp [hs]), List.length_map, hs, Nat.add_sub_cancel_left, List.set_append_left _ _ (by rw [List.length_map]; exact hj), ← List.append_assoc]
  congr 2
  rw [show Value.int .u8 (c.toNat : Int) = bV c from rfl, ← List.map_set]
theorem ecells_atE (s dec : List UInt8) (p : Int) (hs : s.length = 64) (k : Nat) (hk : k < 64) : (ecells s dec p)[k]? = some (bV (s.getD k 0)) := by
  unfold ecells
  rw [List.getElem?_toArray, List.append_assoc, List.getElem?_append_left (by rw [List.length_map, hs]; exact hk), List.getElem?_map, List.getElem?_eq_getElem (by omega), List.getD_eq_getElem?_getD, List.getElem?_eq_getElem (by omega)]
  rfl
theorem ecells_atD (s dec : List UInt8) (p : Int) (hs : s.length = 64) (hd : dec.length = 256) (k : Nat) (hk : k < 256) : (ecells s dec p)[64 + k]? = some (bV (dec.getD k 0)) := by
  unfold ecells
  rw [List.getElem?_toArray, List.append_assoc, List.getElem?_append_right (by rw [List.length_map, hs]; omega), List.length_map, hs, Nat.add_sub_cancel_left, List.getElem?_append_left (by rw [List.length_map, hd]; exact hk), List.getElem?_map, List.getElem?_eq_getElem (by omega), List.getD_eq_getElem?_getD, List.getElem?_eq_getElem (by omega)]
  rfl
theorem ecells_atP (s dec : List UInt8) (p : Int) (hs : s.length = 64) (hd : dec.length = 256) : (ecells s dec p)[320]? = some (.int .i32 p) := by
  unfold ecells
  rw [List.getElem?_toArray, List.getElem?_append_right (by simp [hs, hd])]
  simp [hs, hd]
theorem ecells_atS (s dec : List UInt8) (p : Int) (hs : s.length = 64) (hd : dec.length = 256) : (ecells s dec p)[321]? = some (.bool false) := by
  unfold ecells
  rw [List.getElem?_toArray, List.getElem?_append_right (by simp [hs, hd])]
  simp [hs, hd]
end Go.Proofs.YtdldblfklalaeaaGreatDoor
namespace Go.Proofs.YtdldblfklalaeaaGreatDoor
open Go.RowKit Go.Proofs.YtdldblfklalaeaaGreatDoorW.PrintWords Go.Lib
set_option linter.unusedVariables false
set_option linter.unusedSimpArgs false
theorem Hold.cellq {w0 : World} {B : Nat} {w : World} {L : List Asrt} {g : Nat} {cs : Array Value} {t : Nat} (hS : Hold w0 B w L) (i : Nat) (hi : L[i]? = some (.blk g (.cells cs t (0, 0)))) (j : Nat) (v : Value) (hj : cs[j]? = some v) :
    w.cell? ⟨g, j, none⟩ = some v ∧ w.frozen? ⟨g, j, none⟩ = false := by
  obtain ⟨hjs, hv⟩ := Array.getElem?_eq_some_iff.1 hj
  have := hS.cell i hi j hjs
  rw [hv] at this
  exact this
set_option maxRecDepth 100000 in
set_option maxHeartbeats 4000000 in
theorem newEnc_any (w : World) (s : ByteArray) (hA : Alpha s.data.toList) :
    Calls Tryz.prog 118 #[.string s] w fun e w' => e = .returned (.pointer (some ⟨w.heap.size, 0, none⟩)) ∧ Hold w w.heap.size w' [.blk w.heap.size (.cells (ecells s.data.toList (decN s.data.toList 64) 61) 220)] := by
  have hsz : s.size = 64 := hA.len
  have H0 := Aside0.mk (Hold.start w)
  have HA := Aside0.mk hA
  have hu := Tryz.underlying220
  have HZ1 : Aside0 (0 + s.size ≤ (ecells (List.replicate 64 0) (List.replicate 256 0) 61).size) := ⟨by rw [ecells_size List.length_replicate List.length_replicate]; omega⟩
  have HZ2 : Aside0 (((ecells (List.replicate 64 0) (List.replicate 256 0) 61).toList.take 0 ++ byteCells s.data.toList ++ (ecells (List.replicate 64 0) (List.replicate 256 0) 61).toList.drop (0 + s.size)).toArray = ecells s.data.toList (List.replicate 256 0) 61) := ⟨by rw [hsz]; exact ecells_enc _ _ _ hA.len List.length_replicate _⟩
  have HZ3 : Aside0 (64 + 256 ≤ (ecells s.data.toList (List.replicate 256 0) 61).size) := ⟨by rw [ecells_size hA.len List.length_replicate]; decide⟩
  clear hA
  go_enter Tryz.func118, Tryz.ntmps118
  go_wp2_with (first
    | ((with_reducible refine at_dst (N := 9) rfl ?_); refine Hold.allocZ H0.out rfl rfl 220 rfl zEnc _ zEnc_info rfl ?_; intro w1 h1 hlt1; have H1 := Aside0.mk h1; have hc := (H1.out.cellq 0 rfl 320 _ (ecells_atP _ _ _ (by rfl) (by rfl))).1; have hf := (H1.out.cellq 0 rfl 320 _ (ecells_atP _ _ _ (by rfl) (by rfl))).2; have H2 : Aside0 (Hold w w.heap.size (w1.setCell ⟨w.heap.size, 320, none⟩ (.int .i32 61)) [.blk w.heap.size (.cells (ecells (List.replicate 64 0) (List.replicate 256 0) 61) 220)]) := ⟨(by have h := H1.out.store 0 rfl 320 (.int .i32 61); rw [show zEnc.cells = ecells (List.replicate 64 0) (List.replicate 256 0) 0 from rfl, ecells_pad _ _ (by rfl) (by rfl)] at h; exact h)⟩; clear h1 H0 H1)
    | ((with_reducible refine at_bi (b := .copy) (xs := #[.tmp 16, .tmp 17]) rfl ?_); refine Hold.copyStr 0 H2.out rfl rfl (.tmp 16) (.tmp 17) 30 9 5 rfl Tryz.underlying30 (by kernel_rfl) 0 64 64 s rfl rfl (by omega) HZ1.out _ HZ2.out ?_; intro w2 h3 hs2; have H3 := Aside0.mk h3; clear h3 H2)
    | ((with_reducible refine at_bi (b := .copy) (xs := #[.tmp 22, _]) rfl ?_); refine Hold.copyStr 0 H3.out rfl rfl (.tmp 22) _ 30 9 5 rfl Tryz.underlying30 (by kernel_rfl) 64 256 256 ⟨ff256.toArray⟩ rfl rfl (by show 256 ≤ 256; exact Nat.le_refl _) HZ3.out (ecells s.data.toList ff256 61) (ecells_dec _ _ _ HA.out.len List.length_replicate List.length_replicate _) ?_; intro w3 h4 hs3; have H4 := Aside0.mk h4; clear h4 H3))
  clear hc hf
  go_loopw [4] (fun i wr => ∃ k : Nat, k ≤ 64 ∧ i = .int .i64 k ∧ Hold w w.heap.size wr [.blk w.heap.size (.cells (ecells s.data.toList (decN s.data.toList k) 61) 220)]) (fun i _ => 64 - (intOf i).toNat)
  case atStart => exact ⟨0, Nat.zero_le _, rfl, H4.out⟩
  case round =>
    obtain ⟨k, hk, rfl, hR⟩ := hrel
    have HR := Aside0.mk hR
    clear hR H4
    by_cases hlt : k < 64
    · have hlt2 : k + 1 ≤ 64 := hlt
      obtain ⟨⟨hn1, hn2⟩, hn3⟩ := HA.out.ok k hlt
      have hks : k < s.size := by omega
      obtain ⟨c, hc⟩ : ∃ c, c = s[k] := ⟨_, rfl⟩
      have hcd : s.data.toList.getD k 0 = c := by
        rw [hc, List.getD_eq_getElem?_getD, List.getElem?_eq_getElem (by simpa using hks)]
        simp [ByteArray.getElem_eq_getElem_data]
      rw [hcd] at hn1 hn2 hn3
      have hsk : s[k] = c := hc.symm
      have hlc : c.toNat < 256 := c.toNat_lt
      have t1 : ((c.toNat : Int) == 10) = false := by
        rw [beq_eq_false_iff_ne]; intro h; exact hn1 (UInt8.toNat_inj.1 (by show c.toNat = 10; omega))
      have t2 : ((c.toNat : Int) == 13) = false := by
        rw [beq_eq_false_iff_ne]; intro h; exact hn2 (UInt8.toNat_inj.1 (by show c.toNat = 13; omega))
      have HD : Aside0 ((decN s.data.toList k).set c.toNat (UInt8.ofNat k) = decN s.data.toList (k + 1)) := ⟨by show _ = (decN s.data.toList k).set _ _; rw [hcd]⟩
      obtain ⟨e1, f1⟩ := HR.out.cellq 0 rfl (64 + c.toNat) _ (ecells_atD _ _ _ HA.out.len (decN_len _ _) c.toNat hlc)
      rw [hn3] at e1
      have e2 : wr.cell? ⟨w.heap.size, 64 + c.toNat, none⟩ = some (.int .u8 255) := e1
      clear hn1 hn2 hn3 hc hcd e1
      go_wp2
      go_quiet (fail)
      go_wp2
      go_region
      go_wp2
      go_roundw
      case rel =>
        refine ⟨k + 1, hlt2, by go_num, ?_⟩
        have hv : (k : Int) = ((UInt8.ofNat k).toNat : Int) := by
          rw [UInt8.toNat_ofNat_of_lt' (by show k < 256; omega)]
        rw [hv]
        have h := (HR.out.drewN (nq + 1)).store 0 rfl (64 + c.toNat) (.int .u8 ((UInt8.ofNat k).toNat : Int))
        rw [ecells_set _ _ HA.out.len _ (by rw [decN_len]; exact hlc), HD.out] at h
        exact h
      case measure => simp [intOf]; omega
    · obtain rfl : k = 64 := by omega
      go_wp2
      go_ret
      exact ⟨rfl, HR.out⟩
end Go.Proofs.YtdldblfklalaeaaGreatDoor
namespace Go.Proofs.YtdldblfklalaeaaGreatDoor
open Go.RowKit Go.Proofs.YtdldblfklalaeaaGreatDoorW.PrintWords Go.Lib
set_option linter.unusedVariables false
set_option linter.unusedSimpArgs false
set_option maxRecDepth 100000 in
set_option maxHeartbeats 2000000 in
theorem withPad_any (w : World) (enc dec : List UInt8) (h1 : enc.length = 64) (h2 : dec.length = 256) :
    Calls Tryz.prog 119 #[.agg (ecells enc dec 61), .int .i32 (-1)] w fun e w' => e = .returned (.pointer (some ⟨w.heap.size, 0, none⟩)) ∧ Hold w w.heap.size w' [.blk w.heap.size (.cells (ecells enc dec (-1)) 220)] := by
  have h3 := ecells_atP enc dec 61 h1 h2
  have HE := Aside0.mk (ecells_pad enc dec h1 h2 61 (-1))
  clear h1 h2
  have hu := Tryz.underlying220
  generalize ecells enc dec 61 = cs at *
  go_enter Tryz.func119, Tryz.ntmps119
  go_wp2
  go_ret
  rw [HE.out]
  exact ⟨rfl, (Hold.start w).alloc _⟩
def letU : List UInt8 := [65, 66, 67, 68, 69, 70, 71, 72, 73, 74, 75, 76, 77, 78, 79, 80, 81, 82, 83, 84, 85, 86, 87, 88, 89, 90, 97, 98, 99, 100, 101, 102, 103, 104, 105, 106, 107, 108, 109, 110, 111, 112, 113, 114, 115, 116, 117, 118, 119, 120, 121, 122, 48, 49, 50, 51, 52, 53, 54, 55, 56, 57, 45, 95]
def letS : List UInt8 := [65, 66, 67, 68, 69, 70, 71, 72, 73, 74, 75, 76, 77, 78, 79, 80, 81, 82, 83, 84, 85, 86, 87, 88, 89, 90, 97, 98, 99, 100, 101, 102, 103, 104, 105, 106, 107, 108, 109, 110, 111, 112, 113, 114, 115, 116, 117, 118, 119, 120, 121, 122, 48, 49, 50, 51, 52, 53, 54, 55, 56, 57, 43, 47]
def alphaB (s : List UInt8) : Bool := s.length == 64 && (List.range 64).all fun k => (s.getD k 0 != 10 && s.getD k 0 != 13) && (decN s k).getD (s.getD k 0).toNat 0 == 255
theorem alpha_of {s : List UInt8} (h : alphaB s = true) : Alpha s := by
  unfold alphaB at h
  simp only [Bool.and_eq_true, beq_iff_eq, List.all_eq_true, List.mem_range, bne_iff_ne] at h
  exact ⟨h.1, fun k hk => h.2 k hk⟩
theorem alphaU : Alpha letU := alpha_of (by decide +kernel)
theorem alphaS : Alpha letS := alpha_of (by decide +kernel)
def letX (url : Bool) : List UInt8 := if url then letU else letS
def decX (url : Bool) : List UInt8 := decN (letX url) 64
def encX (url : Bool) (pad : Int) : Array Value := ecells (letX url) (decX url) pad
theorem letX_len (url : Bool) : (letX url).length = 64 := by cases url <;> rfl
theorem decX_len (url : Bool) : (decX url).length = 256 := decN_len _ _
/-- What a function that makes an encoding gives. -/
def Makes (url : Bool) (pad : Int) (w : World) (e : Ending) (w' : World) : Prop := ∃ g, e = .returned (.pointer (some ⟨g, 0, none⟩)) ∧ Hold w w.heap.size w' [.blk g (.cells (encX url pad) 220)]
set_option maxRecDepth 100000 in
set_option maxHeartbeats 2000000 in
theorem rawURL_any (w : World) : Calls Tryz.prog 105 #[] w (Makes true (-1) w) := by
  go_enter Tryz.func105, Tryz.ntmps105
  go_wp2_with fail
  refine (newEnc_any _ ⟨letU.toArray⟩ alphaU).mono ?_
  rintro e w1 ⟨rfl, hH⟩
  have H1 := Aside0.mk hH
  clear hH
  go_wp2_with ((with_reducible refine at_dst (N := 3) rfl ?_); refine wpList_load_row rfl 220 (.tmp 2) rfl _ rfl _ _ _ _ (H1.out.blk 0 rfl) Tryz.underlying220 rfl (by rw [ecells_size alphaU.len (decN_len _ _)]; kernel_rfl) ?_)
  refine (withPad_any _ _ _ alphaU.len (decN_len _ _)).mono ?_
  rintro e w2 ⟨rfl, hH⟩
  have H2 := Aside0.mk ((H1.out.app hH).pick [0] (by decide) (L' := [.blk w1.heap.size (.cells (encX true (-1)) 220)]) rfl)
  clear hH
  go_wp2
  go_ret
  exact ⟨_, rfl, H2.out⟩
set_option maxRecDepth 100000 in
set_option maxHeartbeats 2000000 in
theorem rawStd_any (w : World) : Calls Tryz.prog 190 #[] w (Makes false (-1) w) := by
  go_enter Tryz.func190, Tryz.ntmps190
  go_wp2_with fail
  refine (newEnc_any _ ⟨letS.toArray⟩ alphaS).mono ?_
  rintro e w1 ⟨rfl, hH⟩
  have H1 := Aside0.mk hH
  clear hH
  go_wp2_with ((with_reducible refine at_dst (N := 3) rfl ?_); refine wpList_load_row rfl 220 (.tmp 2) rfl _ rfl _ _ _ _ (H1.out.blk 0 rfl) Tryz.underlying220 rfl (by rw [ecells_size alphaS.len (decN_len _ _)]; kernel_rfl) ?_)
  refine (withPad_any _ _ _ alphaS.len (decN_len _ _)).mono ?_
  rintro e w2 ⟨rfl, hH⟩
  have H2 := Aside0.mk ((H1.out.app hH).pick [0] (by decide) (L' := [.blk w1.heap.size (.cells (encX false (-1)) 220)]) rfl)
  clear hH
  go_wp2
  go_ret
  exact ⟨_, rfl, H2.out⟩
set_option maxRecDepth 100000 in
set_option maxHeartbeats 2000000 in
theorem url_any (w : World) : Calls Tryz.prog 189 #[] w (Makes true 61 w) := by
  go_enter Tryz.func189, Tryz.ntmps189
  go_wp2_with fail
  refine (newEnc_any _ ⟨letU.toArray⟩ alphaU).mono ?_
  rintro e w1 ⟨rfl, hH⟩
  have H1 := Aside0.mk hH
  clear hH
  go_wp2
  go_ret
  exact ⟨_, rfl, H1.out⟩
set_option maxRecDepth 100000 in
set_option maxHeartbeats 2000000 in
theorem std_any (w : World) : Calls Tryz.prog 191 #[] w (Makes false 61 w) := by
  go_enter Tryz.func191, Tryz.ntmps191
  go_wp2_with fail
  refine (newEnc_any _ ⟨letS.toArray⟩ alphaS).mono ?_
  rintro e w1 ⟨rfl, hH⟩
  have H1 := Aside0.mk hH
  clear hH
  go_wp2
  go_ret
  exact ⟨_, rfl, H1.out⟩
end Go.Proofs.YtdldblfklalaeaaGreatDoor
namespace Go.Proofs.YtdldblfklalaeaaGreatDoor
open Go.RowKit Go.Proofs.YtdldblfklalaeaaGreatDoorW.PrintWords Go.Lib
set_option linter.unusedVariables false
set_option linter.unusedSimpArgs false
def encLen (n : Nat) : Nat := n / 3 * 4 + (n % 3 * 8 + 5) / 6
def b64at (url : Bool) (k : Nat) : UInt8 := (letX url).getD k 0
/-- Base64 without padding. -/
def b64 (url : Bool) : List UInt8 → List UInt8
  | x :: y :: z :: r => b64at url (x.toNat / 4) :: b64at url (x.toNat % 4 * 16 + y.toNat / 16) :: b64at url (y.toNat % 16 * 4 + z.toNat / 64) :: b64at url (z.toNat % 64) :: b64 url r
  | [x, y] => [b64at url (x.toNat / 4), b64at url (x.toNat % 4 * 16 + y.toNat / 16), b64at url (y.toNat % 16 * 4)]
  | [x] => [b64at url (x.toNat / 4), b64at url (x.toNat % 4 * 16)]
  | [] => []
theorem b64_len (url : Bool) : ∀ xs : List UInt8, (b64 url xs).length = encLen xs.length
  | x :: y :: z :: r => by
    simp only [b64, List.length_cons, b64_len url r]
    unfold encLen
    omega
  | [x, y] => by simp [b64, encLen]
  | [x] => by simp [b64, encLen]
  | [] => by simp [b64, encLen]
set_option maxHeartbeats 1000000 in
theorem encLen_any {w0 : World} {B : Nat} {L : List Asrt} (w : World) (url : Bool) (g n : Nat) (hn : n ≤ 1000000000) (H : Hold w0 B w (.blk g (.cells (encX url (-1)) 220) :: L)) :
    Calls Tryz.prog 206 #[.pointer (some ⟨g, 0, none⟩), .int .i64 n] w fun e w' => e = .returned (.int .i64 (encLen n : Nat)) ∧ w = w' := by
  have hp := (H.cellq 0 rfl 320 _ (ecells_atP _ _ _ (letX_len url) (decX_len url))).1
  have hu := Tryz.underlying220
  have HE : Aside0 (encLen n = n / 3 * 4 + (n % 3 * 8 + 5) / 6) := ⟨rfl⟩
  clear H
  go_enter Tryz.func206, Tryz.ntmps206
  go_wp2
  go_ret
  refine ⟨?_, rfl⟩
  rw [HE.out]
  go_num

theorem cell_of_C {w : World} {b o n : Nat} {xs : List UInt8} (h : kB.C w (some ⟨b, o, none⟩) n xs) (k : Nat) (hk : k < xs.length) : w.cell? ⟨b, o + k, none⟩ = some (bV xs[k]) := by
  obtain ⟨ad, e, hc⟩ := C1_get h k hk
  injection e with e
  subst e
  rwa [Addr.add_mid] at hc
def putN (cs : Array Value) (off : Nat) : List Value → Array Value
  | [] => cs
  | v :: r => putN (cs.setIfInBounds off v) (off + 1) r
theorem putN_snoc : ∀ (vs : List Value) (cs : Array Value) (off : Nat) (v : Value), putN cs off (vs ++ [v]) = (putN cs off vs).setIfInBounds (off + vs.length) v
  | [], cs, off, v => rfl
  | u :: r, cs, off, v => by
    show putN (cs.setIfInBounds off u) (off + 1) (r ++ [v]) = (putN (cs.setIfInBounds off u) (off + 1) r).setIfInBounds (off + (r.length + 1)) v
    rw [putN_snoc r, show off + 1 + r.length = off + (r.length + 1) by omega]
theorem putN_size : ∀ (vs : List Value) (cs : Array Value) (off : Nat), (putN cs off vs).size = cs.size
  | [], _, _ => rfl
  | u :: r, cs, off => (putN_size r _ _).trans (Array.size_setIfInBounds ..)
theorem b64_take (url : Bool) : ∀ (k : Nat) (xs : List UInt8), 3 * k + 3 ≤ xs.length → b64 url (xs.take (3 * k + 3)) = b64 url (xs.take (3 * k)) ++ b64 url ((xs.drop (3 * k)).take 3)
  | 0, x :: y :: z :: r, _ => by simp [b64]
  | k + 1, x :: y :: z :: r, h => by
    have h' : 3 * k + 3 ≤ r.length := by simp at h; omega
    rw [show 3 * (k + 1) + 3 = (3 * k + 3) + 1 + 1 + 1 by omega, show 3 * (k + 1) = 3 * k + 1 + 1 + 1 by omega]
    simp only [List.take_succ_cons, List.drop_succ_cons, b64]
    rw [b64_take url k r h']
    rfl
theorem putN4 (vs : List Value) (cs : Array Value) (off n : Nat) (a b c d : Value) (hn : vs.length = n) : putN cs off (vs ++ [a, b, c, d]) = ((((putN cs off vs).setIfInBounds (off + n) a).setIfInBounds (off + n + 1) b).setIfInBounds (off + n + 2) c).setIfInBounds (off + n + 3) d := by
  subst hn
  rw [show vs ++ [a, b, c, d] = vs ++ [a] ++ [b] ++ [c] ++ [d] by simp, putN_snoc, putN_snoc, putN_snoc, putN_snoc]
  simp only [List.length_append, List.length_singleton, Nat.add_assoc]
theorem drop_take3 {xs : List UInt8} {j : Nat} (h0 : j < xs.length) (h1 : j + 1 < xs.length) (h2 : j + 2 < xs.length) : (xs.drop j).take 3 = [xs[j], xs[j + 1], xs[j + 2]] := by
  rw [List.drop_eq_getElem_cons h0, List.drop_eq_getElem_cons h1, List.drop_eq_getElem_cons h2]
  rfl
theorem b64_step (url : Bool) {xs : List UInt8} {k : Nat} (h0 : 3 * k < xs.length) (h1 : 3 * k + 1 < xs.length) (h2 : 3 * k + 2 < xs.length) {x y z : UInt8} (hx : x = xs[3 * k]) (hy : y = xs[3 * k + 1]) (hz : z = xs[3 * k + 2]) :
    b64 url (xs.take (3 * (k + 1))) = b64 url (xs.take (3 * k)) ++ [b64at url (x.toNat / 4), b64at url (x.toNat % 4 * 16 + y.toNat / 16), b64at url (y.toNat % 16 * 4 + z.toNat / 64), b64at url (z.toNat % 64)] := by
  rw [show 3 * (k + 1) = 3 * k + 3 by omega, b64_take url k xs (by omega), drop_take3 h0 h1 h2, ← hx, ← hy, ← hz]
  simp [b64]
theorem b64_app (url : Bool) : ∀ (k : Nat) (xs : List UInt8), 3 * k ≤ xs.length → b64 url xs = b64 url (xs.take (3 * k)) ++ b64 url (xs.drop (3 * k))
  | 0, xs, _ => by simp [b64]
  | k + 1, x :: y :: z :: r, h => by
    have h' : 3 * k ≤ r.length := by simp at h; omega
    rw [show 3 * (k + 1) = 3 * k + 1 + 1 + 1 by omega]
    simp only [List.take_succ_cons, List.drop_succ_cons, b64]
    rw [b64_app url k r h']
    rfl
theorem putN2 (vs : List Value) (cs : Array Value) (off n : Nat) (a b : Value) (hn : vs.length = n) : putN cs off (vs ++ [a, b]) = ((putN cs off vs).setIfInBounds (off + n) a).setIfInBounds (off + n + 1) b := by
  subst hn
  rw [show vs ++ [a, b] = vs ++ [a] ++ [b] by simp, putN_snoc, putN_snoc]
  simp only [List.length_append, List.length_singleton, Nat.add_assoc]
theorem putN3 (vs : List Value) (cs : Array Value) (off n : Nat) (a b c : Value) (hn : vs.length = n) : putN cs off (vs ++ [a, b, c]) = (((putN cs off vs).setIfInBounds (off + n) a).setIfInBounds (off + n + 1) b).setIfInBounds (off + n + 2) c := by
  subst hn
  rw [show vs ++ [a, b, c] = vs ++ [a] ++ [b] ++ [c] by simp, putN_snoc, putN_snoc, putN_snoc]
  simp only [List.length_append, List.length_singleton, Nat.add_assoc]
theorem b64_end1 (url : Bool) {xs : List UInt8} {k : Nat} (h0 : 3 * k < xs.length) (hl : xs.length = 3 * k + 1) {x : UInt8} (hx : x = xs[3 * k]) :
    b64 url xs = b64 url (xs.take (3 * k)) ++ [b64at url (x.toNat / 4), b64at url (x.toNat % 4 * 16)] := by
  have e : xs.drop (3 * k) = [x] := by rw [List.drop_eq_getElem_cons h0, ← hx, List.drop_of_length_le (by omega)]
  rw [b64_app url k xs (by omega), e]
  simp [b64]
theorem b64_end2 (url : Bool) {xs : List UInt8} {k : Nat} (h0 : 3 * k < xs.length) (h1 : 3 * k + 1 < xs.length) (hl : xs.length = 3 * k + 2) {x y : UInt8} (hx : x = xs[3 * k]) (hy : y = xs[3 * k + 1]) :
    b64 url xs = b64 url (xs.take (3 * k)) ++ [b64at url (x.toNat / 4), b64at url (x.toNat % 4 * 16 + y.toNat / 16), b64at url (y.toNat % 16 * 4)] := by
  have e : xs.drop (3 * k) = [x, y] := by rw [List.drop_eq_getElem_cons h0, List.drop_eq_getElem_cons h1, ← hx, ← hy, List.drop_of_length_le (by omega)]
  rw [b64_app url k xs (by omega), e]
  simp [b64]
theorem b64_len3 (url : Bool) {xs : List UInt8} {k : Nat} (h : 3 * k ≤ xs.length) : ((b64 url (xs.take (3 * k))).map bV).length = 4 * k := by
  rw [List.length_map, b64_len, List.length_take, Nat.min_eq_left h]
  unfold encLen
  omega
theorem Hold.rangeE {w0 : World} {B : Nat} {w : World} {L : List Asrt} {url : Bool} {g t : Nat} {p : Int} (H : Hold w0 B w (.blk g (.cells (encX url p) t) :: L)) : w.rangeAt g 0 ((letX url).map bV) := by
  intro j v hv
  have hj : j < 64 := by
    have := (List.getElem?_eq_some_iff.1 hv).1
    rwa [List.length_map, letX_len] at this
  have := (H.cellq 0 rfl j _ (ecells_atE (letX url) (decX url) p (letX_len url) j hj)).1
  rw [Nat.zero_add, this]
  rw [List.getElem?_map, List.getElem?_eq_getElem (by rw [letX_len]; exact hj)] at hv
  rw [List.getD_eq_getElem?_getD, List.getElem?_eq_getElem (by rw [letX_len]; exact hj)]
  exact hv
theorem sizeE (url : Bool) : (Tryz.prog.info? 218).map (·.size) = some ((letX url).map bV).length := by
  rw [List.length_map, letX_len]
  kernel_rfl
set_option maxRecDepth 100000 in
set_option maxHeartbeats 4000000 in
theorem encode_any {w0 : World} {B : Nat} {L : List Asrt} (w : World) (url : Bool) (g gd off b o n c m cap t : Nat) (A D : Option Addr) (xs : List UInt8) (cs : Array Value) (hn : n ≤ 1000000000)
    (hA : 0 < n → A = some ⟨b, o, none⟩) (hD : 0 < m → D = some ⟨gd, off, none⟩) (hm : m = encLen n) (hfit : off + m ≤ cs.size)
    (hmc : m ≤ cap) (hnc : n ≤ c) (hne : g ≠ gd) (H : Hold w0 B w (.blk g (.cells (encX url (-1)) 220) :: .blk gd (.cells cs t) :: L))
    (hsrc : ∀ w' cs', Hold w0 B w' (.blk g (.cells (encX url (-1)) 220) :: .blk gd (.cells cs' t) :: L) → kB.C w' A n xs) :
    Calls Tryz.prog 204 #[.pointer (some ⟨g, 0, none⟩), .slice D m cap, .slice A n c] w fun e w' => e = .returned (.tuple #[]) ∧
      Hold w0 B w' (.blk g (.cells (encX url (-1)) 220) :: .blk gd (.cells (putN cs off ((b64 url xs).map bV)) t) :: L) := by
  have hx := (hsrc w cs H).1
  obtain rfl := hx
  have HH := Aside0.mk H
  have hu := Tryz.underlying220
  by_cases h0 : xs.length = 0
  · have hx0 : xs = [] := List.eq_nil_of_length_eq_zero h0
    subst hx0
    clear hsrc H
    go_enter Tryz.func204, Tryz.ntmps204
    go_wp2
    (try simp only [Exit.inBlock, Exit.then])
    refine bodyPost_ret (results_none rfl _ _ _) rfl ?_
    exact ⟨rfl, HH.out⟩
  · have hA' := hA (by omega)
    subst hA'
    have HRg := Aside0.mk H.rangeE
    have HSz := Aside0.mk (sizeE url)
    have HSR := Aside0.mk hsrc
    have HFit := Aside0.mk hfit
    have HM := Aside0.mk hm
    have HD := Aside0.mk hD
    clear hsrc H hm hD
    go_enter Tryz.func204, Tryz.ntmps204
    go_wp2_with ((with_reducible refine at_dst (N := 15) rfl ?_); refine wpList_load_mid rfl 218 (.tmp 14) rfl g 0 rfl ((letX url).map bV) _ HRg.out Tryz.underlying218 rfl HSz.out ?_)
    go_loopw [1, 2] (fun v1 v2 wr => ∃ (k : Nat) (a1 a2 : Option Addr) (c1 c2 : Nat), 3 * k ≤ xs.length ∧ v1 = .slice a1 (m - 4 * k) c1 ∧ v2 = .slice a2 (xs.length - 3 * k) c2 ∧ (0 < m - 4 * k → a1 = some ⟨gd, off + 4 * k, none⟩) ∧ (0 < xs.length - 3 * k → a2 = some ⟨b, o + 3 * k, none⟩) ∧ m - 4 * k ≤ c1 ∧ xs.length - 3 * k ≤ c2 ∧
        Hold w0 B wr (.blk g (.cells (encX url (-1)) 220) :: .blk gd (.cells (putN cs off ((b64 url (xs.take (3 * k))).map bV)) t) :: L)) (fun _ v2 _ => match v2 with | .slice _ q _ => q | _ => 0)
    case atStart => exact ⟨0, _, _, _, _, Nat.zero_le _, rfl, rfl, HD.out, fun _ => rfl, hmc, hnc, by simpa [b64, putN] using HH.out⟩
    case round =>
      obtain ⟨k, a1, a2, c1, c2, hk, rfl, rfl, h1, h2, hc1', hc2', hR⟩ := hrel
      have HR := Aside0.mk hR
      clear hR
      by_cases hlt : 3 ≤ xs.length - 3 * k
      · have hmk : 4 * k + 4 ≤ m := by rw [HM.out]; unfold encLen; omega
        have ha1 := h1 (by omega)
        have ha2 := h2 (by omega)
        subst ha1 ha2
        clear h1 h2
        obtain ⟨q, hq⟩ : ∃ q, q = xs.length - 3 * k := ⟨_, rfl⟩
        obtain ⟨mm, hmm⟩ : ∃ mm, mm = m - 4 * k := ⟨_, rfl⟩
        have hb0 : 3 * k < xs.length := by omega
        have hb1 : 3 * k + 1 < xs.length := by omega
        have hb2 : 3 * k + 2 < xs.length := by omega
        have HC := HSR.out _ _ HR.out
        have e0 := cell_of_C HC (3 * k) hb0
        have e1 := cell_of_C HC (3 * k + 1) hb1
        have e2 := cell_of_C HC (3 * k + 2) hb2
        clear HC
        rw [← hq, ← hmm]
        have hq3 : 3 ≤ q := by omega
        have hmm4 : 4 ≤ mm := by omega
        have HQ := Aside0.mk hq
        have HMM := Aside0.mk hmm
        obtain ⟨x, hx⟩ : ∃ x, x = xs[3 * k]'hb0 := ⟨_, rfl⟩
        obtain ⟨y, hy⟩ : ∃ y, y = xs[3 * k + 1]'hb1 := ⟨_, rfl⟩
        obtain ⟨z, hz⟩ : ∃ z, z = xs[3 * k + 2]'hb2 := ⟨_, rfl⟩
        rw [← hx] at e0
        rw [← hy] at e1
        rw [← hz] at e2
        have HX := Aside0.mk hx
        have HY := Aside0.mk hy
        have HZ := Aside0.mk hz
        have e1' : wr.cell? ⟨b, o + 3 * k + 1, none⟩ = some (.int .u8 (y.toNat : Int)) := e1
        have e2' : wr.cell? ⟨b, o + 3 * k + 2, none⟩ = some (.int .u8 (z.toNat : Int)) := e2
        have e0' : wr.cell? ⟨b, o + 3 * k, none⟩ = some (.int .u8 (x.toNat : Int)) := e0
        have HC1 : Aside0 (mm ≤ c1) := ⟨by omega⟩
        have HC2 : Aside0 (q ≤ c2) := ⟨by omega⟩
        clear hq hmm hx hy hz e0 e1 e2 hc1' hc2'
        obtain ⟨N, hN⟩ : ∃ N, bits BinOp.or IntKind.u64 (bits BinOp.or IntKind.u64 (IntKind.u64.wrap (IntKind.u64.wrap (x.toNat : Int) * 65536)) (IntKind.u64.wrap (IntKind.u64.wrap (y.toNat : Int) * 256))) (IntKind.u64.wrap (z.toNat : Int)) = N := ⟨_, rfl⟩
        have hNv : N = ((x.toNat * 65536 + y.toNat * 256 + z.toNat : Nat) : Int) := hN.symm.trans (v3_eq x y z)
        have hxl := x.toNat_lt
        have hyl := y.toNat_lt
        have hzl := z.toNat_lt
        obtain ⟨i0, hi0⟩ : ∃ i0, i0 = x.toNat / 4 := ⟨_, rfl⟩
        obtain ⟨i1, hi1⟩ : ∃ i1, i1 = x.toNat % 4 * 16 + y.toNat / 16 := ⟨_, rfl⟩
        obtain ⟨i2, hi2⟩ : ∃ i2, i2 = y.toNat % 16 * 4 + z.toNat / 64 := ⟨_, rfl⟩
        obtain ⟨i3, hi3⟩ : ∃ i3, i3 = z.toNat % 64 := ⟨_, rfl⟩
        have hI0 : bits .and .u64 (N / 262144) 63 = (i0 : Int) := part0 _ 262144 _ hNv (by omega) (by omega)
        have hI1 : bits .and .u64 (N / 4096) 63 = (i1 : Int) := part0 _ 4096 _ hNv (by omega) (by omega)
        have hI2 : bits .and .u64 (N / 64) 63 = (i2 : Int) := part0 _ 64 _ hNv (by omega) (by omega)
        have hI3 : bits .and .u64 N 63 = (i3 : Int) := part1 _ _ hNv (by omega) (by omega)
        have hl0 : i0 < 64 := by omega
        have hl1 : i1 < 64 := by omega
        have hl2 : i2 < 64 := by omega
        have hl3 : i3 < 64 := by omega
        have hc0 := (HR.out.cellq 0 rfl i0 _ (ecells_atE _ _ _ (letX_len url) i0 hl0)).1
        have hc1 := (HR.out.cellq 0 rfl i1 _ (ecells_atE _ _ _ (letX_len url) i1 hl1)).1
        have hc2 := (HR.out.cellq 0 rfl i2 _ (ecells_atE _ _ _ (letX_len url) i2 hl2)).1
        have hc3 := (HR.out.cellq 0 rfl i3 _ (ecells_atE _ _ _ (letX_len url) i3 hl3)).1
        have HI := Aside0.mk (And.intro hi0 (And.intro hi1 (And.intro hi2 hi3)))
        obtain ⟨l0, hl0'⟩ : ∃ l0, l0 = (letX url).getD i0 0 := ⟨_, rfl⟩
        obtain ⟨l1, hl1'⟩ : ∃ l1, l1 = (letX url).getD i1 0 := ⟨_, rfl⟩
        obtain ⟨l2, hl2'⟩ : ∃ l2, l2 = (letX url).getD i2 0 := ⟨_, rfl⟩
        obtain ⟨l3, hl3'⟩ : ∃ l3, l3 = (letX url).getD i3 0 := ⟨_, rfl⟩
        have HLt := Aside0.mk (And.intro hl0' (And.intro hl1' (And.intro hl2' hl3')))
        have g0 : wr.cell? ⟨g, i0, none⟩ = some (.int .u8 (l0.toNat : Int)) := by rw [hl0']; exact hc0
        have g1 : wr.cell? ⟨g, i1, none⟩ = some (.int .u8 (l1.toNat : Int)) := by rw [hl1']; exact hc1
        have g2 : wr.cell? ⟨g, i2, none⟩ = some (.int .u8 (l2.toNat : Int)) := by rw [hl2']; exact hc2
        have g3 : wr.cell? ⟨g, i3, none⟩ = some (.int .u8 (l3.toNat : Int)) := by rw [hl3']; exact hc3
        clear hNv hi0 hi1 hi2 hi3 hl0' hl1' hl2' hl3' hc0 hc1 hc2 hc3 hxl hyl hzl
        have hcz : off + 4 * k + 4 ≤ (putN cs off ((b64 url (xs.take (3 * k))).map bV)).size := by rw [putN_size]; omega
        have hD0 := HR.out.cellq 1 rfl (off + 4 * k) _ (Array.getElem?_eq_getElem (by omega))
        have hD1 := HR.out.cellq 1 rfl (off + 4 * k + 1) _ (Array.getElem?_eq_getElem (by omega))
        have hD2 := HR.out.cellq 1 rfl (off + 4 * k + 2) _ (Array.getElem?_eq_getElem (by omega))
        have hD3 := HR.out.cellq 1 rfl (off + 4 * k + 3) _ (Array.getElem?_eq_getElem (by omega))
        obtain ⟨d0, f0⟩ := hD0
        obtain ⟨d1, f1⟩ := hD1
        obtain ⟨d2, f2⟩ := hD2
        obtain ⟨d3, f3⟩ := hD3
        generalize (putN cs off ((b64 url (xs.take (3 * k))).map bV))[off + 4 * k] = w0' at d0
        generalize (putN cs off ((b64 url (xs.take (3 * k))).map bV))[off + 4 * k + 1] = w1' at d1
        generalize (putN cs off ((b64 url (xs.take (3 * k))).map bV))[off + 4 * k + 2] = w2' at d2
        generalize (putN cs off ((b64 url (xs.take (3 * k))).map bV))[off + 4 * k + 3] = w3' at d3
        clear hcz
        go_wp2
        go_quiet (fail)
        go_wp2
        have hmm2 : mm - 4 = m - 4 * (k + 1) := by rw [HMM.out]; omega
        have hq2 : q - 3 = xs.length - 3 * (k + 1) := by rw [HQ.out]; omega
        have hcc1 := HC1.out
        have hcc2 := HC2.out
        rw [hmm2, hq2]
        refine ⟨⟨k + 1, _, _, _, _, by omega, rfl, rfl, fun h => ?_, fun h => ?_, by omega, by omega, ?_⟩, by simp only []; omega⟩
        · rw [if_neg (by omega)]; rfl
        · rw [if_neg (by omega)]; rfl
        · have h := ((((HR.out.drewN nq).store 1 rfl (off + 4 * k) (.int .u8 (l0.toNat : Int))).store 1 rfl (off + 4 * k + 1) (.int .u8 (l1.toNat : Int))).store 1 rfl (off + 4 * k + 2) (.int .u8 (l2.toNat : Int))).store 1 rfl (off + 4 * k + 3) (.int .u8 (l3.toNat : Int))
          obtain ⟨j0, j1, j2, j3⟩ := HI.out
          obtain ⟨m0, m1, m2, m3⟩ := HLt.out
          rw [b64_step url hb0 hb1 hb2 HX.out HY.out HZ.out, ← j0, ← j1, ← j2, ← j3, List.map_append, show [b64at url i0, b64at url i1, b64at url i2, b64at url i3].map bV = [.int .u8 (l0.toNat : Int), .int .u8 (l1.toNat : Int), .int .u8 (l2.toNat : Int), .int .u8 (l3.toNat : Int)] by rw [m0, m1, m2, m3]; rfl, putN4 _ _ _ _ _ _ _ _ (b64_len3 url hk)]
          exact h
      · have hrest : xs.length - 3 * k = 0 ∨ xs.length - 3 * k = 1 ∨ xs.length - 3 * k = 2 := by omega
        rcases hrest with hr | hr | hr
        · rw [hr]
          have HB : Aside0 (b64 url xs = b64 url (xs.take (3 * k))) := ⟨by rw [List.take_of_length_le (by omega)]⟩
          clear h1 h2
          go_wp2
          (try simp only [Exit.inBlock, Exit.then])
          refine bodyPost_ret (results_none rfl _ _ _) rfl ?_
          rw [HB.out]
          exact ⟨rfl, HR.out⟩
        · have hmk : m - 4 * k = 2 := by rw [HM.out]; unfold encLen; omega
          have ha1 := h1 (by omega)
          have ha2 := h2 (by omega)
          subst ha1 ha2
          rw [hr, hmk]
          clear h1 h2
          have hb0 : 3 * k < xs.length := by omega
          have HLen : Aside0 (xs.length = 3 * k + 1) := ⟨by omega⟩
          have HC := HSR.out _ _ HR.out
          have e0 := cell_of_C HC (3 * k) hb0
          obtain ⟨x, hx⟩ : ∃ x, x = xs[3 * k]'hb0 := ⟨_, rfl⟩
          rw [← hx] at e0
          have e0' : wr.cell? ⟨b, o + 3 * k, none⟩ = some (.int .u8 (x.toNat : Int)) := e0
          have HX := Aside0.mk hx
          have hp := (HR.out.cellq 0 rfl 320 _ (ecells_atP _ _ _ (letX_len url) (decX_len url))).1
          clear HC e0 hx
          obtain ⟨N, hN⟩ : ∃ N, IntKind.u64.wrap (IntKind.u64.wrap (x.toNat : Int) * 65536) = N := ⟨_, rfl⟩
          have hNv : N = ((x.toNat * 65536 : Nat) : Int) := hN.symm.trans (v1_eq x)
          have hxl := x.toNat_lt
          obtain ⟨i0, hi0⟩ : ∃ i0, i0 = x.toNat / 4 := ⟨_, rfl⟩
          obtain ⟨i1, hi1⟩ : ∃ i1, i1 = x.toNat % 4 * 16 := ⟨_, rfl⟩
          have hI0 : bits .and .u64 (N / 262144) 63 = (i0 : Int) := part0 _ 262144 _ hNv (by omega) (by omega)
          have hI1 : bits .and .u64 (N / 4096) 63 = (i1 : Int) := part0 _ 4096 _ hNv (by omega) (by omega)
          have hl0 : i0 < 64 := by omega
          have hc0 := (HR.out.cellq 0 rfl i0 _ (ecells_atE _ _ _ (letX_len url) i0 hl0)).1
          have hl1 : i1 < 64 := by omega
          have hc1 := (HR.out.cellq 0 rfl i1 _ (ecells_atE _ _ _ (letX_len url) i1 hl1)).1
          have HI0 := Aside0.mk hi0
          obtain ⟨l0, hl0'⟩ : ∃ l0, l0 = (letX url).getD i0 0 := ⟨_, rfl⟩
          have HLt0 := Aside0.mk hl0'
          have g0 : wr.cell? ⟨g, i0, none⟩ = some (.int .u8 (l0.toNat : Int)) := by rw [hl0']; exact hc0
          have HI1 := Aside0.mk hi1
          obtain ⟨l1, hl1'⟩ : ∃ l1, l1 = (letX url).getD i1 0 := ⟨_, rfl⟩
          have HLt1 := Aside0.mk hl1'
          have g1 : wr.cell? ⟨g, i1, none⟩ = some (.int .u8 (l1.toNat : Int)) := by rw [hl1']; exact hc1
          clear hNv hi0 hl0' hc0 hi1 hl1' hc1 hxl 
          have hcz : off + 4 * k + 2 ≤ (putN cs off ((b64 url (xs.take (3 * k))).map bV)).size := by rw [putN_size]; omega
          have hD0 := HR.out.cellq 1 rfl (off + 4 * k) _ (Array.getElem?_eq_getElem (by omega))
          obtain ⟨d0, f0⟩ := hD0
          generalize (putN cs off ((b64 url (xs.take (3 * k))).map bV))[off + 4 * k] = w0' at d0
          have hD1 := HR.out.cellq 1 rfl (off + 4 * k + 1) _ (Array.getElem?_eq_getElem (by omega))
          obtain ⟨d1, f1⟩ := hD1
          generalize (putN cs off ((b64 url (xs.take (3 * k))).map bV))[off + 4 * k + 1] = w1' at d1
          clear hcz
          go_wp2
          go_end0
          have h := ((HR.out).store 1 rfl (off + 4 * k) (.int .u8 (l0.toNat : Int))).store 1 rfl (off + 4 * k + 1) (.int .u8 (l1.toNat : Int))
          rw [b64_end1 url hb0 HLen.out HX.out, ← HI0.out, ← HI1.out, List.map_append, show [b64at url i0, b64at url i1].map bV = [.int .u8 (l0.toNat : Int), .int .u8 (l1.toNat : Int)] by rw [HLt0.out, HLt1.out]; rfl, putN2 _ _ _ _ _ _ (b64_len3 url hk)]
          exact ⟨rfl, h⟩
        · have hmk : m - 4 * k = 3 := by rw [HM.out]; unfold encLen; omega
          have ha1 := h1 (by omega)
          have ha2 := h2 (by omega)
          subst ha1 ha2
          rw [hr, hmk]
          clear h1 h2
          have hb0 : 3 * k < xs.length := by omega
          have hb1 : 3 * k + 1 < xs.length := by omega
          have HLen : Aside0 (xs.length = 3 * k + 2) := ⟨by omega⟩
          have HC := HSR.out _ _ HR.out
          have e0 := cell_of_C HC (3 * k) hb0
          have e1 := cell_of_C HC (3 * k + 1) hb1
          obtain ⟨x, hx⟩ : ∃ x, x = xs[3 * k]'hb0 := ⟨_, rfl⟩
          obtain ⟨y, hy⟩ : ∃ y, y = xs[3 * k + 1]'hb1 := ⟨_, rfl⟩
          rw [← hx] at e0
          rw [← hy] at e1
          have e0' : wr.cell? ⟨b, o + 3 * k, none⟩ = some (.int .u8 (x.toNat : Int)) := e0
          have e1' : wr.cell? ⟨b, o + 3 * k + 1, none⟩ = some (.int .u8 (y.toNat : Int)) := e1
          have HX := Aside0.mk hx
          have HY := Aside0.mk hy
          have hp := (HR.out.cellq 0 rfl 320 _ (ecells_atP _ _ _ (letX_len url) (decX_len url))).1
          clear HC e0 e1 hx hy
          obtain ⟨N, hN⟩ : ∃ N, bits BinOp.or IntKind.u64 (IntKind.u64.wrap (IntKind.u64.wrap (x.toNat : Int) * 65536)) (IntKind.u64.wrap (IntKind.u64.wrap (y.toNat : Int) * 256)) = N := ⟨_, rfl⟩
          have hNv : N = ((x.toNat * 65536 + y.toNat * 256 : Nat) : Int) := hN.symm.trans (v2_eq x y)
          have hxl := x.toNat_lt
          have hyl := y.toNat_lt
          obtain ⟨i0, hi0⟩ : ∃ i0, i0 = x.toNat / 4 := ⟨_, rfl⟩
          obtain ⟨i1, hi1⟩ : ∃ i1, i1 = x.toNat % 4 * 16 + y.toNat / 16 := ⟨_, rfl⟩
          obtain ⟨i2, hi2⟩ : ∃ i2, i2 = y.toNat % 16 * 4 := ⟨_, rfl⟩
          have hI0 : bits .and .u64 (N / 262144) 63 = (i0 : Int) := part0 _ 262144 _ hNv (by omega) (by omega)
          have hI1 : bits .and .u64 (N / 4096) 63 = (i1 : Int) := part0 _ 4096 _ hNv (by omega) (by omega)
          have hI2 : bits .and .u64 (N / 64) 63 = (i2 : Int) := part0 _ 64 _ hNv (by omega) (by omega)
          have hl0 : i0 < 64 := by omega
          have hc0 := (HR.out.cellq 0 rfl i0 _ (ecells_atE _ _ _ (letX_len url) i0 hl0)).1
          have hl1 : i1 < 64 := by omega
          have hc1 := (HR.out.cellq 0 rfl i1 _ (ecells_atE _ _ _ (letX_len url) i1 hl1)).1
          have hl2 : i2 < 64 := by omega
          have hc2 := (HR.out.cellq 0 rfl i2 _ (ecells_atE _ _ _ (letX_len url) i2 hl2)).1
          have HI0 := Aside0.mk hi0
          obtain ⟨l0, hl0'⟩ : ∃ l0, l0 = (letX url).getD i0 0 := ⟨_, rfl⟩
          have HLt0 := Aside0.mk hl0'
          have g0 : wr.cell? ⟨g, i0, none⟩ = some (.int .u8 (l0.toNat : Int)) := by rw [hl0']; exact hc0
          have HI1 := Aside0.mk hi1
          obtain ⟨l1, hl1'⟩ : ∃ l1, l1 = (letX url).getD i1 0 := ⟨_, rfl⟩
          have HLt1 := Aside0.mk hl1'
          have g1 : wr.cell? ⟨g, i1, none⟩ = some (.int .u8 (l1.toNat : Int)) := by rw [hl1']; exact hc1
          have HI2 := Aside0.mk hi2
          obtain ⟨l2, hl2'⟩ : ∃ l2, l2 = (letX url).getD i2 0 := ⟨_, rfl⟩
          have HLt2 := Aside0.mk hl2'
          have g2 : wr.cell? ⟨g, i2, none⟩ = some (.int .u8 (l2.toNat : Int)) := by rw [hl2']; exact hc2
          clear hNv hi0 hl0' hc0 hi1 hl1' hc1 hi2 hl2' hc2 hxl hyl
          have hcz : off + 4 * k + 3 ≤ (putN cs off ((b64 url (xs.take (3 * k))).map bV)).size := by rw [putN_size]; omega
          have hD0 := HR.out.cellq 1 rfl (off + 4 * k) _ (Array.getElem?_eq_getElem (by omega))
          obtain ⟨d0, f0⟩ := hD0
          generalize (putN cs off ((b64 url (xs.take (3 * k))).map bV))[off + 4 * k] = w0' at d0
          have hD1 := HR.out.cellq 1 rfl (off + 4 * k + 1) _ (Array.getElem?_eq_getElem (by omega))
          obtain ⟨d1, f1⟩ := hD1
          generalize (putN cs off ((b64 url (xs.take (3 * k))).map bV))[off + 4 * k + 1] = w1' at d1
          have hD2 := HR.out.cellq 1 rfl (off + 4 * k + 2) _ (Array.getElem?_eq_getElem (by omega))
          obtain ⟨d2, f2⟩ := hD2
          generalize (putN cs off ((b64 url (xs.take (3 * k))).map bV))[off + 4 * k + 2] = w2' at d2
          clear hcz
          go_wp2
          go_quiet (fail)
          go_wp2
          go_end0
          have h := (((HR.out.drewN nq).store 1 rfl (off + 4 * k) (.int .u8 (l0.toNat : Int))).store 1 rfl (off + 4 * k + 1) (.int .u8 (l1.toNat : Int))).store 1 rfl (off + 4 * k + 2) (.int .u8 (l2.toNat : Int))
          rw [b64_end2 url hb0 hb1 HLen.out HX.out HY.out, ← HI0.out, ← HI1.out, ← HI2.out, List.map_append, show [b64at url i0, b64at url i1, b64at url i2].map bV = [.int .u8 (l0.toNat : Int), .int .u8 (l1.toNat : Int), .int .u8 (l2.toNat : Int)] by rw [HLt0.out, HLt1.out, HLt2.out]; rfl, putN3 _ _ _ _ _ _ _ (b64_len3 url hk)]
          exact ⟨rfl, h⟩
end Go.Proofs.YtdldblfklalaeaaGreatDoor
namespace Go.Proofs.YtdldblfklalaeaaGreatDoor
open Go.RowKit Go.Proofs.YtdldblfklalaeaaGreatDoorW.PrintWords
set_option linter.unusedVariables false
set_option linter.unusedSimpArgs false
theorem info5 : (Tryz.prog.info? 5).map (fun i => (i.zero, i.size, i.bytes)) = some (some (.int .u8 0), 1, 1) := by kernel_rfl
theorem infoB : (Tryz.prog.info? 5).map (fun i => (i.zero, i.size, i.bytes)) = some (some (bV 0), 1, 1) := info5
/-- An empty literal, as a row. -/
theorem emptyRow (w : World) : Hold w w.heap.size (w.alloc (.cells #[] 5)) [.row kB 5 (.slice (some ⟨w.heap.size, 0, none⟩) 0 0) []] :=
  ((Hold.start w).alloc (.cells #[] 5)).toRow 0 (d := kB) (n := 0) (c := 0) (xs := []) rfl (Reps.none _ _) rfl (Nat.le_refl _) (Nat.zero_le _) rfl
set_option maxHeartbeats 1000000 in
theorem own_any (w : World) (A : Option Addr) (n c : Nat) (xs : List UInt8) (hn : n ≤ 140737488355328) (hC : kB.C w A n xs) :
    Calls Tryz.prog 32 #[.slice A n c] w fun e w' => ∃ v, e = .returned v ∧ Hold w w.heap.size w' [.row kB 5 v xs] := by
  have H0 := Aside0.mk (emptyRow w)
  have HC := Aside0.mk hC
  have Hl : Aside0 ((([] : List UInt8).length + n) * 1 ≤ 140737488355328) := ⟨by simp; omega⟩
  clear hC
  go_enter Tryz.func32, Tryz.ntmps32
  go_wp2_with ((with_reducible refine at_bi (b := .append) (xs := #[.tmp 3, .tmp 4]) rfl ?_); at_builtin; refine Hold.appendRow 0 H0.out rfl rfl (.tmp 3) (.tmp 4) 30 (.int .u8 0) 1 rfl Tryz.underlying30 info5 rfl (by omega) (A) (n) (c) rfl rfl (Kd.C_below HC.out H0.out.below) Hl.out ?_; intro _ _ H1'; have H1 := Aside0.mk H1'; clear H1' H0)
  go_ret
  exact ⟨_, rfl, H1.out⟩
end Go.Proofs.YtdldblfklalaeaaGreatDoor
namespace Go.Proofs.YtdldblfklalaeaaGreatDoor
open Go.RowKit Go.Proofs.YtdldblfklalaeaaGreatDoorW.PrintWords
set_option linter.unusedVariables false
set_option linter.unusedSimpArgs false
set_option maxHeartbeats 1000000 in
theorem bclone_any (w : World) (A : Option Addr) (n c : Nat) (xs : List UInt8) (hn : n ≤ 140737488355328) (hC : kB.C w A n xs) :
    Calls Tryz.prog 14 #[.slice A n c] w fun e w' => ∃ v, e = .returned v ∧ Hold w w.heap.size w' [.row kB 5 v xs] := by
  cases A with
  | none =>
    have hx : xs = [] := by
      rcases Nat.eq_zero_or_pos n with h | h
      · exact List.eq_nil_of_length_eq_zero (hC.1.trans h)
      · obtain ⟨ad, e, _⟩ := hC.2.2 h
        cases e
    have hnil0 := fun W : World => Lib.run_eql_slice_nil (P := Tryz.prog) W 30 5 none n c 0 0 Tryz.underlying30
    have HX := Aside0.mk hx
    clear hx hC
    go_enter Tryz.func14, Tryz.ntmps14
    go_wp2
    go_ret
    rw [HX.out]
    exact ⟨_, rfl, (Hold.start w).nil _ _⟩
  | some ad =>
    have hnil := fun W : World => Lib.run_eql_slice_nil (P := Tryz.prog) W 30 5 (some ad) n c 0 0 Tryz.underlying30
    have H0 := Aside0.mk (emptyRow w)
    have HC := Aside0.mk hC
    have Hl : Aside0 ((([] : List UInt8).length + n) * 1 ≤ 140737488355328) := ⟨by simp; omega⟩
    clear hC
    go_enter Tryz.func14, Tryz.ntmps14
    go_wp2_with ((with_reducible refine at_bi (b := .append) (xs := #[.tmp 5, .tmp 6]) rfl ?_); at_builtin; refine Hold.appendRow 0 H0.out rfl rfl (.tmp 5) (.tmp 6) 30 (.int .u8 0) 1 rfl Tryz.underlying30 info5 rfl (by omega) (some ad) (n) (c) rfl rfl (Kd.C_below HC.out H0.out.below) Hl.out ?_; intro _ _ H1'; have H1 := Aside0.mk H1'; clear H1' H0)
    go_ret
    exact ⟨_, rfl, H1.out⟩
end Go.Proofs.YtdldblfklalaeaaGreatDoor
namespace Go.Proofs.YtdldblfklalaeaaGreatDoor
open Go.RowKit Go.Proofs.YtdldblfklalaeaaGreatDoorW.PrintWords Go.Lib
set_option linter.unusedVariables false
set_option linter.unusedSimpArgs false
/-- Two blocks of a list are two. -/
theorem Hold.blk_ne {w0 : World} {B : Nat} {w : World} {L : List Asrt} {g h : Nat} {o p : Obj} (hS : Hold w0 B w L) (i j : Nat) (hi : L[i]? = some (.blk g o)) (hj : L[j]? = some (.blk h p)) (hij : i ≠ j) : g ≠ h := by
  intro e
  subst e
  obtain ⟨F, h1, h2, h3⟩ := hS.own
  exact hij (h3 i j g (h1 i _ hi).1 (h1 j _ hj).1)
theorem putN_list : ∀ (vs : List Value) (cs : Array Value) (off : Nat), off + vs.length ≤ cs.size → (putN cs off vs).toList = cs.toList.take off ++ vs ++ cs.toList.drop (off + vs.length)
  | [], cs, off, h => by simp [putN]
  | v :: r, cs, off, h => by
    have hl : off < cs.toList.length := by simp at h; simp; omega
    show (putN (cs.setIfInBounds off v) (off + 1) r).toList = _
    rw [putN_list r _ _ (by simp at h; rw [Array.size_setIfInBounds]; omega), Array.toList_setIfInBounds]
    have e1 : (cs.toList.set off v).take (off + 1) = cs.toList.take off ++ [v] := by
      rw [List.take_add_one, List.take_set_of_le (Nat.le_refl _), List.getElem?_set_self hl]
      rfl
    have e2 : (cs.toList.set off v).drop (off + 1 + r.length) = cs.toList.drop (off + (v :: r).length) := by
      rw [List.drop_set_of_lt (by omega), List.length_cons]
      congr 1
      omega
    rw [e1, e2]
    simp
set_option maxRecDepth 100000 in
theorem encode_nil (w : World) (p v A : Value) (B : Option Addr) (c : Nat) (hA : A = .slice B 0 c) :
    Calls Tryz.prog 204 #[p, v, A] w fun e w' => e = .returned (.tuple #[]) ∧ w = w' := by
  subst hA
  go_enter Tryz.func204, Tryz.ntmps204
  go_wp2
  (try simp only [Exit.inBlock, Exit.then])
  refine bodyPost_ret (results_none rfl _ _ _) rfl ?_
  exact ⟨rfl, rfl⟩
theorem getEnc_any (w : World) : Calls Tryz.prog 91 #[] w fun e w' => ∃ g, e = .returned (.iface 183 (.pointer (some ⟨g, 0, none⟩))) ∧ Hold w w.heap.size w' [.blk g (.cells (encX true (-1)) 220)] := by
  go_enter Tryz.func91, Tryz.ntmps91
  go_wp2_with fail
  refine (rawURL_any _).mono ?_
  rintro e w1 ⟨g, rfl, hH⟩
  have H1 := Aside0.mk hH
  clear hH
  go_wp2
  go_ret
  exact ⟨_, rfl, H1.out⟩
set_option maxRecDepth 100000 in
set_option maxHeartbeats 2000000 in
theorem encode64_any (w : World) (A : Option Addr) (n c b o : Nat) (xs : List UInt8) (hn : n ≤ 1000000000) (hA : 0 < n → A = some ⟨b, o, none⟩) (hnc : n ≤ c) (hC : kB.C w A n xs) :
    Calls Tryz.prog 67 #[.slice A n c] w fun e w' => ∃ v, e = .returned v ∧ Hold w w.heap.size w' [.row kB 5 v (b64 true xs)] := by
  have hx := hC.1
  have HC := Aside0.mk hC
  have HA := Aside0.mk hA
  clear hC hA
  go_enter Tryz.func67, Tryz.ntmps67
  go_wp2_with fail
  refine (getEnc_any _).mono ?_
  rintro e w1 ⟨g, rfl, hH⟩
  have H1 := Aside0.mk hH
  clear hH
  go_wp2_with fail
  refine (encLen_any w1 true g n hn H1.out).mono ?_
  rintro e w2 ⟨rfl, rfl⟩
  obtain ⟨m, hm⟩ : ∃ m, m = encLen n := ⟨_, rfl⟩
  have hml : m ≤ 2000000000 := by rw [hm]; unfold encLen; omega
  rw [← hm]
  have HM := Aside0.mk hm
  clear hm
  go_upto_region 3 with ((with_reducible refine at_dst (N := 10) rfl ?_); refine Hold.make (enc := bV) (h1 := fun _ => rfl) H1.out 5 rfl rfl 30 (.tmp 9) (.tmp 9) rfl ((m : Int)) rfl rfl Tryz.underlying30 (0 : UInt8) 1 infoB rfl (by omega) (by omega) (by omega) ?_; intro v_ _ H2'; have H2 := Aside0.mk H2'; clear H2' H1)
  rw [Int.toNat_natCast] at H2
  rcases Nat.eq_zero_or_pos n with h0 | h0
  · subst h0
    have hm0 : m = 0 := HM.out
    have hxs : xs = [] := List.eq_nil_of_length_eq_zero hx
    subst hm0 hxs
    go_wp2_with fail
    refine (encode_nil _ _ _ _ A c rfl).mono ?_
    rintro e w3 ⟨rfl, rfl⟩
    go_wp2
    go_ret
    exact ⟨_, rfl, H2.out.pick [0] (by decide) (L' := [.row kB 5 v_ []]) rfl⟩
  · have hA := HA.out h0
    subst hA
    have hm0 : 0 < m := by rw [HM.out]; unfold encLen; omega
    obtain ⟨gd, cd, cs, rfl, hmc, hcm, hcs, _, hB⟩ := H2.out.toBlk 0 rfl (fun e => by have := congrArg List.length e; rw [List.length_replicate] at this; simp at this; omega)
    rw [List.length_replicate] at hmc
    have HB := Aside0.mk ((hB.pick [1, 0] (by decide) (L' := [.blk g (.cells (encX true (-1)) 220), .blk gd (.cells cs 5)]) rfl))
    have hne : g ≠ gd := HB.out.blk_ne 0 1 rfl rfl (by decide)
    clear hB
    rw [List.length_replicate]
    have Hfit : Aside0 (0 + m ≤ cs.size) := ⟨by omega⟩
    have HX := Aside0.mk hx
    go_wp2_with fail
    refine (encode_any (w0 := w) (B := w.heap.size) (L := []) _ true g gd 0 b o n c m cd 5 _ _ xs cs hn (fun _ => rfl) (fun _ => rfl) HM.out Hfit.out hmc hnc hne HB.out (fun w' cs' h => h.C HC.out)).mono ?_
    rintro e w3 ⟨rfl, hH⟩
    have HH := Aside0.mk hH
    clear hH
    go_wp2
    go_ret
    refine ⟨_, rfl, ?_⟩
    have hlb : (b64 true xs).length = m := by rw [b64_len, HX.out, HM.out]
    have h := HH.out.blkRow (enc := bV) (h1 := fun _ => rfl) 1 rfl (n := m) (cap := cd) (xs := b64 true xs) (by rw [putN_size]; exact hcs) hmc hcm (by
      rw [putN_list _ _ _ (by rw [List.length_map]; omega)]
      simp only [List.take_zero, List.nil_append, List.length_map]
      rw [List.take_append_of_le_length (by rw [List.length_map]; omega), List.take_of_length_le (by rw [List.length_map]; omega)]) hlb.symm
    exact h.pick [1] (by decide) (L' := [.row kB 5 (.slice (some ⟨gd, 0, none⟩) m cd) (b64 true xs)]) rfl
end Go.Proofs.YtdldblfklalaeaaGreatDoor
namespace Go.Proofs.YtdldblfklalaeaaGreatDoor
open Go.RowKit Go.Proofs.YtdldblfklalaeaaGreatDoorW.PrintWords Go.Lib
set_option linter.unusedVariables false
set_option linter.unusedSimpArgs false
set_option maxHeartbeats 1000000 in
theorem encoded_any (w : World) (A : Option Addr) (n c : Nat) (xs : List UInt8) (hn : n ≤ 1000000000) (hC : kB.C w A n xs) :
    Calls Tryz.prog 31 #[.slice A n c] w fun e w' => ∃ v, e = .returned v ∧ Hold w w.heap.size w' [.row kB 5 v (b64 true xs)] := by
  obtain rfl := hC.1
  have HC := Aside0.mk hC
  clear hC
  go_enter Tryz.func31, Tryz.ntmps31
  go_wp2_with fail
  refine (bclone_any _ A _ c xs (by omega) HC.out).mono ?_
  rintro e w1 ⟨v, rfl, hH⟩
  obtain ⟨A1, c1, rfl, hc1, hC1⟩ := hH.reads 0 rfl
  have H1 := Aside0.mk hH
  have hform : ∃ b, 0 < xs.length → A1 = some ⟨b, 0, none⟩ := by
    rcases Nat.eq_zero_or_pos xs.length with h | h
    · exact ⟨0, fun h' => absurd h' (by omega)⟩
    · obtain ⟨b, cc, e, _⟩ := hH.form 0 rfl h
      injection e with e
      exact ⟨b, fun _ => e⟩
  obtain ⟨b, hb⟩ := hform
  have HB := Aside0.mk hb
  have HC1 := Aside0.mk hC1
  clear hH hb hC1
  go_wp2_with fail
  refine (encode64_any _ A1 _ c1 b 0 xs (by omega) HB.out hc1 HC1.out).mono ?_
  rintro e w2 ⟨v2, rfl, hH⟩
  have H2 := Aside0.mk ((H1.out.app hH).pick [0] (by decide) (L' := [.row kB 5 v2 (b64 true xs)]) rfl)
  clear hH
  go_wp2
  go_ret
  exact ⟨_, rfl, H2.out⟩
end Go.Proofs.YtdldblfklalaeaaGreatDoor
namespace Go.Proofs.YtdldblfklalaeaaGreatDoor
open Go.RowKit Go.Proofs.YtdldblfklalaeaaGreatDoorW.PrintWords
set_option linter.unusedVariables false
set_option linter.unusedSimpArgs false
set_option maxHeartbeats 1000000 in
theorem same_any (w : World) (A1 A2 : Option Addr) (n1 c1 n2 c2 : Nat) (xs ys : List UInt8) (h1 : kB.C w A1 n1 xs) (h2 : kB.C w A2 n2 ys) :
    Calls Tryz.prog 38 #[.slice A1 n1 c1, .slice A2 n2 c2] w fun e w' => e = .returned (.bool (decide (xs = ys))) ∧ ∃ n, w' = w.drewN n := by
  have g1 := kB_string (P := Tryz.prog) c1 Tryz.underlying30 Tryz.underlying5 Tryz.underlying9 h1
  have g2 := kB_string (P := Tryz.prog) c2 Tryz.underlying30 Tryz.underlying5 Tryz.underlying9 h2
  clear h1 h2
  have he := bStr_beq xs ys
  generalize bStr xs = s1 at *
  generalize bStr ys = s2 at *
  have HE := Aside0.mk he
  clear he
  go_enter Tryz.func38, Tryz.ntmps38
  go_wp2
  go_ret
  exact ⟨by rw [← HE.out]; rfl, 0, rfl⟩
end Go.Proofs.YtdldblfklalaeaaGreatDoor
namespace Go.Proofs.YtdldblfklalaeaaGreatDoor
open Go.RowKit Go.Proofs.YtdldblfklalaeaaGreatDoorW.PrintWords Go.Lib
set_option linter.unusedVariables false
set_option linter.unusedSimpArgs false
theorem Hold.swap {w0 w : World} {B : Nat} {a b : Asrt} {L : List Asrt} (hS : Hold w0 B w (a :: b :: L)) : Hold w0 B w (b :: a :: L) := by
  obtain ⟨F, h1, h2, h3⟩ := hS.own
  let σ : Nat → Nat := fun i => if i = 0 then 1 else if i = 1 then 0 else i
  have hσ : ∀ i, (b :: a :: L)[i]? = (a :: b :: L)[σ i]? := by
    intro i
    match i with
    | 0 => rfl
    | 1 => rfl
    | i + 2 => rfl
  have hinj : ∀ i j, σ i = σ j → i = j := by
    intro i j h
    simp only [σ] at h
    split at h <;> split at h <;> (try split at h) <;> (try split at h) <;> omega
  exact ⟨hS.below, hS.le, fun i => F (σ i), fun i c hc => h1 (σ i) c (by rw [← hσ]; exact hc), fun i k hk => h2 _ k hk, fun i j k hi hj => hinj i j (h3 _ _ k hi hj)⟩
end Go.Proofs.YtdldblfklalaeaaGreatDoor
namespace Go.Proofs.YtdldblfklalaeaaGreatDoor
open Go.RowKit Go.Proofs.YtdldblfklalaeaaGreatDoorW.PrintWords Go.Lib
set_option linter.unusedVariables false
set_option linter.unusedSimpArgs false
/-- What bytes.Clone gives, as the callee wants it. -/
theorem Hold.clone {w0 w : World} {B : Nat} {L : List Asrt} {v : Value} {xs : List UInt8} {e : Nat} (hS : Hold w0 B w (.row kB e v xs :: L)) : ∃ (b c : Nat) (A : Option Addr), v = .slice A xs.length c ∧ (0 < xs.length → A = some ⟨b, 0, none⟩) ∧ xs.length ≤ c ∧ kB.C w A xs.length xs := by
  obtain ⟨A, c, rfl, hc, hC⟩ := hS.reads 0 rfl
  rcases Nat.eq_zero_or_pos xs.length with h | h
  · exact ⟨0, c, A, rfl, fun h' => absurd h' (by omega), hc, hC⟩
  · obtain ⟨b, cc, e, _⟩ := hS.form 0 rfl h
    injection e with e
    exact ⟨b, c, A, rfl, fun _ => e, hc, hC⟩
end Go.Proofs.YtdldblfklalaeaaGreatDoor
