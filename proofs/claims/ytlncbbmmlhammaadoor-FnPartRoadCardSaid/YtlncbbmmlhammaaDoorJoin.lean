/-
  bytes.Clone of nil, DefaultEncoder, make of a capacity (the Door seat's part of Join).
-/
import Derived.Test.YtlncbbmmlhammaaDoorBehind
namespace Go.Proofs.YtlncbbmmlhammaaDoor
open Go.RowKit Go.Proofs.YtlncbbmmlhammaaDoorW.PrintWords Go.Lib
set_option linter.unusedVariables false
set_option linter.unusedSimpArgs false
section
variable {P : Program} {ops : Array Oper} {rest : List Oper} {o : Oper} {a : Act} {Q : Exit → Act → World → Prop} {w0 W : World} {B : Nat} {L : List Asrt}
/-- make([]byte, 0, l). -/
theorem Hold.make0 (hS : Hold w0 B W L) (e : Nat) (hgd : o.guard = none) {N : Tmp} (hd : o.dst = some N) (t : TypeId) (x y : Operand) (ho : o.op = .makeSlice t x y) (l : Nat) (hx : a.eval x = .int .i64 0) (hy : a.eval y = .int .i64 (l : Int))
    (ht : P.underlying t = some (.slice e)) (hinfo : (P.info? e).map (fun i => (i.zero, i.size, i.bytes)) = some (some (.int .u8 0), 1, 1)) (hl : l ≤ 281474976710656)
    (h : ∀ g w1, Hold w0 B w1 (.row kB e (.slice (some ⟨g, 0, none⟩) 0 l) [] :: L) → wpList P ops Q rest (a.put o.dst (.slice (some ⟨g, 0, none⟩) 0 l)) w1) : wpList P ops Q (o :: rest) a W := by
  obtain ⟨i0, hi, hzz⟩ := Option.map_eq_some_iff.1 hinfo
  simp only [Prod.mk.injEq] at hzz
  obtain ⟨hz0, hz1, hz2⟩ := hzz
  have hr := run_make (P := P) W t e i0 _ ht hi hz0 .i64 .i64 0 (l : Int) (by omega) (by omega) (by rw [hz2]; omega) (by omega)
  simp only [Int.toNat_natCast, Int.toNat_zero, hz1, Nat.mul_one] at hr
  refine wpList_plain hgd fun K hK => ?_
  unfold Oper.wp execOp
  simp only [ho, hx, hy, Sem.run_bind, Sem.run_pure, Result.andThen_ok, hr]
  refine hK _ _ (h _ _ ?_)
  exact (hS.alloc _).toRow 0 (d := kB) (n := 0) (c := l) (xs := []) rfl (by simpa using Reps.none _ _) rfl (Nat.zero_le _) (by unfold maxLen; omega) (by rw [size_madeCells]; exact (Nat.mul_one l).symm)
end
theorem cloneNil_any (w : World) : Calls Tryd.prog 16 #[.slice none 0 0] w fun e w' => e = .returned (.slice none 0 0) ∧ w = w' := by
  have hnil0 := fun W : World => Lib.run_eql_slice_nil (P := Tryd.prog) W 22 5 none 0 0 0 0 Tryd.underlying22
  go_enter Tryd.func16, Tryd.ntmps16
  go_wp2
  go_ret
  exact ⟨rfl, rfl⟩
theorem defEnc_any (w : World) : Calls Tryd.prog 19 #[] w fun e w' => ∃ g, e = .returned (.iface 61 (.pointer (some ⟨g, 0, none⟩))) ∧ Hold w w.heap.size w' [.blk g (.cells (encX true (-1)) 70)] := by
  go_enter Tryd.func19, Tryd.ntmps19
  go_wp2_with fail
  refine (getEnc_any _).mono ?_
  rintro e w1 ⟨g, rfl, hH⟩
  have H1 := Aside0.mk hH
  clear hH
  go_wp2
  go_ret
  exact ⟨_, rfl, H1.out⟩
/-- A source that is read while L is held. -/
structure Src (w0 : World) (B : Nat) (L : List Asrt) (A : Option Addr) (n c b o : Nat) (xs : List UInt8) : Prop where
  le : n ≤ c
  at_ : 0 < n → A = some ⟨b, o, none⟩
  rd : ∀ w', Hold w0 B w' L → kB.C w' A n xs
  short : n ≤ 100000
  len : xs.length = n
def sign (head payload : List UInt8) (enc : Bool) : List UInt8 := b64 true head ++ [46] ++ (if enc then b64 true payload else payload)
def joined (head payload sig : List UInt8) (enc : Bool) : List UInt8 := sign head payload enc ++ [46] ++ b64 true sig
theorem b64_short {xs : List UInt8} (h : xs.length ≤ 100000) : (b64 true xs).length ≤ 200000 := by rw [b64_len]; unfold encLen; omega
end Go.Proofs.YtlncbbmmlhammaaDoor
