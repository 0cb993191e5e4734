/-
  Words of this session: bytes as UInt8. No program in sight.
-/
import Derived.Test.YtldbelghobohiaaGreatOpen
import Derived.WalkSpells
import Derived.Laws.Strings
namespace Go.Proofs.YtldbelghobohiaaGreat
open Go.RowKit Go.Proofs.YtldbelghobohiaaGreatW.PrintWords Go.ChangeShapes Go.WideShapes
set_option linter.unusedVariables false
set_option linter.unusedSimpArgs false

/-- A byte's cell. -/
def bV (b : UInt8) : Value := .int .u8 (b.toNat : Int)
abbrev kB : Kd UInt8 := Kd.scalar bV (fun _ => rfl)
/-- A text of bytes. -/
def bStr (xs : List UInt8) : ByteArray := ⟨xs.toArray⟩
theorem bStr_size (xs : List UInt8) : (bStr xs).size = xs.length := rfl
theorem bStr_inj {xs ys : List UInt8} : bStr xs = bStr ys ↔ xs = ys := by
  constructor
  · intro h
    have := congrArg (fun s : ByteArray => s.data.toList) h
    simpa [bStr] using this
  · rintro rfl; rfl
theorem kB_ints {w : World} {A : Option Addr} {n : Nat} {xs : List UInt8} (h : kB.C w A n xs) : (Kd.int .u8).C w A n (xs.map fun b => (b.toNat : Int)) := by
  refine ⟨by rw [List.length_map]; exact h.1, h.2.1, fun hn => ?_⟩
  obtain ⟨ad, e, hc⟩ := h.2.2 hn
  refine ⟨ad, e, fun j p hj => ?_⟩
  rw [List.getElem?_map] at hj
  cases hx : xs[j]? with
  | none => rw [hx] at hj; simp at hj
  | some b =>
    rw [hx] at hj
    obtain rfl : (b.toNat : Int) = p := by simpa using hj
    exact hc j b hx
theorem strOfNums_bytes (xs : List UInt8) : strOfNums (xs.map fun b => (b.toNat : Int)) = bStr xs := by
  unfold strOfNums bStr
  congr 1
  congr 1
  rw [List.map_map]
  conv => rhs; rw [← List.map_id xs]
  apply List.map_congr_left
  intro b _
  simp
/-- 'string(b)', laid ahead of a walk. -/
theorem kB_string {P : Program} {w : World} {src dst e : TypeId} {A : Option Addr} {n : Nat} (c : Nat) {xs : List UInt8} (hs : P.underlying src = some (.slice e)) (he : P.underlying e = some (.int .u8)) (hd : P.underlying dst = some .string) (h : kB.C w A n xs) :
    (convert src dst (.slice A n c)).run P w = .ok (.string (bStr xs)) w := by
  have := Kd.C_string (P := P) (c := c) hs he hd (kB_ints h)
  rwa [strOfNums_bytes] at this
theorem bStr_beq (xs ys : List UInt8) : ((bStr xs).toList == (bStr ys).toList) = decide (xs = ys) := by
  have h1 : ∀ l : List UInt8, (bStr l).toList = l := fun l => ByteArray.toList_mk l
  rw [h1, h1]
  by_cases h : xs = ys
  · rw [decide_eq_true h, beq_iff_eq]; exact h
  · rw [decide_eq_false h, beq_eq_false_iff_ne]; exact h
theorem Opens.byte {P : Program} {t : TypeId} (ht : P.underlying t = some (.int .u8)) : Opens P t kB AnyOk := by
  constructor
  intro H enc w base spare held fuel cs x h
  obtain ⟨n, rfl, _, hw⟩ := DataW.trod_int ht h
  have hr : 0 ≤ n ∧ n < 256 := by
    simp [Lit.wf, IntKind.min, IntKind.max, IntKind.bits, IntKind.signed] at hw
    omega
  refine ⟨UInt8.ofNat n.toNat, ?_, trivial⟩
  show _ = [bV _]
  unfold bV
  rw [UInt8.toNat_ofNat']
  congr 2
  have : n.toNat % 256 = n.toNat := Nat.mod_eq_of_lt (by omega)
  omega
theorem infoB_len {n : Nat} : n * 1 = n := Nat.mul_one n
end Go.Proofs.YtldbelghobohiaaGreat
