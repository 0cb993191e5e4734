/-
  Words of this session: arguments read by the shape of their type (whole numbers, truth values, texts, slices, structs), as the printed words' kinds. No program in sight.
-/
import Derived.Test.YtldbelghobohiaaGreatOps
import Derived.Deep.Slices
import Derived.Deep.Fields
import Derived.ChangeSame
import Derived.SizedLaws
import Derived.ChangeSlices
namespace Go.Proofs.YtldbelghobohiaaGreat
open Go.RowKit Go.Proofs.YtldbelghobohiaaGreatW.PrintWords Go.ChangeShapes Go.WideShapes Go.Deep
set_option linter.unusedVariables false
set_option linter.unusedSimpArgs false

/-- Whatever is read at type t is a value of this kind. -/
structure Opens (P : Program) (t : TypeId) {α : Type} (d : Kd α) (ok : α → Prop) : Prop where
  out : ∀ {H : Type} (enc : TypeId × Value → H) (w : World) (base : Nat) (spare : Nat → Bool) (held : Bool) (fuel : Nat) (cs : List Value) (x : DataW H × List MemPlace), DataW.trod enc P w base spare held fuel t cs = some x → ∃ a, d.K w a cs ∧ ok a
def WfI (k : IntKind) (n : Int) : Prop := (Lit.int k n).wf = true
def Both {α β : Type} (p : α → Prop) (q : β → Prop) (x : α × β) : Prop := p x.1 ∧ q x.2
def AnyOk {α : Type} (_ : α) : Prop := True
def AllOk {α : Type} (p : α → Prop) (xs : List α) : Prop := ∀ x ∈ xs, p x
def StrOk (s : ByteArray) : Prop := s.size ≤ maxLen
section
variable {P : Program} {t : TypeId}
theorem Opens.int {k : IntKind} (ht : P.underlying t = some (.int k)) : Opens P t (Kd.int k) (WfI k) := by
  constructor
  intro H enc w base spare held fuel cs x h
  obtain ⟨n, rfl, _, hw⟩ := DataW.trod_int ht h
  exact ⟨n, rfl, hw⟩
theorem Opens.bool (ht : P.underlying t = some .bool) : Opens P t Kd.bool AnyOk := by
  constructor
  intro H enc w base spare held fuel cs x h
  obtain ⟨b, rfl, _⟩ := DataW.trod_bool ht h
  exact ⟨b, rfl, trivial⟩
theorem Opens.string (ht : P.underlying t = some .string) : Opens P t Kd.string StrOk := by
  constructor
  intro H enc w base spare held fuel cs x h
  obtain ⟨s, rfl, _, hs⟩ := DataW.trod_string ht h
  exact ⟨s, rfl, hs⟩
theorem list_of {α : Type} {Q : Nat → α → Prop} : ∀ n : Nat, (∀ i, i < n → ∃ a, Q i a) → ∃ xs : List α, xs.length = n ∧ ∀ i a, xs[i]? = some a → Q i a
  | 0, _ => ⟨[], rfl, fun i a h => by simp at h⟩
  | n + 1, h => by
    obtain ⟨xs, hl, hx⟩ := list_of n (fun i hi => h i (by omega))
    obtain ⟨a, ha⟩ := h n (by omega)
    refine ⟨xs ++ [a], by simp [hl], fun i b hb => ?_⟩
    rcases Nat.lt_or_ge i n with hi | hi
    · rw [List.getElem?_append_left (by omega)] at hb
      exact hx i b hb
    · rw [List.getElem?_append_right (by omega)] at hb
      have : i = n := by
        have := (List.getElem?_eq_some_iff.1 hb).1
        simp at this
        omega
      subst this
      rw [hl, Nat.sub_self] at hb
      have : a = b := by simpa using hb
      exact this ▸ ha
theorem Opens.sl {e : TypeId} {α : Type} {d : Kd α} {ok : α → Prop} (ht : P.underlying t = some (.slice e)) (hc : P.cellsOf e = d.sz) (h : Opens P e d ok) : Opens P t (Kd.slice e d) (AllOk ok) := by
  constructor
  intro H enc w base spare held fuel cs x ht'
  rcases open_slice ht ht' with ⟨rfl, _⟩ | ⟨a, len, cap, m, n, D, Pl, rfl, hb, hl, hm, hmm, _, hi⟩
  · exact ⟨[], ⟨none, 0, rfl, Nat.le_refl _, ⟨rfl, Nat.zero_le _, fun hn => absurd hn (Nat.lt_irrefl _)⟩⟩, fun x hx => by simp at hx⟩
  · obtain ⟨xs, hxl, hx⟩ := list_of (Q := fun i a' => ok a' ∧ ∃ c, c.length = d.sz ∧ d.K w a' c ∧ ∀ j u, c[j]? = some u → w.cell? (a.add (i * d.sz + j)) = some u) len (fun i hil => by
      obtain ⟨cs', hcs, htr⟩ := hi i (by rw [hmm]; split <;> omega)
      obtain ⟨a', hK, hok⟩ := h.out enc w base spare held n cs' _ htr
      rw [hc] at hcs
      obtain ⟨_, hlen, hcell⟩ := World.cells?_some hcs
      refine ⟨a', hok, cs', hlen, hK, fun j u hu => ?_⟩
      have hj : j < cs'.length := (List.getElem?_eq_some_iff.1 hu).1
      have := hcell j (by omega)
      rw [Go.Deep.add_add] at this
      rw [this, hu])
    refine ⟨xs, ⟨some a, cap, by rw [hxl], by omega, ⟨rfl, by rw [hxl]; simp only [maxLen] at hm; omega, fun hn => ⟨a, rfl, fun j p hj => ?_⟩⟩⟩, fun y hy => ?_⟩
    · obtain ⟨_, c, h1, h2, h3⟩ := hx j p hj
      exact ⟨c, h1, h2, h3⟩
    · obtain ⟨j, hj⟩ := List.getElem?_of_mem hy
      exact (hx j y hj).1
/-- A struct's cells from field i on. -/
structure OpensAt (P : Program) (fs : Array Field) (i off : Nat) {α : Type} (d : Kd α) (ok : α → Prop) : Prop where
  out : ∀ {H : Type} (enc : TypeId × Value → H) (w : World) (base : Nat) (spare : Nat → Bool) (held : Bool) (n : Nat) (cs : List Value) (xs : List (DataW H × List MemPlace)), xs.length = fs.size →
    (∀ (j : Nat) (f : Field), fs[j]? = some f → DataW.trod enc P w base spare held n f.type ((cs.drop f.offset).take (P.cellsOf f.type)) = xs[j]?) → ∃ a, d.K w a ((cs.drop off).take d.sz) ∧ ok a
theorem OpensAt.last {fs : Array Field} {i off : Nat} {f : Field} {α : Type} {d : Kd α} {ok : α → Prop} (hf : fs[i]? = some f) (ho : f.offset = off) (hc : P.cellsOf f.type = d.sz) (h : Opens P f.type d ok) : OpensAt P fs i off d ok := by
  constructor
  intro H enc w base spare held n cs xs hl hx
  have h1 := hx i f hf
  have hi : i < xs.length := by rw [hl]; exact (Array.getElem?_eq_some_iff.1 hf).1
  rw [ho, hc, List.getElem?_eq_getElem hi] at h1
  exact h.out enc w base spare held n _ _ h1
theorem OpensAt.cons {fs : Array Field} {i off : Nat} {f : Field} {α β : Type} {d : Kd α} {d' : Kd β} {ok : α → Prop} {ok' : β → Prop} (hf : fs[i]? = some f) (ho : f.offset = off) (hc : P.cellsOf f.type = d.sz) (h : Opens P f.type d ok) (hr : OpensAt P fs (i + 1) (off + d.sz) d' ok') :
    OpensAt P fs i off (Kd.pair d d') (Both ok ok') := by
  constructor
  intro H enc w base spare held n cs xs hl hx
  obtain ⟨a, ha, hok⟩ := (OpensAt.last hf ho hc h).out enc w base spare held n cs xs hl hx
  obtain ⟨b, hb, hok'⟩ := hr.out enc w base spare held n cs xs hl hx
  refine ⟨(a, b), ⟨_, _, ?_, ha, hb⟩, hok, hok'⟩
  show (cs.drop off).take (d.sz + d'.sz) = _
  rw [List.take_add, List.drop_drop]
theorem Opens.struct {fs : Array Field} {α : Type} {d : Kd α} {ok : α → Prop} (ht : P.underlying t = some (.struct fs)) (hC : P.cellsOf t = d.sz) (h : OpensAt P fs 0 0 d ok) : Opens P t d ok := by
  constructor
  intro H enc w base spare held fuel cs x hx
  obtain ⟨xs, n, _, _, hl, hxl, hf⟩ := DataW.trod_struct ht hx
  obtain ⟨a, ha, hok⟩ := h.out enc w base spare held n cs xs hxl hf
  rw [List.drop_zero, ← hC, ← hl, List.take_length] at ha
  exact ⟨a, ha, hok⟩
end
/-- A parameter that is a slice: its value, what it reads, its size. -/
theorem open_sl {H : Type} {enc : TypeId × Value → H} {P : Program} {W : World} {base : Nat} {spare : Nat → Bool} {held : Bool} {t e : TypeId} {v : Value} {dd : DataW H} {ps : List MemPlace} {ts : List TypeId} {ds : List (DataW H)} {j : Nat} {r : Reach} {b0 : Nat}
    {α : Type} {d : Kd α} {ok : α → Prop} (hu : P.underlying t = some (.slice e)) (hc : P.cellsOf e = d.sz) {B : Nat} (hB : P.bytesOf e = B) (hO : Opens P e d ok) (hv : Value.okWide P W r b0 t v)
    (hsz : (DataW.weightsEach P ts ds).all (· ≤ reachBytes) = true) (ht : ts[j]? = some t) (hd : ds[j]? = some dd)
    (h : DataW.Trod enc P W base spare held t v dd ps) : ∃ (A : Option Addr) (n c : Nat) (xs : List α), v = .slice A n c ∧ d.C W A n xs ∧ AllOk ok xs ∧ (xs.length * B ≤ 140737488351232 ∧ n ≤ c) := by
  obtain ⟨A, n, c, rfl⟩ := okWide_slice hu hv
  obtain ⟨fuel, hf⟩ := h
  obtain ⟨xs, ⟨A', c', he, hle, hC⟩, hok⟩ := (Opens.sl hu hc hO).out enc W base spare held fuel _ _ hf
  simp only [Value.cells] at he
  simp at he
  obtain ⟨rfl, rfl, rfl⟩ := he
  refine ⟨A, _, c, xs, rfl, hC, hok, ?_, hle⟩
  rcases open_slice hu hf with ⟨hcs, _⟩ | ⟨x, l, c1, m, n, D, Pl, hcs, _, hl, hm, hmm, hx, _⟩
  · simp [Value.cells] at hcs
    obtain ⟨_, rfl, _⟩ := hcs
    simp
  · simp [Value.cells] at hcs
    obtain ⟨_, rfl, _⟩ := hcs
    obtain ⟨hx, _⟩ := Prod.mk.inj hx
    subst hx
    have z := sized_slice hsz ht hd hu
    rw [hB] at z
    simp only [List.length_map, List.length_range] at z
    exact Nat.le_trans (Nat.mul_le_mul_right _ (Nat.le_add_right _ _)) z
end Go.Proofs.YtldbelghobohiaaGreat
