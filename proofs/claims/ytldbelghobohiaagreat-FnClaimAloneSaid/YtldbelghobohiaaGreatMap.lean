/-
  A map of texts to values, among what is held: made, filled, looked up. What a map of a table holds.
-/
import Derived.Test.YtldbelghobohiaaGreatRows
import Derived.WalkKit
import Derived.WalkSpells
import Derived.WalkLawsBesides
import Derived.Test.YtldbelghobohiaaGreatB
import Derived.StringKeys
import Derived.Maps.Own
import Derived.Maps.OwnSet
import Derived.Maps.Views
namespace Go.Proofs.YtldbelghobohiaaGreat
open Go.RowKit Go.Proofs.YtldbelghobohiaaGreatW.PrintWords Go.Lib
set_option linter.unusedVariables false
set_option linter.unusedSimpArgs false
set_option maxRecDepth 100000
theorem Hold.cellAt {w0 w : World} {B : Nat} {L : List Asrt} {g t : Nat} {cs : Array Value} (hS : Hold w0 B w L) (i : Nat) (hi : L[i]? = some (.blk g (.cells cs t))) (j : Nat) (v : Value) (hv : cs[j]? = some v) : w.cell? ⟨g, j, none⟩ = some v ∧ w.frozen? ⟨g, j, none⟩ = false := by
  obtain ⟨hj, rfl⟩ := Array.getElem?_eq_some_iff.1 hv
  exact hS.cell i hi j hj
theorem Hold.swap {w0 w : World} {B : Nat} {a b : Asrt} {L : List Asrt} (hS : Hold w0 B w (a :: b :: L)) : Hold w0 B w (b :: a :: L) := by
  obtain ⟨F, h1, h2, h3⟩ := hS.own
  let σ : Nat → Nat := fun i => if i = 0 then 1 else if i = 1 then 0 else i
  have hσ : ∀ i, (b :: a :: L)[i]? = (a :: b :: L)[σ i]? := by
    intro i
    match i with
    | 0 => rfl
    | 1 => rfl
    | i + 2 => rfl
  have hinj : ∀ i j, σ i = σ j → i = j := by
    intro i j h
    simp only [σ] at h
    split at h <;> split at h <;> (try split at h) <;> (try split at h) <;> omega
  exact ⟨hS.below, hS.le, fun i => F (σ i), fun i c hc => h1 (σ i) c (by rw [← hσ]; exact hc), fun i k hk => h2 _ k hk, fun i j k hi hj => hinj i j (h3 _ _ k hi hj)⟩
/-- An element, as it is. -/
def rH (v : Value) : Option (DataW Value × List MemPlace) := some (.held v, [])
def kS (s : ByteArray) : Lit := .string s.data.toList
theorem kS_inj {s t : ByteArray} (h : kS s = kS t) : s = t := by
  unfold kS at h
  injection h with h
  cases s
  cases t
  simp_all
theorem str_keyed : Maps.Keyed Tryz.prog 9 := Maps.string_keyed Tryz.underlying9
def Asrt.hm (g n : Nat) (D : DataW Value) : Asrt where
  p := fun w f => f g ∧ w.ownsMap Tryz.prog 9 rH g n D
  loc := fun {w w1 f} h hm => ⟨h.1, by
    have hlt := h.2.lt
    obtain ⟨es, clock, hb, r⟩ := h.2
    exact ⟨es, clock, (hm g h.1 hlt).trans hb, r⟩⟩
  mono := fun hm h => ⟨hm _ h.1, h.2⟩
  bnd := fun h => ⟨⟨h.1, h.2.lt⟩, h.2⟩
section
variable {w0 w W : World} {B : Nat} {L : List Asrt} {ops : Array Oper} {rest : List Oper} {o : Oper} {a : Act} {Q : Exit → Act → World → Prop}
theorem Hold.mapMade (hS : Hold w0 B w L) : Hold w0 B (w.alloc (.map #[] 0)) (.hm w.heap.size 0 (.map []) :: L) :=
  hS.push (f' := fun k => k = w.heap.size) ⟨rfl, World.ownsMap_made w _ _ _⟩ (fun k hk => by omega) ⟨rfl, rfl, rfl, by simp, fun k hk _ => Below.heap_alloc _ _ _ hk⟩
theorem Hold.mapGet (hS : Hold w0 B w L) (i : Nat) {g n : Nat} {D : DataW Value} (hi : L[i]? = some (.hm g n D)) : w.ownsMap Tryz.prog 9 rH g n D := by
  obtain ⟨f, hp, _⟩ := hS.get i hi
  exact hp.2
/-- m[s] = v. -/
theorem Hold.mapPut (i : Nat) (hS : Hold w0 B W L) {g n : Nat} {D : DataW Value} (hi : L[i]? = some (.hm g n D)) (hgd : o.guard = none) (m x v : Operand) (t e : TypeId) (hop : o.op = .mapUpdate t m x v) (ht : Tryz.prog.underlying t = some (.map 9 e))
    (s : ByteArray) (val : Value) (hm : a.eval m = .map (some g)) (hx : a.eval x = .string s) (hv : a.eval v = val) (hn : n < maxLen) (hs : s.size ≤ maxLen)
    (h : ∀ w1, Hold w0 B w1 (L.set i (.hm g (n + 1) (D.put (kS s) (.held val)))) → wpList Tryz.prog ops Q rest (a.put o.dst undef) w1) : wpList Tryz.prog ops Q (o :: rest) a W := by
  refine wpList_mapUpdate_own W hgd m x v t hop 9 e str_keyed ht rH g n D hm (hS.mapGet i hi) hn (.string s) val (kS s) hx hv (WideMaps.keyOf_string_mk Tryz.underlying9 hs) (.held val) [] rfl ?_
  intro w1 h1 hg
  exact h w1 (hS.upd i hi (fun f hp => ⟨f, ⟨hp.1, h1⟩, fun k h => .inl h, Chg.of_grown hg (fun k e => by injection e with e; rw [← e]; exact hp.1)⟩))
/-- v, ok := m[s]. -/
theorem Hold.mapLook (i : Nat) (hS : Hold w0 B W L) {g n : Nat} {D : DataW Value} (hi : L[i]? = some (.hm g n D)) (hgd : o.guard = none) (m x : Operand) (t e : TypeId) (hop : o.op = .lookup t m x true) (ht : Tryz.prog.underlying t = some (.map 9 e))
    (z : Value) (hz : (zeroValue e).run Tryz.prog W = .ok z W) (s : ByteArray) (hm : a.eval m = .map (some g)) (hx : a.eval x = .string s) (hs : s.size ≤ maxLen) (v : Value) (b : Bool) (hat : D.atKey (kS s) (.held z) = .held v) (hb : Maps.has D (kS s) = b)
    (h : wpList Tryz.prog ops Q rest (a.put o.dst (.tuple #[v, .bool b])) W) : wpList Tryz.prog ops Q (o :: rest) a W := by
  refine wpList_lookup_own_ok W hgd m x t hop 9 e str_keyed ht rH hz (.held z) [] rfl g n D hm (hS.mapGet i hi) (.string s) (kS s) hx (WideMaps.keyOf_string_mk Tryz.underlying9 hs) ?_
  intro v' ps hv'
  rw [hat] at hv'
  have hv2 : v' = v := by
    unfold rH at hv'
    injection hv' with hv'
    injection hv' with h1 _
    injection h1
  rw [hv2, hb]
  exact h
end
/-! ### what a map of a table holds -/
def putAll (D : DataW Value) : List (ByteArray × Value) → DataW Value
  | [] => D
  | e :: r => putAll (D.put (kS e.1) (.held e.2)) r
theorem putAll_snoc (e : ByteArray × Value) : ∀ (l : List (ByteArray × Value)) (D : DataW Value), putAll D (l ++ [e]) = (putAll D l).put (kS e.1) (.held e.2)
  | [], D => rfl
  | x :: r, D => putAll_snoc e r _
theorem putAll_append : ∀ (l r : List (ByteArray × Value)) (D : DataW Value), putAll D (l ++ r) = putAll (putAll D l) r
  | [], r, D => rfl
  | x :: l, r, D => putAll_append l r _
theorem putAll_miss (s : ByteArray) (z : DataW Value) : ∀ (l : List (ByteArray × Value)) (D : DataW Value), (∀ e ∈ l, e.1 ≠ s) → (putAll D l).atKey (kS s) z = D.atKey (kS s) z ∧ Maps.has (putAll D l) (kS s) = Maps.has D (kS s)
  | [], D, _ => ⟨rfl, rfl⟩
  | e :: r, D, h => by
    have hne : kS s ≠ kS e.1 := fun he => h e (by simp) (kS_inj he).symm
    have ih := putAll_miss s z r (D.put (kS e.1) (.held e.2)) (fun x hx => h x (by simp [hx]))
    rw [putAll, ih.1, ih.2, Maps.atKey_put_other hne, Maps.has_put_other hne]
    exact ⟨rfl, rfl⟩
theorem putAll_hit (z : DataW Value) : ∀ (l : List (ByteArray × Value)) (D : DataW Value), Maps.IsMap D → (l.map (·.1)).Nodup → ∀ e ∈ l, (putAll D l).atKey (kS e.1) z = .held e.2 ∧ Maps.has (putAll D l) (kS e.1) = true
  | [], D, _, _, e, he => by simp at he
  | x :: r, D, hD, hn, e, he => by
    rw [List.map_cons, List.nodup_cons] at hn
    rw [putAll]
    rcases List.mem_cons.1 he with rfl | he
    · have hm := putAll_miss e.1 z r (D.put (kS e.1) (.held e.2)) (fun y hy hye => hn.1 (by rw [← hye]; exact List.mem_map_of_mem hy))
      rw [hm.1, hm.2, Maps.atKey_put_same hD (show WideAt.IsKeyLit (kS e.1) from trivial), Maps.has_put_same hD (show WideAt.IsKeyLit (kS e.1) from trivial)]
      exact ⟨rfl, rfl⟩
    · exact putAll_hit z r _ (hD.put _ _) hn.2 e he
end Go.Proofs.YtldbelghobohiaaGreat
