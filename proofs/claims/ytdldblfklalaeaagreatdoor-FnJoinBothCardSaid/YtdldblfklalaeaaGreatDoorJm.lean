/-
  A map of texts to values, among what is held: made, filled, looked up, ranged over. What a map of texts holds.
-/
import Derived.Test.YtdldblfklalaeaaGreatDoorRows
import Derived.WalkKit
import Derived.WalkSpells
import Derived.WalkLawsBesides
import Derived.Test.YtdldblfklalaeaaGreatDoorQa
import Derived.StringKeys
import Derived.Maps.Own
import Derived.Maps.OwnSet
import Derived.Maps.Views
import Derived.Maps.RangeWalk
import Derived.Sort.KeysCollected
import Derived.Sort.MapsRangeIn
namespace Go.Proofs.YtdldblfklalaeaaGreatDoor
open Go.RowKit Go.Proofs.YtdldblfklalaeaaGreatDoorW.PrintWords Go.Lib
set_option linter.unusedVariables false
set_option linter.unusedSimpArgs false
set_option maxRecDepth 100000
/-- An element, as it is. -/
def rH (v : Value) : Option (DataW Value × List MemPlace) := some (.held v, [])
def kS (s : ByteArray) : Lit := .string s.data.toList
theorem kS_inj {s t : ByteArray} (h : kS s = kS t) : s = t := by
  unfold kS at h
  injection h with h
  cases s
  cases t
  simp_all
theorem str_keyed : Maps.Keyed Tryz.prog 9 := Maps.string_keyed Tryz.underlying9
def Asrt.hm (g n : Nat) (D : DataW Value) : Asrt where
  p := fun w f => f g ∧ w.ownsMap Tryz.prog 9 rH g n D
  loc := fun {w w1 f} h hm => ⟨h.1, by
    have hlt := h.2.lt
    obtain ⟨es, clock, hb, r⟩ := h.2
    exact ⟨es, clock, (hm g h.1 hlt).trans hb, r⟩⟩
  mono := fun hm h => ⟨hm _ h.1, h.2⟩
  bnd := fun h => ⟨⟨h.1, h.2.lt⟩, h.2⟩
section
variable {w0 w W : World} {B : Nat} {L : List Asrt} {ops : Array Oper} {rest : List Oper} {o : Oper} {a : Act} {Q : Exit → Act → World → Prop}
theorem Hold.mapMade (hS : Hold w0 B w L) : Hold w0 B (w.alloc (.map #[] 0)) (.hm w.heap.size 0 (.map []) :: L) :=
  hS.push (f' := fun k => k = w.heap.size) ⟨rfl, World.ownsMap_made w _ _ _⟩ (fun k hk => by omega) ⟨rfl, rfl, rfl, by simp, fun k hk _ => Below.heap_alloc _ _ _ hk⟩
theorem Hold.mapGet (hS : Hold w0 B w L) (i : Nat) {g n : Nat} {D : DataW Value} (hi : L[i]? = some (.hm g n D)) : w.ownsMap Tryz.prog 9 rH g n D := by
  obtain ⟨f, hp, _⟩ := hS.get i hi
  exact hp.2
/-- m[s] = v. -/
theorem Hold.mapPut (i : Nat) (hS : Hold w0 B W L) {g n : Nat} {D : DataW Value} (hi : L[i]? = some (.hm g n D)) (hgd : o.guard = none) (m x v : Operand) (t e : TypeId) (hop : o.op = .mapUpdate t m x v) (ht : Tryz.prog.underlying t = some (.map 9 e))
    (s : ByteArray) (val : Value) (hm : a.eval m = .map (some g)) (hx : a.eval x = .string s) (hv : a.eval v = val) (hn : n < maxLen) (hs : s.size ≤ maxLen)
    (h : ∀ w1, Hold w0 B w1 (L.set i (.hm g (n + 1) (D.put (kS s) (.held val)))) → wpList Tryz.prog ops Q rest (a.put o.dst undef) w1) : wpList Tryz.prog ops Q (o :: rest) a W := by
  refine wpList_mapUpdate_own W hgd m x v t hop 9 e str_keyed ht rH g n D hm (hS.mapGet i hi) hn (.string s) val (kS s) hx hv (WideMaps.keyOf_string_mk Tryz.underlying9 hs) (.held val) [] rfl ?_
  intro w1 h1 hg
  exact h w1 (hS.upd i hi (fun f hp => ⟨f, ⟨hp.1, h1⟩, fun k h => .inl h, Chg.of_grown hg (fun k e => by injection e with e; rw [← e]; exact hp.1)⟩))
/-- v, ok := m[s]. -/
theorem Hold.mapLook (i : Nat) (hS : Hold w0 B W L) {g n : Nat} {D : DataW Value} (hi : L[i]? = some (.hm g n D)) (hgd : o.guard = none) (m x : Operand) (t e : TypeId) (hop : o.op = .lookup t m x true) (ht : Tryz.prog.underlying t = some (.map 9 e))
    (z : Value) (hz : (zeroValue e).run Tryz.prog W = .ok z W) (s : ByteArray) (hm : a.eval m = .map (some g)) (hx : a.eval x = .string s) (hs : s.size ≤ maxLen) (v : Value) (b : Bool) (hat : D.atKey (kS s) (.held z) = .held v) (hb : Maps.has D (kS s) = b)
    (h : wpList Tryz.prog ops Q rest (a.put o.dst (.tuple #[v, .bool b])) W) : wpList Tryz.prog ops Q (o :: rest) a W := by
  refine wpList_lookup_own_ok W hgd m x t hop 9 e str_keyed ht rH hz (.held z) [] rfl g n D hm (hS.mapGet i hi) (.string s) (kS s) hx (WideMaps.keyOf_string_mk Tryz.underlying9 hs) ?_
  intro v' ps hv'
  rw [hat] at hv'
  have hv2 : v' = v := by
    unfold rH at hv'
    injection hv' with hv'
    injection hv' with h1 _
    injection h1
  rw [hv2, hb]
  exact h
end
/-! ### what a map of a table holds -/
def putAll (D : DataW Value) : List (ByteArray × Value) → DataW Value
  | [] => D
  | e :: r => putAll (D.put (kS e.1) (.held e.2)) r
theorem putAll_snoc (e : ByteArray × Value) : ∀ (l : List (ByteArray × Value)) (D : DataW Value), putAll D (l ++ [e]) = (putAll D l).put (kS e.1) (.held e.2)
  | [], D => rfl
  | x :: r, D => putAll_snoc e r _
theorem putAll_append : ∀ (l r : List (ByteArray × Value)) (D : DataW Value), putAll D (l ++ r) = putAll (putAll D l) r
  | [], r, D => rfl
  | x :: l, r, D => putAll_append l r _
theorem putAll_miss (s : ByteArray) (z : DataW Value) : ∀ (l : List (ByteArray × Value)) (D : DataW Value), (∀ e ∈ l, e.1 ≠ s) → (putAll D l).atKey (kS s) z = D.atKey (kS s) z ∧ Maps.has (putAll D l) (kS s) = Maps.has D (kS s)
  | [], D, _ => ⟨rfl, rfl⟩
  | e :: r, D, h => by
    have hne : kS s ≠ kS e.1 := fun he => h e (by simp) (kS_inj he).symm
    have ih := putAll_miss s z r (D.put (kS e.1) (.held e.2)) (fun x hx => h x (by simp [hx]))
    rw [putAll, ih.1, ih.2, Maps.atKey_put_other hne, Maps.has_put_other hne]
    exact ⟨rfl, rfl⟩
theorem putAll_hit (z : DataW Value) : ∀ (l : List (ByteArray × Value)) (D : DataW Value), Maps.IsMap D → (l.map (·.1)).Nodup → ∀ e ∈ l, (putAll D l).atKey (kS e.1) z = .held e.2 ∧ Maps.has (putAll D l) (kS e.1) = true
  | [], D, _, _, e, he => by simp at he
  | x :: r, D, hD, hn, e, he => by
    rw [List.map_cons, List.nodup_cons] at hn
    rw [putAll]
    rcases List.mem_cons.1 he with rfl | he
    · have hm := putAll_miss e.1 z r (D.put (kS e.1) (.held e.2)) (fun y hy hye => hn.1 (by rw [← hye]; exact List.mem_map_of_mem hy))
      rw [hm.1, hm.2, Maps.atKey_put_same hD (show WideAt.IsKeyLit (kS e.1) from trivial), Maps.has_put_same hD (show WideAt.IsKeyLit (kS e.1) from trivial)]
      exact ⟨rfl, rfl⟩
    · exact putAll_hit z r _ (hD.put _ _) hn.2 e he
/-! ### ranged over -/
/-- A map over which a loop ranges: left: what is still to come. -/
def Asrt.rng (b r n : Nat) (D : DataW Value) (left : Lit → Bool) (cnt : Nat) : Asrt where
  p := fun w f => f b ∧ f r ∧ w.ranges Tryz.prog 9 rH b r n D left cnt
  loc := fun {w w1 f} h hm => ⟨h.1, h.2.1, by
    have hlt := h.2.2.owns.lt
    have hlr := h.2.2.lt
    obtain ⟨es, clock, since, seen, c0, hb, F, hs, hD, hr, rest⟩ := h.2.2
    exact ⟨es, clock, since, seen, c0, (hm b h.1 hlt).trans hb, F, hs, hD, (hm r h.2.1 hlr).trans hr, rest⟩⟩
  mono := fun hm h => ⟨hm _ h.1, hm _ h.2.1, h.2.2⟩
  bnd := fun h => ⟨⟨h.1, h.2.2.owns.lt⟩, ⟨h.2.1, h.2.2.lt⟩, h.2.2⟩
section
variable {w0 w W : World} {B : Nat} {L : List Asrt} {ops : Array Oper} {rest : List Oper} {o : Oper} {a : Act} {Q : Exit → Act → World → Prop}
theorem Hold.rngLeft (hS : Hold w0 B w L) (i : Nat) {b r n cnt : Nat} {D : DataW Value} {left : Lit → Bool} (hi : L[i]? = some (.rng b r n D left cnt)) : w.rangeLeft b r = cnt := by
  obtain ⟨f, hp, _⟩ := hS.get i hi
  exact hp.2.2.left_eq
theorem Hold.rngDone (hS : Hold w0 B w L) (i : Nat) {b r n cnt : Nat} {D : DataW Value} {left : Lit → Bool} (hi : L[i]? = some (.rng b r n D left cnt)) : Hold w0 B w (L.set i (.hm b n D)) :=
  hS.upd i hi (fun f hp => ⟨f, ⟨hp.1, hp.2.2.owns⟩, fun k h => .inl h, ⟨rfl, rfl, rfl, Nat.le_refl _, fun _ _ _ => rfl⟩⟩)
/-- len(m). -/
theorem Hold.mapLen (i : Nat) (hS : Hold w0 B W L) {g n : Nat} {D : DataW Value} (hi : L[i]? = some (.hm g n D)) (hgd : o.guard = none) (m : Operand) (t e : TypeId) (hop : o.op = Op.call { callee := Callee.builtin Builtin.len, args := #[m], argTypes := #[t] })
    (ht : Tryz.prog.underlying t = some (.map 9 e)) (hm : a.eval m = .map (some g)) (k : Nat) (hk : Maps.size D = k) (h : wpList Tryz.prog ops Q rest (a.put o.dst (.int .i64 (k : Int))) W) : wpList Tryz.prog ops Q (o :: rest) a W := by
  refine wpList_len_own W hgd m t hop 9 e ht rH g n D hm (hS.mapGet i hi) ?_
  rw [hk]
  exact h
/-- range m. -/
theorem Hold.mapRange (i : Nat) (hS : Hold w0 B W L) {g n : Nat} {D : DataW Value} (hi : L[i]? = some (.hm g n D)) (hgd : o.guard = none) (m : Operand) (t e : TypeId) (hop : o.op = Op.range t m) (ht : Tryz.prog.underlying t = some (.map 9 e))
    (hm : a.eval m = .map (some g)) (h : ∀ w1, Hold w0 B w1 (L.set i (.rng g W.heap.size n D (Maps.has D) (Maps.size D))) → wpList Tryz.prog ops Q rest (a.put o.dst (.pointer (some ⟨W.heap.size, 0, none⟩))) w1) : wpList Tryz.prog ops Q (o :: rest) a W := by
  obtain ⟨f, hp, _, hk⟩ := hS.focus i hi
  refine wpList_range_own W hgd m t hop 9 e str_keyed ht rH g n D hm hp.2 ?_
  intro w1 hr hg _
  exact h w1 (hk w1 (.rng g W.heap.size n D (Maps.has D) (Maps.size D)) (fun k => f k ∨ k = W.heap.size) ⟨.inl hp.1, .inr rfl, hr⟩ (fun k hh => hh.elim .inl (fun e => .inr (by omega))) (Chg.of_grown hg (fun k e => by cases e)))
/-- The step. -/
theorem Hold.mapNext (i : Nat) (hS : Hold w0 B W L) {b r n cnt : Nat} {D : DataW Value} {left : Lit → Bool} (hi : L[i]? = some (.rng b r n D left cnt)) (hgd : o.guard = none) (it : Operand) (hop : o.op = Op.next it false) (hit : a.eval it = .pointer (some ⟨r, 0, none⟩))
    (hDone : cnt = 0 → (∀ kl, left kl = false) → wpList Tryz.prog ops Q rest (a.put o.dst (.tuple #[.bool false])) W)
    (hMore : ∀ (s : ByteArray) (v : Value) (w1 : World) (cnt1 : Nat), s.size ≤ maxLen → left (kS s) = true → (∀ zd, D.atKey (kS s) zd = .held v) → Hold w0 B w1 (L.set i (.rng b r n D (fun z => left z && !z.sameKey (kS s)) cnt1)) → cnt1 < cnt →
      (Instr.entry (.pointer (some ⟨r, 0, none⟩))).run Tryz.prog w1 = .ok (.tuple #[.string s, v]) w1 → wpList Tryz.prog ops Q rest (a.put o.dst (.tuple #[.bool true, .string s, v])) w1) : wpList Tryz.prog ops Q (o :: rest) a W := by
  obtain ⟨f, hp, _, hk⟩ := hS.focus i hi
  refine wpList_next_ranges W hgd it hop 9 str_keyed rH (fun s : ByteArray => Value.string s) (fun v : Value => v) (fun key kl hkey => ?_) (fun v y _ => ⟨v, rfl⟩) b r n D left cnt hit hp.2.2 hDone ?_
  · exact Maps.keyOf_string_inv Tryz.underlying9 hkey
  · intro s v kl y w1 cnt1 hkey hlk hv hat hrg hlt hg _ hen
    obtain ⟨x, ex, rfl, hx⟩ := Maps.keyOf_str Tryz.underlying9 hkey
    injection ex with ex
    have e1 : s.data.toList = x := by rw [ex]
    have e2 : (Lit.string x) = kS s := by rw [← e1]; rfl
    rw [e2] at hlk hat hrg
    have e3 : y.1 = .held v := by
      injection hv with hv
      rw [← hv]
    exact hMore s v w1 cnt1 (by show s.data.size ≤ _; rw [← Array.length_toList, e1]; exact hx) hlk (fun zd => (hat zd).trans e3) (hk w1 (.rng b r n D (fun z => left z && !z.sameKey (kS s)) cnt1) f ⟨hp.1, hp.2.1, hrg⟩ (fun k hh => .inl hh) (Chg.of_grown hg (fun k e => by injection e with e; rw [← e]; exact hp.2.1))) hlt hen
end
/-! ### a map of texts to texts -/
def mapOf (l : List (ByteArray × ByteArray)) : DataW Value := putAll (.map []) (l.map fun p => (p.1, Value.string p.2))
theorem mapOf_snoc (l : List (ByteArray × ByteArray)) (p : ByteArray × ByteArray) : mapOf (l ++ [p]) = (mapOf l).put (kS p.1) (.held (.string p.2)) := by
  unfold mapOf
  rw [List.map_append]
  exact putAll_snoc _ _ _
theorem mapOf_no {l : List (ByteArray × ByteArray)} {s : ByteArray} (h : ∀ p ∈ l, p.1 ≠ s) (z : DataW Value) : (mapOf l).atKey (kS s) z = z ∧ Maps.has (mapOf l) (kS s) = false := by
  have := putAll_miss s z (l.map fun p => (p.1, Value.string p.2)) (.map []) (fun e he => by
    obtain ⟨p, hp, rfl⟩ := List.mem_map.1 he
    exact h p hp)
  exact this
theorem mapOf_yes {l : List (ByteArray × ByteArray)} (hn : (l.map (·.1)).Nodup) {p : ByteArray × ByteArray} (hp : p ∈ l) (z : DataW Value) : (mapOf l).atKey (kS p.1) z = .held (.string p.2) ∧ Maps.has (mapOf l) (kS p.1) = true :=
  putAll_hit z (l.map fun q : ByteArray × ByteArray => (q.1, Value.string q.2)) (.map []) Maps.isMap_empty (by rw [List.map_map]; exact hn) (p.1, Value.string p.2) (List.mem_map.2 ⟨p, hp, rfl⟩)
theorem mapOf_at {l : List (ByteArray × ByteArray)} (hn : (l.map (·.1)).Nodup) {s : ByteArray} {v : Value} (hh : Maps.has (mapOf l) (kS s) = true) (hv : ∀ zd, (mapOf l).atKey (kS s) zd = .held v) : ∃ p ∈ l, p.1 = s ∧ v = .string p.2 := by
  by_cases h : ∃ p ∈ l, p.1 = s
  · obtain ⟨p, hp, rfl⟩ := h
    have h1 := (mapOf_yes hn hp (.held v)).1
    rw [hv] at h1
    injection h1 with h1
    exact ⟨p, hp, rfl, h1⟩
  · rw [(mapOf_no (fun p hp e => h ⟨p, hp, e⟩) (.held v)).2] at hh
    cases hh
theorem mapOf_tidy : ∀ (l : List (ByteArray × ByteArray)) (D : DataW Value), Maps.Tidy D → Maps.Tidy (putAll D (l.map fun p => (p.1, Value.string p.2)))
  | [], D, h => h
  | p :: l, D, h => mapOf_tidy l _ (h.put (show WideAt.IsKeyLit (kS p.1) from trivial) _)
theorem mapOf_size {l : List (ByteArray × ByteArray)} {p : ByteArray × ByteArray} (hs : Maps.size (mapOf l) = l.length) (h : ∀ q ∈ l, q.1 ≠ p.1) : Maps.size (mapOf (l ++ [p])) = (l ++ [p]).length := by
  rw [mapOf_snoc, Maps.size_put (show Maps.Tidy (mapOf l) from mapOf_tidy l _ Maps.tidy_empty), (mapOf_no h (.held (.string p.2))).2, hs]
  simp
end Go.Proofs.YtdldblfklalaeaaGreatDoor
