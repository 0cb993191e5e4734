/-
  impl.value, slices.Clone of texts, StringList's Accept and Get, errors.New, impl.Accepted, impl.AcceptedMany: their contracts.
-/
import Derived.Test.YtldbelghobohiaaGreatPlainF
import Derived.Stop.Asserts
namespace Go.Proofs.YtldbelghobohiaaGreat
open Go.RowKit Go.Proofs.YtldbelghobohiaaGreatW.PrintWords Go.ChangeShapes Go.WideShapes
set_option linter.unusedVariables false
set_option linter.unusedSimpArgs false
set_option maxRecDepth 100000
theorem info9 : (Tryz.prog.info? 9).map (fun i => (i.zero, i.size, i.bytes)) = some (some (.string ByteArray.empty), 1, 16) := by kernel_rfl
theorem emptyRowS (w : World) : Hold w w.heap.size (w.alloc (.cells #[] 9)) [.row Kd.string 9 (.slice (some ⟨w.heap.size, 0, none⟩) 0 0) []] :=
  ((Hold.start w).alloc (.cells #[] 9)).toRow 0 (d := Kd.string) (n := 0) (c := 0) (xs := []) rfl (Reps.none _ _) rfl (Nat.le_refl _) (Nat.zero_le _) rfl
theorem emptyRowSG (w : World) (g : Nat) (hg : w.heap.size = g) : Hold w w.heap.size (w.alloc (.cells #[] 9)) [.row Kd.string 9 (.slice (some ⟨g, 0, none⟩) 0 0) []] := by
  subst hg
  exact emptyRowS w
set_option maxHeartbeats 1000000 in
theorem sclone_any (w : World) (A : Option Addr) (n c : Nat) (xs : List ByteArray) (hn : n * 16 ≤ 140737488355328) (hC : Kd.string.C w A n xs) :
    Calls Tryz.prog 24 #[.slice A n c] w fun e w' => ∃ v, e = .returned v ∧ Hold w w.heap.size w' [.row Kd.string 9 v xs] := by
  cases A with
  | none =>
    have hx : xs = [] := by
      rcases Nat.eq_zero_or_pos n with h | h
      · exact List.eq_nil_of_length_eq_zero (hC.1.trans h)
      · obtain ⟨ad, e, _⟩ := hC.2.2 h
        cases e
    have hnil0 := fun W : World => Lib.run_eql_slice_nil (P := Tryz.prog) W 26 9 none n c 0 0 Tryz.underlying26
    have HX := Aside0.mk hx
    clear hx hC
    go_enter Tryz.func24, Tryz.ntmps24
    go_wp2
    go_ret
    rw [HX.out]
    exact ⟨_, rfl, (Hold.start w).nil _ _⟩
  | some ad =>
    have hnil := fun W : World => Lib.run_eql_slice_nil (P := Tryz.prog) W 26 9 (some ad) n c 0 0 Tryz.underlying26
    have H0 := Aside0.mk (emptyRowS w)
    have HC := Aside0.mk hC
    have Hl : Aside0 ((([] : List ByteArray).length + n) * 16 ≤ 140737488355328) := ⟨by simp; omega⟩
    clear hC
    go_enter Tryz.func24, Tryz.ntmps24
    go_wp2_with ((with_reducible refine at_bi (b := .append) (xs := #[.tmp 5, .tmp 6]) rfl ?_); at_builtin; refine Hold.appendRow 0 H0.out rfl rfl (.tmp 5) (.tmp 6) 26 (.string ByteArray.empty) 16 rfl Tryz.underlying26 info9 rfl (by omega) (some ad) (n) (c) rfl rfl (Kd.C_below HC.out H0.out.below) Hl.out ?_; intro _ _ H1'; have H1 := Aside0.mk H1'; clear H1' H0)
    go_ret
    exact ⟨_, rfl, H1.out⟩
/-- What a list does not take. -/
inductive NoTake : Value → Prop
  | bool (b : Bool) : NoTake (.iface 4 (.bool b))
  | float (v : Value) : NoTake (.iface 71 v)
  | nil : NoTake .nilIface
/-- A value in an interface, and the row that it leads to. -/
inductive IvIs (x : Pl) : Value → Value → List ByteArray → Prop
  | text : x.1 = 0 → IvIs x (.iface 9 (.string x.2.1)) (.slice none 0 0) []
  | list (lv : Value) : x.1 = 3 → IvIs x (.iface 26 lv) lv x.2.2.2.2
  | other (u : Value) : x.1 ≠ 0 → x.1 ≠ 3 → NoTake u → IvIs x u (.slice none 0 0) []
set_option maxRecDepth 100000 in
set_option maxHeartbeats 2000000 in
theorem value_any (w : World) (x : Pl) (v : Value) (hn : x.2.2.2.2.length * 16 ≤ 140737488355328) (hL : LstIs w v x.2.2.2.2) :
    Calls Tryz.prog 23 #[plV x v] w fun e w' => ∃ u lv ys, e = .returned u ∧ IvIs x u lv ys ∧ Hold w w.heap.size w' [.row Kd.string 9 lv ys] := by
  obtain ⟨A, c, rfl, hle, hC⟩ := hL.out
  have hu := Tryz.underlying28
  have H1 := Aside0.mk ((Hold.start w).alloc_ (.cells #[.int .i64 x.1, .string x.2.1, .bool x.2.2.1, .int .i32 x.2.2.2.1, .slice A x.2.2.2.2.length c] 28))
  have HC := Aside0.mk (Kd.C_below hC H1.out.below)
  have hn1 := Aside0.mk hn
  clear hC hL hn
  unfold plV
  by_cases h0 : x.1 = 0
  · have HK := Aside0.mk h0
    have e0 : (x.1 == 0) = true := by simpa using h0
    clear h0
    go_enter Tryz.func23, Tryz.ntmps23
    go_wp2
    go_ret
    exact ⟨_, _, _, rfl, .text HK.out, H1.out.nil _ _⟩
  · have e0 : (x.1 == 0) = false := by simpa using h0
    by_cases h3 : x.1 = 3
    · have e1 : (x.1 == 1) = false := by simp [h3]
      have e2 : (x.1 == 2) = false := by simp [h3]
      have e3 : (x.1 == 3) = true := by simp [h3]
      have HK := Aside0.mk h3
      have H2 := Aside0.mk (H1.out.of_below (emptyRowS _).below)
      have H3 := Aside0.mk (H1.out.app (emptyRowSG _ (w.heap.size + 1) (by simp)))
      have HC2 := Aside0.mk (Kd.C_below HC.out (emptyRowS _).below)
      have Hl : Aside0 ((([] : List ByteArray).length + x.2.2.2.2.length) * 16 ≤ 140737488355328) := ⟨by have := hn1.out; simp; omega⟩
      clear h0 h3
      go_enter Tryz.func23, Tryz.ntmps23
      go_wp2_with ((with_reducible refine at_bi (b := .append) (xs := #[.tmp 23, .tmp 25]) rfl ?_); at_builtin; refine Hold.appendRow 0 H3.out rfl rfl (.tmp 23) (.tmp 25) 26 (.string ByteArray.empty) 16 rfl Tryz.underlying26 info9 rfl (by omega) (A) (x.2.2.2.2.length) (c) rfl rfl (HC2.out) Hl.out ?_; intro _ _ H4'; have H4 := Aside0.mk H4'; clear H4' H3)
      go_ret
      exact ⟨_, _, _, rfl, .list _ HK.out, H4.out⟩
    · have e3 : (x.1 == 3) = false := by simpa using h3
      have HK := Aside0.mk h0
      have HK3 := Aside0.mk h3
      clear h0 h3
      by_cases h1 : x.1 = 1
      · have e1 : (x.1 == 1) = true := by simpa using h1
        clear h1
        go_enter Tryz.func23, Tryz.ntmps23
        go_wp2
        go_ret
        exact ⟨_, _, _, rfl, .other _ HK.out HK3.out (.bool _), H1.out.nil _ _⟩
      · have e1 : (x.1 == 1) = false := by simpa using h1
        clear h1
        by_cases h2 : x.1 = 2
        · have e2 : (x.1 == 2) = true := by simpa using h2
          clear h2
          go_enter Tryz.func23, Tryz.ntmps23
          go_wp2
          go_ret
          exact ⟨_, _, _, rfl, .other _ HK.out HK3.out (.float _), H1.out.nil _ _⟩
        · have e2 : (x.1 == 2) = false := by simpa using h2
          clear h2
          go_enter Tryz.func23, Tryz.ntmps23
          go_wp2
          go_ret
          exact ⟨_, _, _, rfl, .other _ HK.out HK3.out .nil, H1.out.nil _ _⟩


theorem ta_hit {P : Program} {t : TypeId} {D : TypeDesc} (hu : P.underlying t = some D) (hni : ∀ m, D ≠ .interface m) (v : Value) (xT : TypeId) (w : World) :
    (Instr.typeAssert (.iface t v) xT t true).run P w = .ok (.tuple #[v, .bool true]) w := by
  cases D with
  | interface m => exact absurd rfl (hni m)
  | _ => simp [Instr.typeAssert, run_underlying hu]
theorem ta_miss {P : Program} {t a : TypeId} {D : TypeDesc} {i : TypeInfo} {z : Value} (hu : P.underlying a = some D) (hni : ∀ m, D ≠ .interface m) (hne : t ≠ a) (hj : P.info? a = some i) (hz : i.zero = some z) (v : Value) (xT : TypeId) (w : World) :
    (Instr.typeAssert (.iface t v) xT a true).run P w = .ok (.tuple #[z, .bool false]) w := by
  cases D with
  | interface m => exact absurd rfl (hni m)
  | _ => simp [Instr.typeAssert, run_underlying hu, hne, typeInfo, zeroValue, hj, hz]
theorem ta_nil {P : Program} {a : TypeId} {D : TypeDesc} {i : TypeInfo} {z : Value} (hu : P.underlying a = some D) (hni : ∀ m, D ≠ .interface m) (hj : P.info? a = some i) (hz : i.zero = some z) (xT : TypeId) (w : World) :
    (Instr.typeAssert .nilIface xT a true).run P w = .ok (.tuple #[z, .bool false]) w := by
  cases D with
  | interface m => exact absurd rfl (hni m)
  | _ => simp [Instr.typeAssert, run_underlying hu, typeInfo, zeroValue, hj, hz]
/-- A test for a type, at a value of another one. -/
structure Misses (u : Value) (a : TypeId) (z : Value) : Prop where
  out : ∀ (xT : TypeId) (w : World), (Instr.typeAssert u xT a true).run Tryz.prog w = .ok (.tuple #[z, .bool false]) w
theorem missS (u : Value) (h : u = .nilIface ∨ ∃ t v, u = .iface t v ∧ t ≠ 9) : Misses u 9 (.string ByteArray.empty) := by
  have hi : ∃ i, Tryz.prog.info? 9 = some i ∧ i.zero = some (.string ByteArray.empty) := ⟨_, rfl, rfl⟩
  obtain ⟨i, hj, hz⟩ := hi
  rcases h with rfl | ⟨t, v, rfl, hne⟩
  · exact ⟨ta_nil Tryz.underlying9 (by simp) hj hz⟩
  · exact ⟨ta_miss Tryz.underlying9 (by simp) hne hj hz v⟩
theorem missL (u : Value) (h : u = .nilIface ∨ ∃ t v, u = .iface t v ∧ t ≠ 26) : Misses u 26 (.slice none 0 0) := by
  have hi : ∃ i, Tryz.prog.info? 26 = some i ∧ i.zero = some (.slice none 0 0) := ⟨_, rfl, rfl⟩
  obtain ⟨i, hj, hz⟩ := hi
  rcases h with rfl | ⟨t, v, rfl, hne⟩
  · exact ⟨ta_nil Tryz.underlying26 (by simp) hj hz⟩
  · exact ⟨ta_miss Tryz.underlying26 (by simp) hne hj hz v⟩
theorem missA (u : Value) (h : u = .nilIface ∨ ∃ t v, u = .iface t v ∧ t ≠ 69) : Misses u 69 (.slice none 0 0) := by
  have hi : ∃ i, Tryz.prog.info? 69 = some i ∧ i.zero = some (.slice none 0 0) := ⟨_, rfl, rfl⟩
  obtain ⟨i, hj, hz⟩ := hi
  rcases h with rfl | ⟨t, v, rfl, hne⟩
  · exact ⟨ta_nil Tryz.underlying69 (by simp) hj hz⟩
  · exact ⟨ta_miss Tryz.underlying69 (by simp) hne hj hz v⟩
theorem NoTake.as {u : Value} (h : NoTake u) : (u = .nilIface ∨ ∃ t v, u = .iface t v ∧ t ≠ 9) ∧ (u = .nilIface ∨ ∃ t v, u = .iface t v ∧ t ≠ 26) ∧ (u = .nilIface ∨ ∃ t v, u = .iface t v ∧ t ≠ 69) := by
  cases h with
  | bool b => exact ⟨.inr ⟨_, _, rfl, by decide⟩, .inr ⟨_, _, rfl, by decide⟩, .inr ⟨_, _, rfl, by decide⟩⟩
  | float v => exact ⟨.inr ⟨_, _, rfl, by decide⟩, .inr ⟨_, _, rfl, by decide⟩, .inr ⟨_, _, rfl, by decide⟩⟩
  | nil => exact ⟨.inl rfl, .inl rfl, .inl rfl⟩
inductive ErrIs : Value → Bool → Prop
  | none : ErrIs .nilIface true
  | some (a : Addr) : ErrIs (.iface 82 (.pointer (some a))) false
def claimOk (x : Pl) : Bool := decide (x.1 = 0) || decide (x.1 = 3)
def claimStep (cur : List ByteArray) (x : Pl) : List ByteArray := if x.1 = 0 then [x.2.1] else if x.1 = 3 then x.2.2.2.2 else cur
theorem errNew_any (w : World) (s : ByteArray) :
    Calls Tryz.prog 29 #[.string s] w fun e w' => e = .returned (.iface 82 (.pointer (some ⟨w.heap.size, 0, none⟩))) ∧ Hold w w.heap.size w' [] := by
  have hu := Tryz.underlying84
  have H1 := Aside0.mk ((Hold.start w).alloc_ (.cells #[.string s] 84))
  go_enter Tryz.func29, Tryz.ntmps29
  go_wp2
  go_ret
  exact ⟨rfl, H1.out⟩
theorem get_any (w : World) (v : Value) :
    Calls Tryz.prog 25 #[v] w fun e w' => e = .returned v ∧ w = w' := by
  go_enter Tryz.func25, Tryz.ntmps25
  go_wp2
  go_ret
  exact ⟨rfl, rfl⟩
set_option maxRecDepth 100000 in
set_option maxHeartbeats 2000000 in
theorem accept_any {w0 : World} {B : Nat} (w : World) (g : Nat) (x : Pl) (u lv lcur : Value) (ys cur : List ByteArray) (X : Asrt) (hI : IvIs x u lv ys)
    (H : Hold w0 B w [.blk g (.cells #[lcur] 57), .row Kd.string 9 lcur cur, .row Kd.string 9 lv ys, X]) :
    Calls Tryz.prog 22 #[.pointer (some ⟨g, 0, none⟩), u] w fun e w' => ∃ r l', e = .returned r ∧ ErrIs r (claimOk x) ∧
      Hold w0 B w' [.blk g (.cells #[l'] 57), .row Kd.string 9 l' (claimStep cur x), X] := by
  obtain ⟨hc, hf⟩ := H.cell 0 rfl 0 (by simp)
  have hgs := H.blk_lt 0 rfl
  have HH := Aside0.mk H
  have hus := Tryz.underlying9
  have hul := Tryz.underlying26
  have hua := Tryz.underlying69
  clear H
  cases hI with
  | text h =>
    have HO : Aside0 (claimOk x = true) := ⟨by unfold claimOk; rw [decide_eq_true h]; rfl⟩
    have HT : Aside0 (claimStep cur x = [x.2.1]) := ⟨by unfold claimStep; rw [if_pos h]⟩
    have hs : (w.setCell ⟨g, 0, none⟩ (.slice (some ⟨w.heap.size, 0, none⟩) 1 1)).heap.size = w.heap.size := by simp
    have H1 := (HH.out.store 0 rfl 0 (.slice (some ⟨w.heap.size, 0, none⟩) 1 1)).alloc (.cells #[.string x.2.1] 9)
    rw [hs] at H1
    have H2 := H1.toRow 0 (d := Kd.string) (n := 1) (c := 1) (xs := [x.2.1]) rfl (reps1 rfl rfl) rfl (Nat.le_refl _) (by decide) rfl
    have H3 := Aside0.mk (H2.pick [1, 0, 4] (by decide) (L' := [.blk g (.cells #[.slice (some ⟨w.heap.size, 0, none⟩) 1 1] 57), .row Kd.string 9 (.slice (some ⟨w.heap.size, 0, none⟩) 1 1) [x.2.1], X]) rfl)
    clear hs
    clear H1 H2 h
    have t1 := fun (v : Value) (xT : TypeId) (W : World) => ta_hit (P := Tryz.prog) Tryz.underlying9 (by simp) v xT W
    go_enter Tryz.func22, Tryz.ntmps22
    go_wp2_with fail
    go_ret
    refine ⟨_, .slice (some ⟨w.heap.size, 0, none⟩) 1 1, rfl, ?_, ?_⟩
    · rw [HO.out]; exact .none
    rw [HT.out]
    exact H3.out
  | list _ h =>
    obtain ⟨A3, c3, rfl, _, _⟩ := HH.out.reads 2 rfl
    have HO : Aside0 (claimOk x = true) := ⟨by unfold claimOk; rw [decide_eq_true h]; simp⟩
    have HT : Aside0 (claimStep cur x = x.2.2.2.2) := ⟨by unfold claimStep; rw [if_neg (by omega), if_pos h]⟩
    have H3 := Aside0.mk ((HH.out.store 0 rfl 0 (.slice A3 x.2.2.2.2.length c3)).pick [0, 2, 3] (by decide) (L' := [.blk g (.cells #[.slice A3 x.2.2.2.2.length c3] 57), .row Kd.string 9 (.slice A3 x.2.2.2.2.length c3) x.2.2.2.2, X]) rfl)
    clear h
    have t1 := (missS (.iface 26 (.slice A3 x.2.2.2.2.length c3)) (.inr ⟨_, _, rfl, by decide⟩)).out
    have t2 := fun (v : Value) (xT : TypeId) (W : World) => ta_hit (P := Tryz.prog) Tryz.underlying26 (by simp) v xT W
    go_enter Tryz.func22, Tryz.ntmps22
    go_wp2_with fail
    go_ret
    refine ⟨_, .slice A3 x.2.2.2.2.length c3, rfl, ?_, ?_⟩
    rotate_left
    · rw [HT.out]; exact H3.out
    · rw [HO.out]; exact .none
  | other _ h0 h3 hN =>
    have HO : Aside0 (claimOk x = false) := ⟨by unfold claimOk; rw [decide_eq_false h0, decide_eq_false h3]; rfl⟩
    have HT : Aside0 (claimStep cur x = cur) := ⟨by unfold claimStep; rw [if_neg h0, if_neg h3]⟩
    have H3 := Aside0.mk (HH.out.pick [0, 1, 3] (by decide) (L' := [.blk g (.cells #[lcur] 57), .row Kd.string 9 lcur cur, X]) rfl)
    obtain ⟨m1, m2, m3⟩ := hN.as
    have t1 := (missS u m1).out
    have t2 := (missL u m2).out
    have t3 := (missA u m3).out
    clear h0 h3 hN m1 m2 m3
    go_enter Tryz.func22, Tryz.ntmps22
    go_wp2_with fail
    refine (errNew_any _ _).mono ?_
    rintro e w1 ⟨rfl, hE⟩
    have H4 := Aside0.mk (H3.out.of_below hE.below)
    clear hE
    go_wp2
    go_ret
    refine ⟨_, lcur, rfl, ?_, ?_⟩
    · rw [HO.out]; exact .some _
    rw [HT.out]
    exact H4.out
end Go.Proofs.YtldbelghobohiaaGreat
