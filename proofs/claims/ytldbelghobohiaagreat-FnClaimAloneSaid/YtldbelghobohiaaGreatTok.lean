/-
  jwt's token: what it holds; (*stdToken).setNoLock: its contract.
-/
import Derived.Test.YtldbelghobohiaaGreatFg
import Derived.Test.YtldbelghobohiaaGreatMap
namespace Go.Proofs.YtldbelghobohiaaGreat
open Go.RowKit Go.Proofs.YtldbelghobohiaaGreatW.PrintWords Go.ChangeShapes Go.WideShapes
set_option linter.unusedVariables false
set_option linter.unusedSimpArgs false
set_option maxRecDepth 100000
/-- A text that may be there: the block of its cell, the text. -/
abbrev PT := Option (Nat × ByteArray)
def ptV (p : PT) : Value := .pointer (p.map fun q => ⟨q.1, 0, none⟩)
def ptA : PT → Asrt
  | none => .emp
  | some q => .blk q.1 (.cells #[.string q.2] 9)
def ptT (p : PT) : Option ByteArray := p.map (·.2)
structure Tk where
  aud : Value
  iss : PT
  jti : PT
  sub : PT
  n : Nat
  D : DataW Value
def tkC (t : Tk) (gm : Nat) : Array Value := #[.int .u64 0, t.aud, ptV t.iss, ptV t.jti, ptV t.sub, .map (some gm)]
def TokL (g gm : Nat) (t : Tk) : List Asrt := [.blk g (.cells (tkC t gm) 107), .hm gm t.n t.D, ptA t.iss, ptA t.jti, ptA t.sub]
def lI : ByteArray := ⟨#[105, 115, 115]⟩
def lJ : ByteArray := ⟨#[106, 116, 105]⟩
def lS : ByteArray := ⟨#[115, 117, 98]⟩
def lA : ByteArray := ⟨#[97, 117, 100]⟩
/-- What a set does to a text of the token. -/
def txStep (l name : ByteArray) (x : Pl) (cur : Option ByteArray) : Option ByteArray := if name = l ∧ x.1 = 0 then some x.2.1 else cur
structure TkStep (t t' : Tk) (name : ByteArray) (x : Pl) : Prop where
  iss : ptT t'.iss = txStep lI name x (ptT t.iss)
  jti : ptT t'.jti = txStep lJ name x (ptT t.jti)
  sub : ptT t'.sub = txStep lS name x (ptT t.sub)
  n : t'.n ≤ t.n + 1
theorem txStep_other {l name : ByteArray} (h : name ≠ l) (x : Pl) (cur : Option ByteArray) : txStep l name x cur = cur := if_neg (fun h2 => h h2.1)
theorem txStep_kind {l name : ByteArray} {x : Pl} (h : x.1 ≠ 0) (cur : Option ByteArray) : txStep l name x cur = cur := if_neg (fun h2 => h h2.2)
theorem txStep_hit {l : ByteArray} {x : Pl} (h : x.1 = 0) (cur : Option ByteArray) : txStep l l x cur = some x.2.1 := if_pos ⟨rfl, h⟩
/-- What a list takes; whatever else is held. -/
theorem accept2_any {w0 : World} {B : Nat} {L : List Asrt} (w : World) (g : Nat) (x : Pl) (u lv : Value) (A0 : Option Addr) (n0 c0 : Nat) (ys : List ByteArray) (hI : IvIs x u lv ys) (hlv : ∃ A n c, lv = .slice A n c)
    (H : Hold w0 B w (.blk g (.cells #[.slice A0 n0 c0] 57) :: L)) :
    Calls Tryz.prog 22 #[.pointer (some ⟨g, 0, none⟩), u] w fun e w' => ∃ r A' n' c', e = .returned r ∧ ErrIs r (claimOk x) ∧ Hold w0 B w' (.blk g (.cells #[.slice A' n' c'] 57) :: L) := by
  obtain ⟨hc, hf⟩ := H.cell 0 rfl 0 (by simp)
  have hgs := H.blk_lt 0 rfl
  have HH := Aside0.mk H
  have hus := Tryz.underlying9
  have hul := Tryz.underlying26
  have hua := Tryz.underlying69
  clear H
  cases hI with
  | text h =>
    have HO : Aside0 (claimOk x = true) := ⟨by unfold claimOk; rw [decide_eq_true h]; rfl⟩
    have H3 := Aside0.mk ((HH.out.store 0 rfl 0 (.slice (some ⟨w.heap.size, 0, none⟩) 1 1)).alloc_ (.cells #[.string x.2.1] 9))
    clear h hlv
    have t1 := fun (v : Value) (xT : TypeId) (W : World) => ta_hit (P := Tryz.prog) Tryz.underlying9 (by simp) v xT W
    go_enter Tryz.func22, Tryz.ntmps22
    go_wp2_with fail
    go_ret
    refine ⟨_, some ⟨w.heap.size, 0, none⟩, 1, 1, rfl, ?_, ?_⟩
    rotate_left
    · exact H3.out
    · rw [HO.out]; exact .none
  | list _ h =>
    obtain ⟨A3, n3, c3, rfl⟩ := hlv
    have HO : Aside0 (claimOk x = true) := ⟨by unfold claimOk; rw [decide_eq_true h]; simp⟩
    have H3 := Aside0.mk (HH.out.store 0 rfl 0 (.slice A3 n3 c3))
    clear h
    have t1 := (missS (.iface 26 (.slice A3 n3 c3)) (.inr ⟨_, _, rfl, by decide⟩)).out
    have t2 := fun (v : Value) (xT : TypeId) (W : World) => ta_hit (P := Tryz.prog) Tryz.underlying26 (by simp) v xT W
    go_enter Tryz.func22, Tryz.ntmps22
    go_wp2_with fail
    go_ret
    refine ⟨_, A3, n3, c3, rfl, ?_, ?_⟩
    rotate_left
    · exact H3.out
    · rw [HO.out]; exact .none
  | other _ h0 h3 hN =>
    have HO : Aside0 (claimOk x = false) := ⟨by unfold claimOk; rw [decide_eq_false h0, decide_eq_false h3]; rfl⟩
    obtain ⟨m1, m2, m3⟩ := hN.as
    have t1 := (missS u m1).out
    have t2 := (missL u m2).out
    have t3 := (missA u m3).out
    clear h0 h3 hN m1 m2 m3 hlv
    go_enter Tryz.func22, Tryz.ntmps22
    go_wp2_with fail
    refine (errNew_any _ _).mono ?_
    rintro e w1 ⟨rfl, hE⟩
    have H4 := Aside0.mk (HH.out.of_below hE.below)
    clear hE
    go_wp2
    go_ret
    refine ⟨_, A0, n0, c0, rfl, ?_, ?_⟩
    · rw [HO.out]; exact .some _
    exact H4.out
theorem str_ne {s l : ByteArray} {bs : List UInt8} (h : s ≠ l) (hl : l.data.toList = bs) : (s.toList == bs) = false := by
  have := sEq_false.2 h
  unfold sEq at this
  rw [ByteArray.toList_eq l, hl] at this
  exact this
theorem str_eq {s l : ByteArray} {bs : List UInt8} (h : s = l) (hl : l.data.toList = bs) : (s.toList == bs) = true := by
  have := sEq_true.2 h
  unfold sEq at this
  rw [ByteArray.toList_eq l, hl] at this
  exact this
theorem IvIs.text_of {x : Pl} {u lv : Value} {ys : List ByteArray} (h : IvIs x u lv ys) (h0 : x.1 = 0) : u = .iface 9 (.string x.2.1) := by
  cases h with
  | text _ => rfl
  | list _ h3 => omega
  | other _ h4 _ _ => exact absurd h0 h4
theorem IvIs.no_text {x : Pl} {u lv : Value} {ys : List ByteArray} (h : IvIs x u lv ys) (h0 : x.1 ≠ 0) : Misses u 9 (.string ByteArray.empty) := by
  cases h with
  | text h => exact absurd h h0
  | list _ h3 => exact missS _ (.inr ⟨_, _, rfl, by decide⟩)
  | other _ _ _ hN => exact missS _ hN.as.1
set_option maxHeartbeats 4000000 in
theorem setI_hit {w0 : World} {B : Nat} (w : World) (g gm : Nat) (aud : Value) (iss jti sub : PT) (n : Nat) (D : DataW Value) (x : Pl) (hx : x.1 = 0) (H : Hold w0 B w (TokL g gm ⟨aud, iss, jti, sub, n, D⟩)) :
    Calls Tryz.prog 151 #[.pointer (some ⟨g, 0, none⟩), .string lI, .iface 9 (.string x.2.1)] w fun e w' => (∃ r, e = .returned r) ∧ ∃ t', TkStep ⟨aud, iss, jti, sub, n, D⟩ t' lI x ∧ Hold w0 B w' (TokL g gm t') := by
  have HK := Aside0.mk hx
  obtain ⟨kc, fc⟩ := H.cellAt 0 rfl 2 (ptV iss) rfl
  have h1 := (H.store 0 rfl 2 (.pointer (some ⟨w.heap.size, 0, none⟩))).alloc (.cells #[.string x.2.1] 9)
  rw [show (w.setCell ⟨g, 2, none⟩ (.pointer (some ⟨w.heap.size, 0, none⟩))).heap.size = w.heap.size by simp] at h1
  have H1 := Aside0.mk (h1.pick [1, 2, 0, 4, 5] (by decide) (L' := TokL g gm ⟨aud, (some (w.heap.size, x.2.1)), jti, sub, n, D⟩) rfl)
  have HT : Aside0 (TkStep ⟨aud, iss, jti, sub, n, D⟩ ⟨aud, (some (w.heap.size, x.2.1)), jti, sub, n, D⟩ lI x) := ⟨⟨(txStep_hit HK.out _).symm, (txStep_other (by decide) _ _).symm, (txStep_other (by decide) _ _).symm, Nat.le_succ _⟩⟩
  clear h1 hx
  have t1 := fun (v : Value) (xT : TypeId) (W : World) => ta_hit (P := Tryz.prog) Tryz.underlying9 (by simp) v xT W
  have hg := H.blk_lt 0 rfl
  clear H
  unfold lI
  go_enter Tryz.func151, Tryz.ntmps151
  go_wp2_with fail
  go_ret
  exact ⟨⟨_, rfl⟩, _, HT.out, H1.out⟩
set_option maxHeartbeats 4000000 in
theorem setI_miss {w0 : World} {B : Nat} (w : World) (g gm : Nat) (aud : Value) (iss jti sub : PT) (n : Nat) (D : DataW Value) (x : Pl) (hx : x.1 ≠ 0) (u : Value) (hu : Misses u 9 (.string ByteArray.empty)) (H : Hold w0 B w (TokL g gm ⟨aud, iss, jti, sub, n, D⟩)) :
    Calls Tryz.prog 151 #[.pointer (some ⟨g, 0, none⟩), .string lI, u] w fun e w' => (∃ r, e = .returned r) ∧ ∃ t', TkStep ⟨aud, iss, jti, sub, n, D⟩ t' lI x ∧ Hold w0 B w' (TokL g gm t') := by
  have HK := Aside0.mk hx
  have HT : Aside0 (TkStep ⟨aud, iss, jti, sub, n, D⟩ ⟨aud, iss, jti, sub, n, D⟩ lI x) := ⟨⟨(txStep_kind HK.out _).symm, (txStep_kind HK.out _).symm, (txStep_kind HK.out _).symm, Nat.le_succ _⟩⟩
  have t1 := hu.out
  clear hx hu
  have H1 := Aside0.mk (H.alloc_ (.cells #[.string ⟨#[]⟩] 9))
  clear H
  unfold lI
  go_enter Tryz.func151, Tryz.ntmps151
  go_wp2_with fail
  refine (errNew_any _ _).mono ?_
  rintro e w1 ⟨rfl, hE⟩
  have H2 := Aside0.mk (H1.out.of_below hE.below)
  clear hE
  go_wp2
  go_ret
  exact ⟨⟨_, rfl⟩, _, HT.out, H2.out⟩
set_option maxHeartbeats 4000000 in
theorem setJ_hit {w0 : World} {B : Nat} (w : World) (g gm : Nat) (aud : Value) (iss jti sub : PT) (n : Nat) (D : DataW Value) (x : Pl) (hx : x.1 = 0) (H : Hold w0 B w (TokL g gm ⟨aud, iss, jti, sub, n, D⟩)) :
    Calls Tryz.prog 151 #[.pointer (some ⟨g, 0, none⟩), .string lJ, .iface 9 (.string x.2.1)] w fun e w' => (∃ r, e = .returned r) ∧ ∃ t', TkStep ⟨aud, iss, jti, sub, n, D⟩ t' lJ x ∧ Hold w0 B w' (TokL g gm t') := by
  have HK := Aside0.mk hx
  obtain ⟨kc, fc⟩ := H.cellAt 0 rfl 3 (ptV jti) rfl
  have h1 := (H.store 0 rfl 3 (.pointer (some ⟨w.heap.size, 0, none⟩))).alloc (.cells #[.string x.2.1] 9)
  rw [show (w.setCell ⟨g, 3, none⟩ (.pointer (some ⟨w.heap.size, 0, none⟩))).heap.size = w.heap.size by simp] at h1
  have H1 := Aside0.mk (h1.pick [1, 2, 3, 0, 5] (by decide) (L' := TokL g gm ⟨aud, iss, (some (w.heap.size, x.2.1)), sub, n, D⟩) rfl)
  have HT : Aside0 (TkStep ⟨aud, iss, jti, sub, n, D⟩ ⟨aud, iss, (some (w.heap.size, x.2.1)), sub, n, D⟩ lJ x) := ⟨⟨(txStep_other (by decide) _ _).symm, (txStep_hit HK.out _).symm, (txStep_other (by decide) _ _).symm, Nat.le_succ _⟩⟩
  clear h1 hx
  have t1 := fun (v : Value) (xT : TypeId) (W : World) => ta_hit (P := Tryz.prog) Tryz.underlying9 (by simp) v xT W
  have hg := H.blk_lt 0 rfl
  clear H
  unfold lJ
  go_enter Tryz.func151, Tryz.ntmps151
  go_wp2_with fail
  go_ret
  exact ⟨⟨_, rfl⟩, _, HT.out, H1.out⟩
set_option maxHeartbeats 4000000 in
theorem setJ_miss {w0 : World} {B : Nat} (w : World) (g gm : Nat) (aud : Value) (iss jti sub : PT) (n : Nat) (D : DataW Value) (x : Pl) (hx : x.1 ≠ 0) (u : Value) (hu : Misses u 9 (.string ByteArray.empty)) (H : Hold w0 B w (TokL g gm ⟨aud, iss, jti, sub, n, D⟩)) :
    Calls Tryz.prog 151 #[.pointer (some ⟨g, 0, none⟩), .string lJ, u] w fun e w' => (∃ r, e = .returned r) ∧ ∃ t', TkStep ⟨aud, iss, jti, sub, n, D⟩ t' lJ x ∧ Hold w0 B w' (TokL g gm t') := by
  have HK := Aside0.mk hx
  have HT : Aside0 (TkStep ⟨aud, iss, jti, sub, n, D⟩ ⟨aud, iss, jti, sub, n, D⟩ lJ x) := ⟨⟨(txStep_kind HK.out _).symm, (txStep_kind HK.out _).symm, (txStep_kind HK.out _).symm, Nat.le_succ _⟩⟩
  have t1 := hu.out
  clear hx hu
  have H1 := Aside0.mk (H.alloc_ (.cells #[.string ⟨#[]⟩] 9))
  clear H
  unfold lJ
  go_enter Tryz.func151, Tryz.ntmps151
  go_wp2_with fail
  refine (errNew_any _ _).mono ?_
  rintro e w1 ⟨rfl, hE⟩
  have H2 := Aside0.mk (H1.out.of_below hE.below)
  clear hE
  go_wp2
  go_ret
  exact ⟨⟨_, rfl⟩, _, HT.out, H2.out⟩
set_option maxHeartbeats 4000000 in
theorem setS_hit {w0 : World} {B : Nat} (w : World) (g gm : Nat) (aud : Value) (iss jti sub : PT) (n : Nat) (D : DataW Value) (x : Pl) (hx : x.1 = 0) (H : Hold w0 B w (TokL g gm ⟨aud, iss, jti, sub, n, D⟩)) :
    Calls Tryz.prog 151 #[.pointer (some ⟨g, 0, none⟩), .string lS, .iface 9 (.string x.2.1)] w fun e w' => (∃ r, e = .returned r) ∧ ∃ t', TkStep ⟨aud, iss, jti, sub, n, D⟩ t' lS x ∧ Hold w0 B w' (TokL g gm t') := by
  have HK := Aside0.mk hx
  obtain ⟨kc, fc⟩ := H.cellAt 0 rfl 4 (ptV sub) rfl
  have h1 := (H.store 0 rfl 4 (.pointer (some ⟨w.heap.size, 0, none⟩))).alloc (.cells #[.string x.2.1] 9)
  rw [show (w.setCell ⟨g, 4, none⟩ (.pointer (some ⟨w.heap.size, 0, none⟩))).heap.size = w.heap.size by simp] at h1
  have H1 := Aside0.mk (h1.pick [1, 2, 3, 4, 0] (by decide) (L' := TokL g gm ⟨aud, iss, jti, (some (w.heap.size, x.2.1)), n, D⟩) rfl)
  have HT : Aside0 (TkStep ⟨aud, iss, jti, sub, n, D⟩ ⟨aud, iss, jti, (some (w.heap.size, x.2.1)), n, D⟩ lS x) := ⟨⟨(txStep_other (by decide) _ _).symm, (txStep_other (by decide) _ _).symm, (txStep_hit HK.out _).symm, Nat.le_succ _⟩⟩
  clear h1 hx
  have t1 := fun (v : Value) (xT : TypeId) (W : World) => ta_hit (P := Tryz.prog) Tryz.underlying9 (by simp) v xT W
  have hg := H.blk_lt 0 rfl
  clear H
  unfold lS
  go_enter Tryz.func151, Tryz.ntmps151
  go_wp2_with fail
  go_ret
  exact ⟨⟨_, rfl⟩, _, HT.out, H1.out⟩
set_option maxHeartbeats 4000000 in
theorem setS_miss {w0 : World} {B : Nat} (w : World) (g gm : Nat) (aud : Value) (iss jti sub : PT) (n : Nat) (D : DataW Value) (x : Pl) (hx : x.1 ≠ 0) (u : Value) (hu : Misses u 9 (.string ByteArray.empty)) (H : Hold w0 B w (TokL g gm ⟨aud, iss, jti, sub, n, D⟩)) :
    Calls Tryz.prog 151 #[.pointer (some ⟨g, 0, none⟩), .string lS, u] w fun e w' => (∃ r, e = .returned r) ∧ ∃ t', TkStep ⟨aud, iss, jti, sub, n, D⟩ t' lS x ∧ Hold w0 B w' (TokL g gm t') := by
  have HK := Aside0.mk hx
  have HT : Aside0 (TkStep ⟨aud, iss, jti, sub, n, D⟩ ⟨aud, iss, jti, sub, n, D⟩ lS x) := ⟨⟨(txStep_kind HK.out _).symm, (txStep_kind HK.out _).symm, (txStep_kind HK.out _).symm, Nat.le_succ _⟩⟩
  have t1 := hu.out
  clear hx hu
  have H1 := Aside0.mk (H.alloc_ (.cells #[.string ⟨#[]⟩] 9))
  clear H
  unfold lS
  go_enter Tryz.func151, Tryz.ntmps151
  go_wp2_with fail
  refine (errNew_any _ _).mono ?_
  rintro e w1 ⟨rfl, hE⟩
  have H2 := Aside0.mk (H1.out.of_below hE.below)
  clear hE
  go_wp2
  go_ret
  exact ⟨⟨_, rfl⟩, _, HT.out, H2.out⟩
set_option maxHeartbeats 4000000 in
theorem setA_any {w0 : World} {B : Nat} (w : World) (g gm : Nat) (aud : Value) (iss jti sub : PT) (n : Nat) (D : DataW Value) (x : Pl) (u lv : Value) (ys : List ByteArray) (hI : IvIs x u lv ys) (hlv : ∃ A n c, lv = .slice A n c) (H : Hold w0 B w (TokL g gm ⟨aud, iss, jti, sub, n, D⟩)) :
    Calls Tryz.prog 151 #[.pointer (some ⟨g, 0, none⟩), .string lA, u] w fun e w' => (∃ r, e = .returned r) ∧ ∃ t', TkStep ⟨aud, iss, jti, sub, n, D⟩ t' lA x ∧ Hold w0 B w' (TokL g gm t') := by
  have HI := Aside0.mk hI
  have HV := Aside0.mk hlv
  have H1 := Aside0.mk (H.alloc (.cells #[.slice none 0 0] 57))
  have HT : Aside0 (∀ l', TkStep ⟨aud, iss, jti, sub, n, D⟩ ⟨l', iss, jti, sub, n, D⟩ lA x) := ⟨fun l' => ⟨(txStep_other (by decide) _ _).symm, (txStep_other (by decide) _ _).symm, (txStep_other (by decide) _ _).symm, Nat.le_succ _⟩⟩
  clear hI hlv H
  unfold lA
  go_enter Tryz.func151, Tryz.ntmps151
  go_wp2_with fail
  refine (accept2_any _ _ x u lv _ _ _ ys HI.out HV.out H1.out).mono ?_
  rintro e w1 ⟨r, A', n', c', rfl, hE, hH⟩
  have H2 := Aside0.mk hH
  clear hH
  obtain ⟨c0, f0⟩ := H2.out.cellAt 0 rfl 0 (.slice A' n' c') rfl
  obtain ⟨c1, f1⟩ := H2.out.cellAt 1 rfl 1 aud rfl
  have hg := H2.out.blk_lt 1 rfl
  generalize claimOk x = b at hE
  cases hE with
  | none =>
    have H3 := Aside0.mk ((H2.out.store 1 rfl 1 (.slice A' n' c')).tail)
    go_wp2
    go_ret
    exact ⟨⟨_, rfl⟩, _, HT.out (.slice A' n' c'), H3.out⟩
  | some a =>
    go_wp2_with fail
    refine (errNew_any _ _).mono ?_
    rintro e w2 ⟨rfl, hE⟩
    have H3 := Aside0.mk (H2.out.of_below hE.below)
    clear hE
    go_wp2
    go_ret
    exact ⟨⟨_, rfl⟩, _, HT.out aud, H3.out.tail⟩
set_option maxHeartbeats 4000000 in
theorem setO_any {w0 : World} {B : Nat} (w : World) (g gm : Nat) (aud : Value) (iss jti sub : PT) (n : Nat) (D : DataW Value) (x : Pl) (u : Value) (name : ByteArray) (hn : name.size ≤ maxLen) (hnn : n < maxLen) (hA : name ≠ lA) (hI : name ≠ lI) (hJ : name ≠ lJ) (hS : name ≠ lS) (H : Hold w0 B w (TokL g gm ⟨aud, iss, jti, sub, n, D⟩)) :
    Calls Tryz.prog 151 #[.pointer (some ⟨g, 0, none⟩), .string name, u] w fun e w' => (∃ r, e = .returned r) ∧ ∃ t', TkStep ⟨aud, iss, jti, sub, n, D⟩ t' name x ∧ Hold w0 B w' (TokL g gm t') := by
  obtain ⟨kc, fc⟩ := H.cellAt 0 rfl 5 (.map (some gm)) rfl
  have hg := H.blk_lt 0 rfl
  have H1 := Aside0.mk H
  have HF : Aside0 (∀ cur, txStep lI name x cur = cur ∧ txStep lJ name x cur = cur ∧ txStep lS name x cur = cur) := ⟨fun cur => ⟨txStep_other hI _ _, txStep_other hJ _ _, txStep_other hS _ _⟩⟩
  have eA := str_ne hA rfl
  have eI := str_ne hI rfl
  have eJ := str_ne hJ rfl
  have eS := str_ne hS rfl
  clear H hA hI hJ hS
  simp only [lA, lI, lJ, lS] at eA eI eJ eS
  have hm0 := fun W : World => run_eql_map_nil (P := Tryz.prog) W 89 9 20 (some gm) Tryz.underlying89
  go_enter Tryz.func151, Tryz.ntmps151
  go_wp2_with (at_mapUpdate; refine Hold.mapPut 1 H1.out rfl rfl (.tmp 28) (.tmp 29) (.tmp 30) 89 20 rfl Tryz.underlying89 name u rfl rfl rfl hnn hn ?_; intro w1 h1; have H2 := Aside0.mk h1; clear h1)
  go_ret
  exact ⟨⟨_, rfl⟩, ⟨aud, iss, jti, sub, n + 1, _⟩, ⟨((HF.out _).1).symm, ((HF.out _).2.1).symm, ((HF.out _).2.2).symm, Nat.le_refl _⟩, H2.out⟩
theorem setNo_any {w0 : World} {B : Nat} (w : World) (g gm : Nat) (aud : Value) (iss jti sub : PT) (n : Nat) (D : DataW Value) (x : Pl) (u lv : Value) (ys : List ByteArray) (name : ByteArray) (hn : name.size ≤ maxLen) (hnn : n < maxLen) (hI : IvIs x u lv ys) (hlv : ∃ A n c, lv = .slice A n c) (H : Hold w0 B w (TokL g gm ⟨aud, iss, jti, sub, n, D⟩)) :
    Calls Tryz.prog 151 #[.pointer (some ⟨g, 0, none⟩), .string name, u] w fun e w' => (∃ r, e = .returned r) ∧ ∃ t', TkStep ⟨aud, iss, jti, sub, n, D⟩ t' name x ∧ Hold w0 B w' (TokL g gm t') := by
  by_cases hA : name = lA
  · subst hA
    exact setA_any w g gm aud iss jti sub n D x u lv ys hI hlv H
  by_cases h0 : x.1 = 0
  · have hu := hI.text_of h0
    by_cases h1 : name = lI
    · subst h1; subst hu; exact setI_hit w g gm aud iss jti sub n D x h0 H
    by_cases h2 : name = lJ
    · subst h2; subst hu; exact setJ_hit w g gm aud iss jti sub n D x h0 H
    by_cases h3 : name = lS
    · subst h3; subst hu; exact setS_hit w g gm aud iss jti sub n D x h0 H
    exact setO_any w g gm aud iss jti sub n D x u name hn hnn hA h1 h2 h3 H
  · have hu := hI.no_text h0
    by_cases h1 : name = lI
    · subst h1; exact setI_miss w g gm aud iss jti sub n D x h0 u hu H
    by_cases h2 : name = lJ
    · subst h2; exact setJ_miss w g gm aud iss jti sub n D x h0 u hu H
    by_cases h3 : name = lS
    · subst h3; exact setS_miss w g gm aud iss jti sub n D x h0 u hu H
    exact setO_any w g gm aud iss jti sub n D x u name hn hnn hA h1 h2 h3 H
theorem setTok_any {w0 : World} {B : Nat} (w : World) (g gm : Nat) (aud : Value) (iss jti sub : PT) (n : Nat) (D : DataW Value) (x : Pl) (u lv : Value) (ys : List ByteArray) (name : ByteArray) (hn : name.size ≤ maxLen) (hnn : n < maxLen) (hI : IvIs x u lv ys) (hlv : ∃ A n c, lv = .slice A n c) (H : Hold w0 B w (TokL g gm ⟨aud, iss, jti, sub, n, D⟩)) :
    Calls Tryz.prog 149 #[.pointer (some ⟨g, 0, none⟩), .string name, u] w fun e w' => (∃ r, e = .returned r) ∧ ∃ t', TkStep ⟨aud, iss, jti, sub, n, D⟩ t' name x ∧ Hold w0 B w' (TokL g gm t') := by
  have HI := Aside0.mk hI
  have HV := Aside0.mk hlv
  have H1 := Aside0.mk H
  clear hI hlv H
  go_enter Tryz.func149, Tryz.ntmps149
  go_wp2_with fail
  refine (setNo_any w g gm aud iss jti sub n D x u lv ys name hn hnn HI.out HV.out H1.out).mono ?_
  rintro e w1 ⟨⟨r, rfl⟩, t', hT, hH⟩
  have HT := Aside0.mk hT
  have HH := Aside0.mk hH
  clear hT hH
  go_wp2
  go_ret
  exact ⟨⟨_, rfl⟩, t', HT.out, HH.out⟩
set_option maxHeartbeats 1000000 in
theorem getIssuer_any {w0 : World} {B : Nat} (w : World) (g gm : Nat) (aud : Value) (iss jti sub : PT) (n : Nat) (D : DataW Value) (H : Hold w0 B w (TokL g gm ⟨aud, iss, jti, sub, n, D⟩)) :
    Calls Tryz.prog 144 #[.pointer (some ⟨g, 0, none⟩)] w fun e w' => e = .returned (.tuple #[.string ((ptT iss).getD ⟨#[]⟩), .bool (ptT iss).isSome]) ∧ w = w' := by
  obtain ⟨kc, fc⟩ := H.cellAt 0 rfl 2 (ptV iss) rfl
  have hg := H.blk_lt 0 rfl
  cases iss with
  | none =>
    clear H
    unfold ptV at kc
    go_enter Tryz.func144, Tryz.ntmps144
    go_wp2
    go_ret2
    exact ⟨rfl, rfl⟩
  | some q =>
    obtain ⟨b, s⟩ := q
    obtain ⟨ks, fs⟩ := H.cellAt (cs := #[.string s]) 2 rfl 0 (.string s) rfl
    clear H
    unfold ptV at kc
    go_enter Tryz.func144, Tryz.ntmps144
    go_wp2
    go_ret2
    exact ⟨rfl, rfl⟩
set_option maxHeartbeats 1000000 in
theorem getSubject_any {w0 : World} {B : Nat} (w : World) (g gm : Nat) (aud : Value) (iss jti sub : PT) (n : Nat) (D : DataW Value) (H : Hold w0 B w (TokL g gm ⟨aud, iss, jti, sub, n, D⟩)) :
    Calls Tryz.prog 150 #[.pointer (some ⟨g, 0, none⟩)] w fun e w' => e = .returned (.tuple #[.string ((ptT sub).getD ⟨#[]⟩), .bool (ptT sub).isSome]) ∧ w = w' := by
  obtain ⟨kc, fc⟩ := H.cellAt 0 rfl 4 (ptV sub) rfl
  have hg := H.blk_lt 0 rfl
  cases sub with
  | none =>
    clear H
    unfold ptV at kc
    go_enter Tryz.func150, Tryz.ntmps150
    go_wp2
    go_ret2
    exact ⟨rfl, rfl⟩
  | some q =>
    obtain ⟨b, s⟩ := q
    obtain ⟨ks, fs⟩ := H.cellAt (cs := #[.string s]) 4 rfl 0 (.string s) rfl
    clear H
    unfold ptV at kc
    go_enter Tryz.func150, Tryz.ntmps150
    go_wp2
    go_ret2
    exact ⟨rfl, rfl⟩
set_option maxHeartbeats 1000000 in
theorem getJwtID_any {w0 : World} {B : Nat} (w : World) (g gm : Nat) (aud : Value) (iss jti sub : PT) (n : Nat) (D : DataW Value) (H : Hold w0 B w (TokL g gm ⟨aud, iss, jti, sub, n, D⟩)) :
    Calls Tryz.prog 145 #[.pointer (some ⟨g, 0, none⟩)] w fun e w' => e = .returned (.tuple #[.string ((ptT jti).getD ⟨#[]⟩), .bool (ptT jti).isSome]) ∧ w = w' := by
  obtain ⟨kc, fc⟩ := H.cellAt 0 rfl 3 (ptV jti) rfl
  have hg := H.blk_lt 0 rfl
  cases jti with
  | none =>
    clear H
    unfold ptV at kc
    go_enter Tryz.func145, Tryz.ntmps145
    go_wp2
    go_ret2
    exact ⟨rfl, rfl⟩
  | some q =>
    obtain ⟨b, s⟩ := q
    obtain ⟨ks, fs⟩ := H.cellAt (cs := #[.string s]) 3 rfl 0 (.string s) rfl
    clear H
    unfold ptV at kc
    go_enter Tryz.func145, Tryz.ntmps145
    go_wp2
    go_ret2
    exact ⟨rfl, rfl⟩
end Go.Proofs.YtldbelghobohiaaGreat
