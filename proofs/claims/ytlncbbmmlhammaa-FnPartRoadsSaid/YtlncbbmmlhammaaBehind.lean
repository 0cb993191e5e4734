/-
  inner/base64.AppendEncode, impl.EncodedBehind: their contracts; append as a step of a region that draws, over Hold.
-/
import Derived.Test.YtlncbbmmlhammaaAppEnc
import Derived.Deep.RegionLaw
namespace Go.Proofs.Ytlncbbmmlhammaa
open Go.RowKit Go.Proofs.YtlncbbmmlhammaaW.PrintWords Go.Lib
set_option linter.unusedVariables false
set_option linter.unusedSimpArgs false
/-- What a row that is written out bears. -/
theorem Hold.Cat {α : Type} {d : Kd α} {w0 w : World} {B : Nat} {L : List Asrt} {e n c : Nat} {A : Option Addr} {xs : List α} (hS : Hold w0 B w L) (i : Nat) (hi : L[i]? = some (.row d e (.slice A n c) xs)) : d.C w A n xs := by
  obtain ⟨A', c', he, _, hC⟩ := hS.reads i hi
  injection he with h1 h2 h3
  subst h1 h2 h3
  exact hC
section
variable {P : Program} {ops : Array Oper} {o : Oper} {a : Act} {Q : Exit → Act → World → Prop} {Kc : Act → World → Prop} {w0 W : World} {B : Nat} {L : List Asrt}
/-- Is the operation that comes up this append? (For an arm: with_reducible refine stepAppend .. rfl ?_.) -/
theorem stepAppend {E : Prop} (s x : Operand) (t : TypeId) (ho : o.op = .call { callee := .builtin .append, args := #[s, x], argTypes := #[t, t] }) (h : if Region.wanted o (yielded ops a.tmps) = true then Oper.wp P o a W Kc Q else E) :
    if Region.wanted o (yielded ops a.tmps) = true then Oper.wp P o a W Kc Q else E := h
theorem Hold.appendStep {α : Type} {enc : α → Value} {h1 : ∀ x, (enc x).oneCell' = true} (i : Nat) (hS : Hold w0 B W L) {e : Nat} {v : Value} {xs ys : List α} (hi : L[i]? = some (.row (Kd.scalar enc h1) e v xs)) (hw : Region.wanted o (yielded ops a.tmps) = true) (s x : Operand) (t : TypeId) (z : Value) (bytes : Nat)
    (ho : o.op = .call { callee := .builtin .append, args := #[s, x], argTypes := #[t, t] })
    (ht : P.underlying t = some (.slice e)) (hinfo : (P.info? e).map (fun i => (i.zero, i.size, i.bytes)) = some (some z, 1, bytes)) (hz : z.cells.size = 1) (hb0 : 0 < bytes)
    (A : Option Addr) (m c : Nat) (hs : a.eval s = v) (hx : a.eval x = .slice A m c) (hC : (Kd.scalar enc h1).C W A m ys) (hl : (xs.length + m) * bytes ≤ 140737488355328)
    (h : ∀ v1 w1, Hold w0 B w1 (L.set i (.row (Kd.scalar enc h1) e v1 (xs ++ ys))) → Kc (a.put o.dst v1) w1) :
    if Region.wanted o (yielded ops a.tmps) = true then Oper.wp P o a W Kc Q else Kc (a.put o.dst undef) W := by
  obtain ⟨f, hR, hb, hk⟩ := hS.focus i hi
  refine Kd.R_append_rows_step (Kd.scalar enc h1) (w0 := W) 0 hw s x t e z bytes ho ht hinfo hz (show 0 < 1 from Nat.one_pos) hb0 v xs ys A m c (fun k => f k ∨ W.heap.size ≤ k) (fun _ => False) hs hx (Kd.R_mono hR (fun k h => .inl h)) hC (fun _ _ h => h) (fun _ h => h.elim) (fun k h => .inr h) (Below.refl _ _) (Nat.zero_le _) hl ?_
  intro v1 w1 ho1 hb1 hg hat
  exact h v1 w1 (hk w1 _ _ ho1 (fun k h => h) (Chg.of_grown hg (fun k e => hR.1 k e)))
end
set_option maxHeartbeats 1000000 in
theorem app64_any {w0 : World} {B : Nat} {L : List Asrt} (w : World) (v : Value) (xs : List UInt8) (A : Option Addr) (n c b o : Nat) (ys : List UInt8) (hn : n ≤ 1000000000) (hx : xs.length ≤ 4000000000)
    (hA : 0 < n → A = some ⟨b, o, none⟩) (hnc : n ≤ c) (H : Hold w0 B w (.row kB 5 v xs :: L)) (hsrc : ∀ w', Hold w0 B w' L → kB.C w' A n ys) :
    Calls Try.prog 36 #[v, .slice A n c] w fun e w' => ∃ v', e = .returned v' ∧ Hold w0 B w' (.row kB 5 v' (xs ++ b64 true ys) :: L) := by
  have H0 := Aside0.mk H
  have HA := Aside0.mk hA
  have HS := Aside0.mk hsrc
  have HX := Aside0.mk hx
  clear H hA hsrc hx
  go_enter Try.func36, Try.ntmps36
  go_wp2_with fail
  refine (getEnc_any _).mono ?_
  rintro e w1 ⟨g, rfl, hH⟩
  have H1 : Aside0 (Hold w0 B w1 (.row kB 5 v xs :: .blk g (.cells (encX true (-1)) 79) :: L)) := ⟨(H0.out.app hH).swap⟩
  clear hH H0
  go_wp2_with fail
  refine (appEnc_any _ true g v xs A n c b o ys hn HX.out HA.out hnc H1.out HS.out).mono ?_
  rintro e w2 ⟨v', rfl, hH⟩
  have HH := Aside0.mk (hH.swap.tail)
  clear hH H1
  go_wp2
  go_ret
  exact ⟨_, rfl, HH.out⟩
set_option maxHeartbeats 1000000 in
theorem behind_any (w : World) (A1 A2 : Option Addr) (n c m d : Nat) (xs ys : List UInt8) (hn : n ≤ 4000000000) (hm : m ≤ 1000000000) (hC1 : kB.C w A1 n xs) (hC2 : kB.C w A2 m ys) :
    Calls Try.prog 21 #[.slice A1 n c, .slice A2 m d] w fun e w' => ∃ v, e = .returned v ∧ Hold w w.heap.size w' [.row kB 5 v (xs ++ b64 true ys)] := by
  obtain rfl := hC1.1
  obtain rfl := hC2.1
  have HC1 := Aside0.mk hC1
  have HC2 := Aside0.mk hC2
  clear hC1 hC2
  go_enter Try.func21, Try.ntmps21
  go_wp2_with fail
  refine (bclone_any _ A1 _ c xs (by omega) HC1.out).mono ?_
  rintro e w1 ⟨v, rfl, hH⟩
  have H1 := Aside0.mk hH
  have HC3 := Aside0.mk (H1.out.C HC2.out)
  clear hH
  go_wp2_with fail
  refine (bclone_any _ A2 _ d ys (by omega) HC3.out).mono ?_
  rintro e w2 ⟨v2, rfl, hH⟩
  obtain ⟨b, c1, A3, rfl, hb, hc1, _⟩ := hH.clone
  have H2 : Aside0 (Hold w w.heap.size w2 [.row kB 5 v xs, .row kB 5 (.slice A3 ys.length c1) ys]) := ⟨(H1.out.app hH).swap⟩
  have HB := Aside0.mk hb
  clear hH hb H1 HC3
  go_wp2_with fail
  refine (app64_any _ v xs A3 ys.length c1 b 0 ys hm hn HB.out hc1 H2.out (fun w' h => h.Cat 0 rfl)).mono ?_
  rintro e w3 ⟨v3, rfl, hH⟩
  have HH := Aside0.mk (hH.pick [0] (by decide) (L' := [.row kB 5 v3 (xs ++ b64 true ys)]) rfl)
  clear hH
  go_wp2
  go_ret
  exact ⟨_, rfl, HH.out⟩
end Go.Proofs.Ytlncbbmmlhammaa
