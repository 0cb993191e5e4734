/-
  slices.DeleteFunc of fields: its contract.
-/
import Derived.Test.YtldbelghobohiaaGreatDelF
namespace Go.Proofs.YtldbelghobohiaaGreat
open Go.RowKit Go.Proofs.YtldbelghobohiaaGreatW.PrintWords Go.ChangeShapes Go.WideShapes
set_option linter.unusedVariables false
set_option linter.unusedSimpArgs false
set_option maxRecDepth 100000
def notOwn (x : Fg) : Bool := !isOwn x.1.1
structure DelSt (gs zs : List Fg) (i j : Nat) : Prop where
  lt : i < j
  le : j ≤ gs.length
  len : zs.length = gs.length
  kept : zs.take i = (gs.take j).filter notOwn
  left : zs.drop j = gs.drop j
theorem NoneTo.filter {gs : List Fg} {k : Nat} (h : NoneTo gs k) : (gs.take k).filter notOwn = gs.take k := by
  rw [List.filter_eq_self]
  intro x hx
  obtain ⟨j, hj, rfl⟩ := List.getElem_of_mem hx
  rw [List.getElem_take]
  have hjk : j < k := by rw [List.length_take] at hj; omega
  have hjl : j < gs.length := by rw [List.length_take] at hj; omega
  unfold notOwn
  rw [h.out j hjl hjk]
  rfl
theorem DelSt.start {gs : List Fg} {k : Nat} (h : NoneTo gs k) (hk : k < gs.length) (ho : isOwn gs[k].1.1 = true) : DelSt gs gs k (k + 1) := by
  refine ⟨by omega, hk, rfl, ?_, rfl⟩
  rw [List.take_succ_eq_append_getElem hk, List.filter_append, h.filter]
  have : List.filter notOwn [gs[k]] = [] := by simp [notOwn, ho]
  rw [this, List.append_nil]
theorem DelSt.at_ {gs zs : List Fg} {i j : Nat} (h : DelSt gs zs i j) (hj : j < gs.length) : ∃ h2 : j < zs.length, zs[j] = gs[j] := by
  have hl := h.len
  refine ⟨by omega, ?_⟩
  have h1 : (zs.drop j)[0]? = (gs.drop j)[0]? := by rw [h.left]
  rw [List.getElem?_drop, List.getElem?_drop, Nat.add_zero, List.getElem?_eq_getElem (by omega), List.getElem?_eq_getElem hj] at h1
  exact Option.some.inj h1
theorem drop_set_lt {α : Type} (l : List α) (i j : Nat) (x : α) (h : i < j) : (l.set i x).drop j = l.drop j := by
  apply List.ext_getElem?
  intro m
  rw [List.getElem?_drop, List.getElem?_drop, List.getElem?_set, if_neg (by omega)]
theorem DelSt.keep {gs zs : List Fg} {i j : Nat} (h : DelSt gs zs i j) (hj : j < gs.length) (ho : isOwn gs[j].1.1 = false) : DelSt gs (zs.set i gs[j]) (i + 1) (j + 1) := by
  have hi : i < zs.length := by have := h.lt; have := h.len; omega
  refine ⟨by have := h.lt; omega, hj, by rw [List.length_set]; exact h.len, ?_, ?_⟩
  · rw [List.take_succ_eq_append_getElem (by rw [List.length_set]; exact hi), List.getElem_set_self, List.take_set_of_le (Nat.le_refl i), h.kept, List.take_succ_eq_append_getElem hj, List.filter_append]
    have : List.filter notOwn [gs[j]] = [gs[j]] := by simp [notOwn, ho]
    rw [this]
  · have h1 : (zs.drop j).drop 1 = (gs.drop j).drop 1 := by rw [h.left]
    rw [List.drop_drop, List.drop_drop] at h1
    rw [drop_set_lt _ _ _ _ (by have := h.lt; omega)]
    exact h1
theorem DelSt.skip {gs zs : List Fg} {i j : Nat} (h : DelSt gs zs i j) (hj : j < gs.length) (ho : isOwn gs[j].1.1 = true) : DelSt gs zs i (j + 1) := by
  refine ⟨by have := h.lt; omega, hj, h.len, ?_, ?_⟩
  · rw [h.kept, List.take_succ_eq_append_getElem hj, List.filter_append]
    have : List.filter notOwn [gs[j]] = [] := by simp [notOwn, ho]
    rw [this, List.append_nil]
  · have h1 : (zs.drop j).drop 1 = (gs.drop j).drop 1 := by rw [h.left]
    rw [List.drop_drop, List.drop_drop] at h1
    exact h1
/-- An element of a row of one's own, for the walk. -/
theorem Hold.atG {w0 w : World} {B : Nat} {L : List Asrt} {e g n cap : Nat} {gs : List Fg} (hS : Hold w0 B w L) (i : Nat) (hi : L[i]? = some (.row kFg e (.slice (some ⟨g, 0, none⟩) n cap) gs)) (k : Nat) (hk : k < gs.length) :
    w.cell? ⟨g, k * 6, none⟩ = some (.string gs[k].1.1) ∧ w.cell? ⟨g, k * 6 + 1, none⟩ = some (.int .i64 gs[k].1.2.1) ∧ w.cell? ⟨g, k * 6 + 2, none⟩ = some (.string gs[k].1.2.2.1) ∧
      w.cell? ⟨g, k * 6 + 3, none⟩ = some (.bool gs[k].1.2.2.2.1) ∧ w.cell? ⟨g, k * 6 + 4, none⟩ = some (.int .i32 gs[k].1.2.2.2.2.1) ∧ w.cell? ⟨g, k * 6 + 5, none⟩ = some (.slice gs[k].2.1 gs[k].2.2.1 gs[k].2.2.2) ∧
      w.frozen? ⟨g, k * 6, none⟩ = false ∧ w.frozen? ⟨g, k * 6 + 1, none⟩ = false ∧ w.frozen? ⟨g, k * 6 + 2, none⟩ = false ∧ w.frozen? ⟨g, k * 6 + 3, none⟩ = false ∧ w.frozen? ⟨g, k * 6 + 4, none⟩ = false ∧ w.frozen? ⟨g, k * 6 + 5, none⟩ = false := by
  obtain ⟨A, c, he, hle, hC⟩ := hS.reads i hi
  injection he with hA hn hc
  subst hA; subst hn; subst hc
  obtain ⟨ad, hA, e0, e1, e2, e3, e4, e5⟩ := CG_get hC k hk
  injection hA with hA
  subst hA
  have hp : (⟨g, 0, none⟩ : Addr).add (k * 6) = ⟨g, k * 6, none⟩ := by rw [WideShapes.add_plain, Nat.zero_add]
  rw [hp] at e0 e1 e2 e3 e4 e5
  have hR := hS.room i hi
  have h6 : (kFg).sz = 6 := rfl
  rw [h6] at hR
  have hb : k * 6 + 6 ≤ cap * 6 := by omega
  exact ⟨e0, e1, e2, e3, e4, e5, (hR _ (by omega)).2, (hR _ (by omega)).2, (hR _ (by omega)).2, (hR _ (by omega)).2, (hR _ (by omega)).2, (hR _ (by omega)).2⟩
set_option maxHeartbeats 4000000 in
theorem deleteOwn_any {w0 : World} {B : Nat} (w : World) (v : Value) (gs : List Fg) (H : Hold w0 B w [.row kFg 30 v gs]) :
    Calls Tryz.prog 9 #[v, cloV] w fun e w' => ∃ v', e = .returned v' ∧ Hold w0 B w' [.row kFg 30 v' (gs.filter notOwn)] := by
  obtain ⟨A, c, rfl, hle, hC⟩ := H.reads 0 rfl
  have hx : gs.length ≤ 9223372036854775807 := hC.2.1
  have HC := Aside0.mk hC
  have HH := Aside0.mk H
  clear hC H
  go_enter Tryz.func9, Tryz.ntmps9
  go_wp2_with fail
  refine (indexOwn_any _ A _ c gs HC.out).mono ?_
  rintro e w1 ⟨v1, rfl, hF, hH⟩
  have H1 := Aside0.mk (HH.out.of_below hH.below)
  clear hH HH
  cases hF with
  | none hN =>
    have HE : Aside0 (gs.filter notOwn = gs) := ⟨by have := hN.filter; rwa [List.take_length] at this⟩
    clear hN
    go_wp2
    go_ret
    exact ⟨_, rfl, by rw [HE.out]; exact H1.out⟩
  | at_ k hk hN ho =>
    have HS := Aside0.mk (DelSt.start hN hk ho)
    clear hN ho
    obtain ⟨g, c', hv, hnc, _⟩ := H1.out.form 0 rfl (by omega)
    injection hv with hA _ hc
    subst hA; subst hc
    clear HC
    have hk1 : ((k : Int) == -1) = false := by rw [beq_eq_false_iff_ne]; omega
    go_wp2
    clear hk1
    go_loopw [5, 6] (fun a b wr => ∃ (i j : Nat) (zs : List Fg), a = .int .i64 i ∧ b = .int .i64 j ∧ DelSt gs zs i j ∧ Hold w0 B wr [.row kFg 30 (.slice (some ⟨g, 0, none⟩) gs.length c) zs]) (fun _ b _ => gs.length - (intOf b).toNat)
    case atStart => exact ⟨k, k + 1, gs, rfl, by go_num, HS.out, H1.out⟩
    case round =>
      clear HS H1 hk
      obtain ⟨i, j, zs, rfl, rfl, hS, hR⟩ := hrel
      have hij := hS.lt
      have hjl := hS.le
      have HS := Aside0.mk hS
      have HR := Aside0.mk hR
      clear hS hR
      by_cases hlt : j < gs.length
      · obtain ⟨hjz, hzj⟩ := HS.out.at_ hlt
        have hiz : i < zs.length := by omega
        obtain ⟨e0, e1, e2, e3, e4, e5, _⟩ := HR.out.atG 0 rfl j hjz
        rw [hzj] at e0 e1 e2 e3 e4 e5
        have HB2 := Aside0.mk (HR.out.alloc (.cells #[.string gs[j].1.1, .int .i64 gs[j].1.2.1, .string gs[j].1.2.2.1, .bool gs[j].1.2.2.2.1, .int .i32 gs[j].1.2.2.2.2.1, .slice gs[j].2.1 gs[j].2.2.1 gs[j].2.2.2] 30))
        go_wp2_with fail
        refine (own_clo _ gs[j]).mono ?_
        rintro e w2 ⟨rfl, hw2⟩
        have H2 := Aside0.mk (HB2.out.of_below (w' := w2) (by rw [hw2]; exact ((Hold.start _).alloc_ _).below))
        clear hw2 HB2 HR e0 e1 e2 e3 e4 e5
        cases hb : isOwn gs[j].1.1 with
        | true =>
          have HB := Aside0.mk (HS.out.skip hlt hb)
          clear hb HS
          go_wp2
          go_roundw
          case rel => exact ⟨i, j + 1, zs, rfl, by go_num, HB.out, H2.out.tail⟩
          case measure => simp [intOf]; omega
        | false =>
          have HB := Aside0.mk (HS.out.keep hlt hb)
          have H3 := Aside0.mk (H2.out.tail.setElem 0 rfl i (by omega) gs[j] (fgV gs[j]) rfl rfl)
          obtain ⟨k0, k1, k2, k3, k4, k5, f0, f1, f2, f3, f4, f5⟩ := H2.out.atG 1 rfl i hiz
          obtain ⟨b0, _⟩ := H2.out.cellAt 0 rfl 0 _ rfl
          obtain ⟨b1, _⟩ := H2.out.cellAt 0 rfl 1 _ rfl
          obtain ⟨b2, _⟩ := H2.out.cellAt 0 rfl 2 _ rfl
          obtain ⟨b3, _⟩ := H2.out.cellAt 0 rfl 3 _ rfl
          obtain ⟨b4, _⟩ := H2.out.cellAt 0 rfl 4 _ rfl
          obtain ⟨b5, _⟩ := H2.out.cellAt 0 rfl 5 _ rfl
          clear hb HS
          go_wp2
          go_roundw
          case rel => exact ⟨i + 1, j + 1, _, by go_num, by go_num, HB.out, H3.out⟩
          case measure => simp [intOf]; omega
      · have hje : j = gs.length := by omega
        subst hje
        have HF : Aside0 (zs.take i = gs.filter notOwn) := ⟨by have := HS.out.kept; rwa [List.take_length] at this⟩
        clear HS
        go_wp2_with ((with_reducible refine at_bi (b := .clear) (xs := #[.tmp 38]) rfl ?_); refine Hold.clearTail 0 HR.out rfl rfl (.tmp 38) 22 (.agg #[.string ⟨#[]⟩, .int .i64 0, .string ⟨#[]⟩, .bool false, .int .i32 0, .slice none 0 0]) rfl Tryz.underlying22 (fun W => by kernel_rfl) rfl (fun v hv => by simp [Value.cells] at hv; rcases hv with rfl | rfl | rfl | rfl | rfl | rfl <;> rfl) i (c - i) (by omega) (by omega) rfl ?_; intro w3 h3; have H3 := Aside0.mk h3; clear h3 HR)
        go_ret
        exact ⟨_, rfl, by rw [← HF.out]; exact H3.out⟩
end Go.Proofs.YtldbelghobohiaaGreat
