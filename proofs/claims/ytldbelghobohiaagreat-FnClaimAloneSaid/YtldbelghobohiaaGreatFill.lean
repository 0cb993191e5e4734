/-
  impl.fresh of a token, impl.filled, impl.Texts: their contracts.
-/
import Derived.Test.YtldbelghobohiaaGreatTok
import Derived.Deep.RegionLaw
namespace Go.Proofs.YtldbelghobohiaaGreat
open Go.RowKit Go.Proofs.YtldbelghobohiaaGreatW.PrintWords Go.ChangeShapes Go.WideShapes
set_option linter.unusedVariables false
set_option linter.unusedSimpArgs false
set_option maxRecDepth 100000
theorem Hold.emp {w0 w : World} {B : Nat} {L : List Asrt} (hS : Hold w0 B w L) : Hold w0 B w (.emp :: L) :=
  hS.push (f' := fun _ => False) trivial (fun k hk => hk.elim) ⟨rfl, rfl, rfl, Nat.le_refl _, fun _ _ _ => rfl⟩
def tk0 : Tk := ⟨.slice none 0 0, none, none, none, 0, .map []⟩
theorem fresh2_any (w : World) :
    Calls Tryz.prog 26 #[.int .i64 2] w fun e w' => ∃ g gm, e = .returned (.iface 105 (.pointer (some ⟨g, 0, none⟩))) ∧ Hold w w.heap.size w' (TokL g gm tk0) := by
  have hmm := @run_makeMap Tryz.prog
  have h1 := (Hold.start w).mapMade.alloc (.cells #[.int .u64 0, .slice none 0 0, .pointer none, .pointer none, .pointer none, .map (some w.heap.size)] 107)
  rw [show (w.alloc (.map #[] 0)).heap.size = w.heap.size + 1 by simp] at h1
  have H1 := Aside0.mk (h1.emp.emp.emp.pick [3, 4, 0, 1, 2] (by decide) (L' := TokL (w.heap.size + 1) w.heap.size tk0) rfl)
  clear h1
  go_enter Tryz.func26, Tryz.ntmps26
  go_wp2
  go_ret
  exact ⟨_, _, rfl, H1.out⟩
/-- The last text that is set under a name. -/
def lastT (l : ByteArray) (fs : List Fd) : Option ByteArray := fs.foldl (fun cur f => txStep l f.1 f.2 cur) none
structure TkAt (t : Tk) (fs : List Fd) : Prop where
  iss : ptT t.iss = lastT lI fs
  jti : ptT t.jti = lastT lJ fs
  sub : ptT t.sub = lastT lS fs
theorem lastT_snoc (l : ByteArray) (fs : List Fd) (f : Fd) : lastT l (fs ++ [f]) = txStep l f.1 f.2 (lastT l fs) := by
  unfold lastT
  rw [List.foldl_append]
  rfl
theorem TkAt.step {t t' : Tk} {fs : List Fd} {f : Fd} (h : TkAt t fs) (hs : TkStep t t' f.1 f.2) : TkAt t' (fs ++ [f]) :=
  ⟨by rw [hs.iss, h.iss, lastT_snoc], by rw [hs.jti, h.jti, lastT_snoc], by rw [hs.sub, h.sub, lastT_snoc]⟩
/-- Names that are not too long, and lists. -/
structure Mild (gs : List Fg) : Prop where
  out : ∀ x ∈ gs, x.1.1.size ≤ 100 ∧ x.1.2.2.2.2.2.length ≤ 20
theorem slice_form {w0 w : World} {B : Nat} {L : List Asrt} {v : Value} {ys : List ByteArray} {e : Nat} (hS : Hold w0 B w (.row Kd.string e v ys :: L)) : ∃ A n c, v = .slice A n c := by
  obtain ⟨A, c, rfl, _, _⟩ := hS.reads 0 rfl
  exact ⟨_, _, _, rfl⟩
set_option maxHeartbeats 4000000 in
theorem filled_any (w : World) (A : Option Addr) (n c : Nat) (gs : List Fg) (hn : n ≤ 1000) (hM : Mild gs) (hC : kFg.C w A n gs) (hL : AllLst w gs) :
    Calls Tryz.prog 18 #[.int .i64 2, .slice A n c] w fun e w' => ∃ g gm t, e = .returned (.iface 105 (.pointer (some ⟨g, 0, none⟩))) ∧ TkAt t (gs.map (·.1)) ∧ Hold w w.heap.size w' (TokL g gm t) := by
  obtain rfl := hC.1
  have HC := Aside0.mk hC
  have HL := Aside0.mk hL
  have HM := Aside0.mk hM
  clear hC hL hM
  go_enter Tryz.func18, Tryz.ntmps18
  go_wp2_with fail
  refine (fresh2_any _).mono ?_
  rintro e w1 ⟨g, gm, rfl, hH⟩
  have H1 := Aside0.mk hH
  clear hH
  go_wp2
  go_loopw [12] (fun i wr => ∃ k : Nat, k ≤ gs.length ∧ i = .int .i64 k ∧ ∃ t, TkAt t ((gs.take k).map (·.1)) ∧ t.n ≤ k ∧ Hold w w.heap.size wr (TokL g gm t)) (fun i _ => gs.length - (intOf i).toNat)
  case atStart => exact ⟨0, Nat.zero_le _, rfl, tk0, ⟨rfl, rfl, rfl⟩, Nat.le_refl _, H1.out⟩
  case round =>
    clear H1
    obtain ⟨k, hk, rfl, t, hT, htn, hR⟩ := hrel
    have HR := Aside0.mk hR
    have HT := Aside0.mk hT
    clear hR hT
    by_cases hlt : k < gs.length
    · obtain ⟨ad, rfl, e0, e1, e2, e3, e4, e5⟩ := CG_get (HR.out.C HC.out) k hlt
      have HB := Aside0.mk (HR.out.alloc (.cells (fgV gs[k]).toArray 30)).drew
      have HX : Aside0 (LstOk w gs[k]) := ⟨HL.out.out _ (List.getElem_mem hlt)⟩
      have HMk := Aside0.mk (HM.out.out _ (List.getElem_mem hlt))
      have HTk := Aside0.mk (show ∀ t', TkStep t t' gs[k].1.1 gs[k].1.2 → TkAt t' ((gs.take (k + 1)).map (·.1)) from fun t' hs => by
        rw [List.take_succ_eq_append_getElem hlt, List.map_append]
        exact HT.out.step hs)
      clear HT
      obtain ⟨x, hx⟩ : ∃ x, x = gs[k] := ⟨_, rfl⟩
      rw [← hx] at e0 e1 e2 e3 e4 e5 HB HX HMk HTk
      clear hx
      have hme : ∀ W, (method 276 105 (.pointer (some ⟨g, 0, none⟩)) "Set").run Tryz.prog W = .ok (149, .pointer (some ⟨g, 0, none⟩)) W := fun W => by kernel_rfl
      have hna : ∀ W, (nilAhead 276 105 (.pointer (some ⟨g, 0, none⟩)) "Set").run Tryz.prog W = .ok (some false) W := fun W => by kernel_rfl
      go_wp2
      go_region_law (go_simp; first | (go_at_call 23; refine (value_any _ x.1.2 (.slice x.2.1 x.2.2.1 x.2.2.2) (by have := HMk.out.2; omega) (HX.out.below HB.out.below).out).mono ?_; rintro e w2 ⟨u, lv, ys, rfl, hI, hV⟩; have HV := Aside0.mk (HB.out.app hV); obtain ⟨k0, _⟩ := HV.out.cellAt 1 rfl 0 (.string x.1.1) rfl; have HI := Aside0.mk hI; clear hV hI) | (go_at_call 149; refine (setTok_any _ g gm t.aud t.iss t.jti t.sub t.n t.D x.1.2 _ _ _ x.1.1 (Nat.le_trans HMk.out.1 (by decide)) (by unfold maxLen; omega) HI.out (slice_form HV.out) HV.out.tail.tail).mono ?_; rintro e w3 ⟨⟨r, rfl⟩, t', hT', hH'⟩; have HN := Aside0.mk hH'; have HT' := Aside0.mk (HTk.out t' hT'); have hn' : t'.n ≤ k + 1 := Nat.le_trans hT'.n (Nat.succ_le_succ htn); clear hH' hT'))
      all_goals
        go_wp2
        go_roundw
        case rel => exact ⟨k + 1, hlt, by go_num, t', HT'.out, hn', HN.out⟩
        case measure => simp [intOf]; omega
    · obtain rfl : k = gs.length := by omega
      rw [List.take_length] at HT
      go_wp2
      go_ret
      exact ⟨_, _, _, rfl, HT.out, HR.out⟩
end Go.Proofs.YtldbelghobohiaaGreat
