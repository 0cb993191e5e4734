/-
  impl.Texts: its contract.
-/
import Derived.Test.YtldbelghobohiaaGreatFill
namespace Go.Proofs.YtldbelghobohiaaGreat
open Go.RowKit Go.Proofs.YtldbelghobohiaaGreatW.PrintWords Go.ChangeShapes Go.WideShapes
set_option linter.unusedVariables false
set_option linter.unusedSimpArgs false
set_option maxRecDepth 100000
def txV (o : Option ByteArray) : Value := .string (o.getD ⟨#[]⟩)
def hsV (o : Option ByteArray) : Value := .bool o.isSome
set_option maxHeartbeats 4000000 in
theorem texts_any (w : World) (A : Option Addr) (n c : Nat) (gs : List Fg) (hn : n ≤ 1000) (hM : Mild gs) (hC : kFg.C w A n gs) (hL : AllLst w gs) :
    Calls Tryz.prog 11 #[.slice A n c] w fun e w' => e = .returned (.tuple #[.agg #[txV (lastT lI (gs.map (·.1))), txV (lastT lS (gs.map (·.1))), txV (lastT lJ (gs.map (·.1)))], .agg #[hsV (lastT lI (gs.map (·.1))), hsV (lastT lS (gs.map (·.1))), hsV (lastT lJ (gs.map (·.1)))]]) ∧ Hold w w.heap.size w' [] := by
  have h0 := ((Hold.start w).alloc (.cells #[.string ⟨#[]⟩, .string ⟨#[]⟩, .string ⟨#[]⟩] 35)).alloc (.cells #[.bool false, .bool false, .bool false] 36)
  rw [show (w.alloc (.cells #[.string ⟨#[]⟩, .string ⟨#[]⟩, .string ⟨#[]⟩] 35)).heap.size = w.heap.size + 1 by simp] at h0
  have H0 := Aside0.mk h0
  have HC := Aside0.mk (h0.C hC)
  have HL := Aside0.mk (hL.below h0.below)
  have HM := Aside0.mk hM
  clear hC hL hM h0
  have hta : ∀ v W, (Instr.typeAssert (.iface 105 v) 49 47 false).run Tryz.prog W = .ok (.iface 105 v) W := fun v W => by kernel_rfl
  have hm1 : ∀ g W, (method 276 105 (.pointer (some ⟨g, 0, none⟩)) "Issuer").run Tryz.prog W = .ok (144, .pointer (some ⟨g, 0, none⟩)) W := fun g W => by kernel_rfl
  have hm2 : ∀ g W, (method 276 105 (.pointer (some ⟨g, 0, none⟩)) "Subject").run Tryz.prog W = .ok (150, .pointer (some ⟨g, 0, none⟩)) W := fun g W => by kernel_rfl
  have hm3 : ∀ g W, (method 276 105 (.pointer (some ⟨g, 0, none⟩)) "JwtID").run Tryz.prog W = .ok (145, .pointer (some ⟨g, 0, none⟩)) W := fun g W => by kernel_rfl
  go_enter Tryz.func11, Tryz.ntmps11
  go_wp2_with fail
  refine (filled_any _ A n c gs hn HM.out HC.out HL.out).mono ?_
  rintro e w1 ⟨g, gm, t, rfl, hT, hH⟩
  have HT := Aside0.mk hT
  have H1 := Aside0.mk (H0.out.app hH)
  clear hT hH
  obtain ⟨aud, iss, jti, sub, tn, D⟩ := t
  obtain ⟨a0, f0⟩ := H1.out.cellAt 6 rfl 0 (.string ⟨#[]⟩) rfl
  obtain ⟨a1, f1⟩ := H1.out.cellAt 6 rfl 1 (.string ⟨#[]⟩) rfl
  obtain ⟨a2, f2⟩ := H1.out.cellAt 6 rfl 2 (.string ⟨#[]⟩) rfl
  obtain ⟨b0, p0⟩ := H1.out.cellAt 5 rfl 0 (.bool false) rfl
  obtain ⟨b1, p1⟩ := H1.out.cellAt 5 rfl 1 (.bool false) rfl
  obtain ⟨b2, p2⟩ := H1.out.cellAt 5 rfl 2 (.bool false) rfl
  go_wp2_with fail
  refine (getIssuer_any w1 g gm aud iss jti sub tn D (H1.out.pick [0, 1, 2, 3, 4] (by decide) rfl)).mono ?_
  rintro e w2 ⟨rfl, rfl⟩
  have H2 := Aside0.mk ((H1.out.store 6 rfl 0 (.string ((ptT iss).getD ⟨#[]⟩))).store 5 rfl 0 (.bool (ptT iss).isSome))
  go_wp2_with fail
  refine (getSubject_any _ g gm aud iss jti sub tn D (H2.out.pick [0, 1, 2, 3, 4] (by decide) rfl)).mono ?_
  rintro e w2 ⟨rfl, rfl⟩
  have H3 := Aside0.mk ((H2.out.store 6 rfl 1 (.string ((ptT sub).getD ⟨#[]⟩))).store 5 rfl 1 (.bool (ptT sub).isSome))
  go_wp2_with fail
  refine (getJwtID_any _ g gm aud iss jti sub tn D (H3.out.pick [0, 1, 2, 3, 4] (by decide) rfl)).mono ?_
  rintro e w2 ⟨rfl, rfl⟩
  have H4 := Aside0.mk ((H3.out.store 6 rfl 2 (.string ((ptT jti).getD ⟨#[]⟩))).store 5 rfl 2 (.bool (ptT jti).isSome))
  go_wp2
  clear H1 H2 H3 HC HL HM hta hm1 hm2 hm3 f0 f1 f2 p0 p1 p2 a0 a1 a2 b0 b1 b2
  obtain ⟨a0, f0⟩ := H4.out.cellAt 6 rfl 0 (.string ((ptT iss).getD ⟨#[]⟩)) rfl
  obtain ⟨a1, f1⟩ := H4.out.cellAt 6 rfl 1 (.string ((ptT sub).getD ⟨#[]⟩)) rfl
  obtain ⟨a2, f2⟩ := H4.out.cellAt 6 rfl 2 (.string ((ptT jti).getD ⟨#[]⟩)) rfl
  obtain ⟨b0, p0⟩ := H4.out.cellAt 5 rfl 0 (.bool (ptT iss).isSome) rfl
  obtain ⟨b1, p1⟩ := H4.out.cellAt 5 rfl 1 (.bool (ptT sub).isSome) rfl
  obtain ⟨b2, p2⟩ := H4.out.cellAt 5 rfl 2 (.bool (ptT jti).isSome) rfl
  have HD := Aside0.mk (H4.out.pick [6, 5] (by decide) (L' := [.blk w.heap.size (.cells #[.string ((ptT iss).getD ⟨#[]⟩), .string ((ptT sub).getD ⟨#[]⟩), .string ((ptT jti).getD ⟨#[]⟩)] 35), .blk (w.heap.size + 1) (.cells #[.bool (ptT iss).isSome, .bool (ptT sub).isSome, .bool (ptT jti).isSome] 36)]) rfl)
  clear H4
  generalize ((((((w1.setCell _ _).setCell _ _).setCell _ _).setCell _ _).setCell _ _).setCell _ _) = W4 at *
  have E1 : Aside0 (lastT lI (gs.map (·.1)) = ptT iss) := ⟨HT.out.iss.symm⟩
  have E2 : Aside0 (lastT lS (gs.map (·.1)) = ptT sub) := ⟨HT.out.sub.symm⟩
  have E3 : Aside0 (lastT lJ (gs.map (·.1)) = ptT jti) := ⟨HT.out.jti.symm⟩
  clear HT H0
  go_region
  all_goals
    go_wp2
    have hS : Hold w w.heap.size _ [.blk w.heap.size (.cells #[.string ((ptT iss).getD ⟨#[]⟩), .string ((ptT sub).getD ⟨#[]⟩), .string ((ptT jti).getD ⟨#[]⟩)] 35), .blk (w.heap.size + 1) (.cells #[.bool (ptT iss).isSome, .bool (ptT sub).isSome, .bool (ptT jti).isSome] 36)] := (((((((HD.out.store 0 rfl 0 (.string ((ptT iss).getD ⟨#[]⟩))).store 0 rfl 1 (.string ((ptT sub).getD ⟨#[]⟩))).store 0 rfl 2 (.string ((ptT jti).getD ⟨#[]⟩))).store 1 rfl 0 (.bool (ptT iss).isSome)).store 1 rfl 1 (.bool (ptT sub).isSome)).store 1 rfl 2 (.bool (ptT jti).isSome)).drew)
    refine bodyPost_ret (results_cc rfl _ _ w.heap.size (w.heap.size + 1) _ _ _ _ (0, 0) (0, 0) _ _ rfl (hS.blk 0 rfl) Tryz.underlying35 rfl (by kernel_rfl) rfl (hS.blk 1 rfl) Tryz.underlying36 rfl (by kernel_rfl)) rfl ?_
    exact ⟨by rw [E1.out, E2.out, E3.out]; rfl, hS.tail.tail⟩
end Go.Proofs.YtldbelghobohiaaGreat
