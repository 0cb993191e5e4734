/-
  FnPartRoad: the statement, proved: for every input the law returns true, and each argument reads behind the call as it read before. No condition.
-/
import Derived.Test.YtlncbbmmlhammaaDoorRows
import Derived.Test.YtlncbbmmlhammaaDoorPartRoad
import Derived.WalkKit
import Derived.ProofKit
import Derived.OpenShut
import Derived.ShutString
import Derived.ChangeOld
import Derived.Below
import Derived.SizedLaws
import Derived.Handed
import Derived.LaidMore
import Derived.LaidLaws
import Derived.LaidHandle
import Derived.Stop.LaidErr
import Derived.Stop.Joined
import Derived.SevenTiedAt
import Derived.Test.YtlncbbmmlhammaaDoorTie
import Derived.Test.YtlncbbmmlhammaaDoorCards
import Derived.Test.YtlncbbmmlhammaaDoorOpen
namespace Go.Proofs.YtlncbbmmlhammaaDoor.fnPartRoad
open Go.ChangeShapes Go.WideShapes Go.ChangeAt Go.RowKit Go.Proofs.YtlncbbmmlhammaaDoorW.PrintWords
open Go.ChangeMaps (open_string shut_string)
set_option linter.unusedVariables false
theorem own : ownKnob Tryd.prog.godebug = none := by kernel_rfl
theorem laidOut : laidOutB Tryd.prog = true := by kernel_rfl
-- what is laid: the one sentinel
theorem gE : Tryd.prog.globalNamed "pub-bullarium/pub/jwx/jws/jwsbb.errInvalidNumberOfSegments" = some 0 := by kernel_rfl
theorem gEt : (Tryd.prog.globals[0]?).map (·.type) = some 38 := by kernel_rfl
theorem cellsS : Tryd.prog.cellsOf 9 = 1 := by kernel_rfl
theorem cellsE : Tryd.prog.cellsOf 60 = 1 := by kernel_rfl
theorem star : "*" ++ "errors.errorString" = "*errors.errorString" := by decide
theorem rowE (u : TypeId) (h : Tryd.prog.typeName? 3 u = some "*errors.errorString") : u = 58 :=
  typeName_ptr_named (nm := "errors.errorString") (by rw [star]; kernel_rfl) (by kernel_rfl) (by decide) u (by rw [star]; exact h)
theorem door_met (os : Os) (args : Array Value) : laidMetH Tryd.prog Rows.fnPartRoadRow.laid ((World.doorLaid Tryd.prog 400 os).forCall (fun _ _ => 0) ⟨#[], args, []⟩).memory :=
  laidMetH_of_parts3 (fuel := 8) (laidMet_of_run' 8 (by kernel_rfl) (by kernel_rfl)) (by kernel_rfl) (by kernel_rfl)
theorem of_laid {W : World} (h : laidMetH Tryd.prog Rows.fnPartRoadRow.laid W) : ∃ t v, W.cell? ⟨0, 0, none⟩ = some (.iface t v) := by
  rw [MakeChecks.laidMetH_plain _ _ _ (by kernel_rfl)] at h
  obtain ⟨a1, s1, hv1, _, _, _⟩ := laid_sentinel h gE gEt Tryd.underlying38 rowE Tryd.underlying58 Tryd.underlying60 rfl rfl Tryd.underlying9 cellsE cellsS
  exact ⟨_, _, by simpa using World.var?_cell gE hv1 0⟩
theorem wants (j : Nat) (t : TypeId) (ht : (Tryd.f4.params)[j]? = some t) : Tryd.prog.wantsStandIn t = false := by
  have h : (Tryd.f4.params).toList.all (fun t => Tryd.prog.wantsStandIn t == false) = true := by kernel_rfl
  have := List.all_eq_true.1 h t (Array.mem_toList_iff.2 (Array.mem_of_getElem? ht))
  simpa using this
set_option maxRecDepth 100000 in
theorem lifted (os : Os) (started : os.Started) (H : Type) (enc : TypeId × Value → H) :
    ReturnsInHanded {} Tryd.checked os 4 .any (fun w args => (Rows.fnPartRoadSpec.pre enc Tryd.prog Tryd.f4 [] false w args ∧ laidMetH Tryd.prog Rows.fnPartRoadRow.laid w) ∧ sizedMet enc Tryd.prog Tryd.f4 (OpenSpec.ofChange Rows.fnPartRoadSpec) false w args) (Rows.fnPartRoadSpec.post enc Tryd.prog Tryd.f4 false true false false) := by
  refine returnsInHanded_of_change_and (C := Tryd.checked) (X := fun w _ => laidMetH Tryd.prog Rows.fnPartRoadRow.laid w) (fun _ _ _ hh h => h.of_heap hh) own started (by kernel_rfl) Tryd.func4
    (ChangeSpec.witness_shaped (enc := enc) (C := Tryd.checked) (os := os) (X := fun w _ => laidMetH Tryd.prog Rows.fnPartRoadRow.laid w) false (World.doorLaid Tryd.prog 400 os) #[.slice none 0 0, .slice none 0 0, .slice none 0 0, .bool false] 8 rfl (World.shaped_of_RefB (by kernel_rfl) (by kernel_rfl)) (by kernel_rfl) (by kernel_rfl) (by kernel_rfl) (door_met os _)) ?_
  intro W base args ds gs before hval0 hW hcnd hsz0 hL _
  obtain ⟨tE, vE, hE⟩ := of_laid hL
  have hsz : (DataW.weightsEach Tryd.prog (Tryd.f4.params.toList ++ Rows.fnPartRoadSpec.plain.varTypes Tryd.prog) (ds ++ gs)).all (· ≤ reachBytes) = true := hsz0
  have hval : ∀ (j : Nat) t v, Tryd.f4.params[j]? = some t → args[j]? = some v → Value.okWide Tryd.prog W .any base t v := hval0
  have hW' := hW
  obtain ⟨p, q, hA0, hV, rfl, hfz, hnd⟩ := hW
  have hA : DataW.TrodAll enc Tryd.prog W 0 (fun _ => true) true Tryd.f4.params.toList args.toList ds p := hA0
  rw [Tryd.params4] at hA hval hsz
  obtain ⟨v0, vs0, d0, ds0, p0, q0, hargs, rfl, rfl, h0, r0⟩ := trodAll_cons hA
  obtain ⟨v1, vs1, d1, ds1, p1, q1, rfl, rfl, rfl, h1, r1⟩ := trodAll_cons r0
  obtain ⟨v2, vs2, d2, ds2, p2, q2, rfl, rfl, rfl, h2, r2⟩ := trodAll_cons r1
  obtain ⟨v3, vs3, d3, ds3, p3, q3, rfl, rfl, rfl, h3, r3⟩ := trodAll_cons r2
  obtain ⟨rfl, rfl, rfl⟩ := trodAll_nil r3
  obtain rfl : args = #[v0, v1, v2, v3] := by cases args; simp_all
  obtain ⟨rfl, rfl⟩ := trodVars_none hV
  have k0 := h0
  have lt0 : ∀ x ∈ p0, x.block < W.heap.size := by obtain ⟨m, hm⟩ := k0; exact DataW.trod_lt m _ _ _ hm
  obtain ⟨a0, n0, c0, x0, rfl, w0, o0, y0⟩ := open_sl Tryd.underlying22 (by kernel_rfl) (B := 1) (by kernel_rfl) opens_byte (hval 0 22 v0 rfl rfl) hsz (j := 0) (t := 22) rfl rfl h0
  have k1 := h1
  have lt1 : ∀ x ∈ p1, x.block < W.heap.size := by obtain ⟨m, hm⟩ := k1; exact DataW.trod_lt m _ _ _ hm
  obtain ⟨a1, n1, c1, x1, rfl, w1, o1, y1⟩ := open_sl Tryd.underlying22 (by kernel_rfl) (B := 1) (by kernel_rfl) opens_byte (hval 1 22 v1 rfl rfl) hsz (j := 1) (t := 22) rfl rfl h1
  have k2 := h2
  have lt2 : ∀ x ∈ p2, x.block < W.heap.size := by obtain ⟨m, hm⟩ := k2; exact DataW.trod_lt m _ _ _ hm
  obtain ⟨a2, n2, c2, x2, rfl, w2, o2, y2⟩ := open_sl Tryd.underlying22 (by kernel_rfl) (B := 1) (by kernel_rfl) opens_byte (hval 2 22 v2 rfl rfl) hsz (j := 2) (t := 22) rfl rfl h2
  obtain ⟨a3, rfl, rfl, rfl⟩ := open_bool Tryd.underlying4 (hval 3 4 v3 rfl rfl) h3
  clear hA0 hval0 hsz0 hsz
  refine (partRoad_row a0 n0 c0 x0 a1 n1 c1 x1 a2 n2 c2 x2 a3 W w0 o0 y0 w1 o1 y1 w2 o2 y2 tE vE hE).mono fun e W' ⟨he, bel⟩ => ?_
  subst he
  exact ⟨_, rfl, _, _, _, [], _, [], hW', trodAll_mk1 (shut_bool Tryd.underlying4 _), (trodAll_cons_mk (Below.trod laidOut (by kernel_rfl) (of_decide_eq_true (by kernel_rfl)) k0 bel lt0) (trodAll_cons_mk (Below.trod laidOut (by kernel_rfl) (of_decide_eq_true (by kernel_rfl)) k1 bel lt1) (trodAll_cons_mk (Below.trod laidOut (by kernel_rfl) (of_decide_eq_true (by kernel_rfl)) k2 bel lt2) (trodAll_cons_mk (shut_bool Tryd.underlying4 _) trodAll_mk0)))), rfl, bel.frame _, fun h => by cases h⟩
theorem over : Rows.fnPartRoadRow.holds Tryd.pinned (OpenSpec.ofChange Rows.fnPartRoadSpec) :=
  OpenClaim.holds_of_wide 4 Tryd.f4 rfl rfl rfl rfl rfl rfl rfl ⟨rfl, rfl, rfl, rfl, rfl⟩ rfl rfl rfl rfl rfl (by kernel_rfl) Tryd.func4 (by kernel_rfl)
    (of_decide_eq_true (by kernel_rfl)) (by unfold Func.isWrapper; first | (rw [if_pos (by decide +kernel)]; kernel_rfl) | (rw [if_neg (by decide +kernel)]; exact ⟨rfl, rfl⟩))
    (fun os started H enc _ => lifted os started H enc)
theorem proved : Rows.FnPartRoadSaid := over
theorem card : Rows.FnPartRoadCardSaid :=
  Claim7.holds_tied_plain_at .later [] [.sentinel] true Rows.fnPartRoadCard.stood.harness false
    over (fun _ h => by cases h) (by kernel_rfl) (fun _ h => by cases h) fnPartRoad_row_tie rfl ⟨rfl, rfl⟩ (by kernel_rfl) rfl
    (fun f fn hf hfn => by
      obtain rfl : f = 4 := Option.some.inj ((show Tryd.prog.funcNamed "pub-bullarium/laws.FnPartRoad" = some 4 by kernel_rfl).symm.trans hf) |>.symm
      obtain rfl : fn = Tryd.f4 := (Option.some.inj (Tryd.func4.symm.trans hfn)).symm
      refine ⟨by kernel_rfl, fun j t ht => ?_⟩
      exact wants j t ht)
    (by kernel_rfl)
#print axioms card
end Go.Proofs.YtlncbbmmlhammaaDoor.fnPartRoad
namespace Go.Proofs.YtlncbbmmlhammaaDoor
/-- The card, under a short name, for the claim. -/
theorem fnPartRoad_card_holds : Rows.FnPartRoadCardSaid := fnPartRoad.card
end Go.Proofs.YtlncbbmmlhammaaDoor
