/-
  FnPartSplit: the statement, proved: for every input the law returns true, and each argument reads behind the call as it read before. No condition.
-/
import Derived.Test.YtlncbbmmlhammaaDoorRows
import Derived.Test.YtlncbbmmlhammaaDoorPartSplit
import Derived.WalkKit
import Derived.ProofKit
import Derived.OpenShut
import Derived.ShutString
import Derived.ChangeOld
import Derived.Below
import Derived.SizedLaws
import Derived.Handed
import Derived.LaidMore
import Derived.LaidLaws
import Derived.LaidHandle
import Derived.Stop.LaidErr
import Derived.Stop.Joined
import Derived.SevenTiedAt
import Derived.Test.YtlncbbmmlhammaaDoorTie
import Derived.Test.YtlncbbmmlhammaaDoorCards
import Derived.Test.YtlncbbmmlhammaaDoorOpen
namespace Go.Proofs.YtlncbbmmlhammaaDoor.fnPartSplit
open Go.ChangeShapes Go.WideShapes Go.ChangeAt Go.RowKit Go.Proofs.YtlncbbmmlhammaaDoorW.PrintWords
open Go.ChangeMaps (open_string shut_string)
set_option linter.unusedVariables false
theorem own : ownKnob Tryd.prog.godebug = none := by kernel_rfl
theorem laidOut : laidOutB Tryd.prog = true := by kernel_rfl
-- what is laid: the one sentinel
theorem gE : Tryd.prog.globalNamed "pub-bullarium/pub/jwx/jws/jwsbb.errInvalidNumberOfSegments" = some 0 := by kernel_rfl
theorem gEt : (Tryd.prog.globals[0]?).map (·.type) = some 38 := by kernel_rfl
theorem cellsS : Tryd.prog.cellsOf 9 = 1 := by kernel_rfl
theorem cellsE : Tryd.prog.cellsOf 60 = 1 := by kernel_rfl
theorem star : "*" ++ "errors.errorString" = "*errors.errorString" := by decide
theorem rowE (u : TypeId) (h : Tryd.prog.typeName? 3 u = some "*errors.errorString") : u = 58 :=
  typeName_ptr_named (nm := "errors.errorString") (by rw [star]; kernel_rfl) (by kernel_rfl) (by decide) u (by rw [star]; exact h)
theorem door_met (os : Os) (args : Array Value) : laidMetH Tryd.prog Rows.fnPartSplitRow.laid ((World.doorLaid Tryd.prog 400 os).forCall (fun _ _ => 0) ⟨#[], args, []⟩).memory :=
  laidMetH_of_parts3 (fuel := 8) (laidMet_of_run' 8 (by kernel_rfl) (by kernel_rfl)) (by kernel_rfl) (by kernel_rfl)
theorem of_laid {W : World} (h : laidMetH Tryd.prog Rows.fnPartSplitRow.laid W) : ∃ t v, W.cell? ⟨0, 0, none⟩ = some (.iface t v) := by
  rw [MakeChecks.laidMetH_plain _ _ _ (by kernel_rfl)] at h
  obtain ⟨a1, s1, hv1, _, _, _⟩ := laid_sentinel h gE gEt Tryd.underlying38 rowE Tryd.underlying58 Tryd.underlying60 rfl rfl Tryd.underlying9 cellsE cellsS
  exact ⟨_, _, by simpa using World.var?_cell gE hv1 0⟩
theorem wants (j : Nat) (t : TypeId) (ht : (Tryd.f3.params)[j]? = some t) : Tryd.prog.wantsStandIn t = false := by
  have h : (Tryd.f3.params).toList.all (fun t => Tryd.prog.wantsStandIn t == false) = true := by kernel_rfl
  have := List.all_eq_true.1 h t (Array.mem_toList_iff.2 (Array.mem_of_getElem? ht))
  simpa using this
set_option maxRecDepth 100000 in
theorem lifted (os : Os) (started : os.Started) (H : Type) (enc : TypeId × Value → H) :
    ReturnsInHanded {} Tryd.checked os 3 .any (fun w args => (Rows.fnPartSplitSpec.pre enc Tryd.prog Tryd.f3 [] false w args ∧ laidMetH Tryd.prog Rows.fnPartSplitRow.laid w) ∧ sizedMet enc Tryd.prog Tryd.f3 (OpenSpec.ofChange Rows.fnPartSplitSpec) false w args) (Rows.fnPartSplitSpec.post enc Tryd.prog Tryd.f3 false true false false) := by
  refine returnsInHanded_of_change_and (C := Tryd.checked) (X := fun w _ => laidMetH Tryd.prog Rows.fnPartSplitRow.laid w) (fun _ _ _ hh h => h.of_heap hh) own started (by kernel_rfl) Tryd.func3
    (ChangeSpec.witness_shaped (enc := enc) (C := Tryd.checked) (os := os) (X := fun w _ => laidMetH Tryd.prog Rows.fnPartSplitRow.laid w) false (World.doorLaid Tryd.prog 400 os) #[.slice none 0 0] 8 rfl (World.shaped_of_RefB (by kernel_rfl) (by kernel_rfl)) (by kernel_rfl) (by kernel_rfl) (by kernel_rfl) (door_met os _)) ?_
  intro W base args ds gs before hval0 hW hcnd hsz0 hL _
  obtain ⟨tE, vE, hE⟩ := of_laid hL
  have hsz : (DataW.weightsEach Tryd.prog (Tryd.f3.params.toList ++ Rows.fnPartSplitSpec.plain.varTypes Tryd.prog) (ds ++ gs)).all (· ≤ reachBytes) = true := hsz0
  have hval : ∀ (j : Nat) t v, Tryd.f3.params[j]? = some t → args[j]? = some v → Value.okWide Tryd.prog W .any base t v := hval0
  have hW' := hW
  obtain ⟨p, q, hA0, hV, rfl, hfz, hnd⟩ := hW
  have hA : DataW.TrodAll enc Tryd.prog W 0 (fun _ => true) true Tryd.f3.params.toList args.toList ds p := hA0
  rw [Tryd.params3] at hA hval hsz
  obtain ⟨v0, vs0, d0, ds0, p0, q0, hargs, rfl, rfl, h0, r0⟩ := trodAll_cons hA
  obtain ⟨rfl, rfl, rfl⟩ := trodAll_nil r0
  obtain rfl : args = #[v0] := by cases args; simp_all
  obtain ⟨rfl, rfl⟩ := trodVars_none hV
  have k0 := h0
  have lt0 : ∀ x ∈ p0, x.block < W.heap.size := by obtain ⟨m, hm⟩ := k0; exact DataW.trod_lt m _ _ _ hm
  obtain ⟨a0, n0, c0, x0, rfl, w0, o0, y0⟩ := open_sl Tryd.underlying22 (by kernel_rfl) (B := 1) (by kernel_rfl) opens_byte (hval 0 22 v0 rfl rfl) hsz (j := 0) (t := 22) rfl rfl h0
  clear hA0 hval0 hsz0 hsz
  refine (partSplit_row a0 n0 c0 x0 W w0 o0 y0 tE vE hE).mono fun e W' ⟨he, bel⟩ => ?_
  subst he
  exact ⟨_, rfl, _, _, _, [], _, [], hW', trodAll_mk1 (shut_bool Tryd.underlying4 _), (trodAll_cons_mk (Below.trod laidOut (by kernel_rfl) (of_decide_eq_true (by kernel_rfl)) k0 bel lt0) trodAll_mk0), rfl, bel.frame _, fun h => by cases h⟩
theorem over : Rows.fnPartSplitRow.holds Tryd.pinned (OpenSpec.ofChange Rows.fnPartSplitSpec) :=
  OpenClaim.holds_of_wide 3 Tryd.f3 rfl rfl rfl rfl rfl rfl rfl ⟨rfl, rfl, rfl, rfl, rfl⟩ rfl rfl rfl rfl rfl (by kernel_rfl) Tryd.func3 (by kernel_rfl)
    (of_decide_eq_true (by kernel_rfl)) (by unfold Func.isWrapper; first | (rw [if_pos (by decide +kernel)]; kernel_rfl) | (rw [if_neg (by decide +kernel)]; exact ⟨rfl, rfl⟩))
    (fun os started H enc _ => lifted os started H enc)
theorem proved : Rows.FnPartSplitSaid := over
theorem card : Rows.FnPartSplitCardSaid :=
  Claim7.holds_tied_plain_at .later [] [.sentinel] true Rows.fnPartSplitCard.stood.harness false
    over (fun _ h => by cases h) (by kernel_rfl) (fun _ h => by cases h) fnPartSplit_row_tie rfl ⟨rfl, rfl⟩ (by kernel_rfl) rfl
    (fun f fn hf hfn => by
      obtain rfl : f = 3 := Option.some.inj ((show Tryd.prog.funcNamed "pub-bullarium/laws.FnPartSplit" = some 3 by kernel_rfl).symm.trans hf) |>.symm
      obtain rfl : fn = Tryd.f3 := (Option.some.inj (Tryd.func3.symm.trans hfn)).symm
      refine ⟨by kernel_rfl, fun j t ht => ?_⟩
      exact wants j t ht)
    (by kernel_rfl)
#print axioms card
end Go.Proofs.YtlncbbmmlhammaaDoor.fnPartSplit
namespace Go.Proofs.YtlncbbmmlhammaaDoor
/-- The card, under a short name, for the claim. -/
theorem fnPartSplit_card_holds : Rows.FnPartSplitCardSaid := fnPartSplit.card
end Go.Proofs.YtlncbbmmlhammaaDoor
