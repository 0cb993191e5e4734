/-
  FnJoinBoth: the statement, proved: for every input the law returns true, and each argument reads behind the call as it read before. No condition.
-/
import Derived.Test.YtdldblfklalaeaaGreatDoorRows
import Derived.Test.YtdldblfklalaeaaGreatDoorJu
import Derived.WalkKit
import Derived.ProofKit
import Derived.OpenShut
import Derived.ShutString
import Derived.ChangeOld
import Derived.Below
import Derived.SizedLaws
import Derived.Handed
import Derived.LaidMore
import Derived.LaidLaws
import Derived.LaidHandle
import Derived.Stop.LaidErr
import Derived.Stop.Joined
import Derived.SevenTiedAt
import Derived.Lay
import Derived.MakeChecks
import Derived.LaidSub
import Derived.Test.YtdldblfklalaeaaGreatDoorTie
import Derived.Test.YtdldblfklalaeaaGreatDoorCards
import Derived.Test.YtdldblfklalaeaaGreatDoorQa
namespace Go.Proofs.YtdldblfklalaeaaGreatDoor.fnJoinBoth
open Go.Lib Go.ChangeShapes Go.WideShapes Go.ChangeAt Go.RowKit Go.Proofs.YtdldblfklalaeaaGreatDoorW.PrintWords
open Go.ChangeMaps (open_string shut_string)
set_option linter.unusedVariables false
theorem own : ownKnob Tryz.prog.godebug = none := by kernel_rfl
theorem laidOut : laidOutB Tryz.prog = true := by kernel_rfl
theorem door_met (os : Os) (args : Array Value) : laidMetH Tryz.prog Rows.fnJoinBothRow.laid ((World.doorLaid Tryz.prog 400 os).forCall (fun _ _ => 0) ⟨#[], args, []⟩).memory :=
  laidMetH_of_parts3 (fuel := 8) (laidMet_of_run' 8 (by kernel_rfl) (by kernel_rfl)) (by kernel_rfl) (by kernel_rfl)
theorem gR : Tryz.prog.globalNamed "pub-bullarium/pub/jwx/jws/jwsbb.errInvalidNumberOfSegments" = some 3 := by kernel_rfl
theorem gRt : (Tryz.prog.globals[3]?).map (·.type) = some 81 := by kernel_rfl
theorem cellsS : Tryz.prog.cellsOf 9 = 1 := by kernel_rfl
theorem cellsE : Tryz.prog.cellsOf 197 = 1 := by kernel_rfl
theorem star : "*" ++ "errors.errorString" = "*errors.errorString" := by decide
theorem rowE (u : TypeId) (h : Tryz.prog.typeName? 3 u = some "*errors.errorString") : u = 195 :=
  typeName_ptr_named (nm := "errors.errorString") (by rw [star]; kernel_rfl) (by kernel_rfl) (by decide) u (by rw [star]; exact h)
theorem err_of {W : World} (h : laidMet Tryz.prog Rows.fnJoinBothRow.laid W) : ErrS W := by
  have h1 := h.filter (fun x => x.1 == "pub-bullarium/pub/jwx/jws/jwsbb.errInvalidNumberOfSegments")
  have e : (Rows.fnJoinBothRow.laid.filter fun x => x.1 == "pub-bullarium/pub/jwx/jws/jwsbb.errInvalidNumberOfSegments") = [("pub-bullarium/pub/jwx/jws/jwsbb.errInvalidNumberOfSegments", Rows.laid_pub_bullarium_pub_jwx_jws_jwsbb_errInvalidNumberOfSegments)] := by kernel_rfl
  rw [e] at h1
  obtain ⟨a1, s1, hv1, _, _, _⟩ := laid_sentinel h1 gR gRt Tryz.underlying81 rowE Tryz.underlying195 Tryz.underlying197 rfl rfl Tryz.underlying9 cellsE cellsS
  exact ⟨_, _, (show W.cell? ⟨3, 0, none⟩ = some _ from by simpa using World.var?_cell gR hv1 0)⟩
theorem wants (j : Nat) (t : TypeId) (ht : (Tryz.f6.params)[j]? = some t) : Tryz.prog.wantsStandIn t = false := by
  have h : (Tryz.f6.params).toList.all (fun t => Tryz.prog.wantsStandIn t == false) = true := by kernel_rfl
  have := List.all_eq_true.1 h t (Array.mem_toList_iff.2 (Array.mem_of_getElem? ht))
  simpa using this
set_option maxRecDepth 100000 in
theorem lifted (os : Os) (started : os.Started) (H : Type) (enc : TypeId × Value → H) :
    ReturnsInHanded {} Tryz.checked os 6 .any (fun w args => (Rows.fnJoinBothSpec.pre enc Tryz.prog Tryz.f6 [] false w args ∧ laidMetH Tryz.prog Rows.fnJoinBothRow.laid w) ∧ sizedMet enc Tryz.prog Tryz.f6 (OpenSpec.ofChange Rows.fnJoinBothSpec) false w args) (Rows.fnJoinBothSpec.post enc Tryz.prog Tryz.f6 false true false false) := by
  refine returnsInHanded_of_change_and (C := Tryz.checked) (X := fun w _ => laidMetH Tryz.prog Rows.fnJoinBothRow.laid w) (fun _ _ _ hh h => h.of_heap hh) own started (by kernel_rfl) Tryz.func6
    (ChangeSpec.witness_shaped (enc := enc) (C := Tryz.checked) (os := os) (X := fun w _ => laidMetH Tryz.prog Rows.fnJoinBothRow.laid w) false (World.doorLaid Tryz.prog 400 os) #[.slice none 0 0, .slice none 0 0, .string ByteArray.empty, .slice none 0 0] 8 rfl (World.shaped_of_RefB (by kernel_rfl) (by kernel_rfl)) (by kernel_rfl) (by kernel_rfl) (by kernel_rfl) (door_met os _)) ?_
  intro W base args ds gs before hval0 hW hcnd hsz0 hL _
  have hsz : (DataW.weightsEach Tryz.prog (Tryz.f6.params.toList ++ Rows.fnJoinBothSpec.plain.varTypes Tryz.prog) (ds ++ gs)).all (· ≤ reachBytes) = true := hsz0
  have hval : ∀ (j : Nat) t v, Tryz.f6.params[j]? = some t → args[j]? = some v → Value.okWide Tryz.prog W .any base t v := hval0
  have hW' := hW
  obtain ⟨p, q, hA0, hV, rfl, hfz, hnd⟩ := hW
  have hA : DataW.TrodAll enc Tryz.prog W 0 (fun _ => true) true Tryz.f6.params.toList args.toList ds p := hA0
  rw [Tryz.params6] at hA hval hsz
  obtain ⟨v0, vs0, d0, ds0, p0, q0, hargs, rfl, rfl, h0, r0⟩ := trodAll_cons hA
  obtain ⟨v1, vs1, d1, ds1, p1, q1, rfl, rfl, rfl, h1, r1⟩ := trodAll_cons r0
  obtain ⟨v2, vs2, d2, ds2, p2, q2, rfl, rfl, rfl, h2, r2⟩ := trodAll_cons r1
  obtain ⟨v3, vs3, d3, ds3, p3, q3, rfl, rfl, rfl, h3, r3⟩ := trodAll_cons r2
  obtain ⟨rfl, rfl, rfl⟩ := trodAll_nil r3
  obtain rfl : args = #[v0, v1, v2, v3] := by cases args; simp_all
  obtain ⟨rfl, rfl⟩ := trodVars_none hV
  have k0 := h0
  have lt0 : ∀ x ∈ p0, x.block < W.heap.size := by obtain ⟨m, hm⟩ := k0; exact DataW.trod_lt m _ _ _ hm
  obtain ⟨a0, n0, c0, x0, rfl, w0, o0, y0⟩ := open_sl Tryz.underlying30 (by kernel_rfl) (B := 1) (by kernel_rfl) opens_byte (hval 0 30 v0 rfl rfl) hsz (j := 0) (t := 30) rfl rfl h0
  have k1 := h1
  have lt1 : ∀ x ∈ p1, x.block < W.heap.size := by obtain ⟨m, hm⟩ := k1; exact DataW.trod_lt m _ _ _ hm
  obtain ⟨a1, n1, c1, x1, rfl, w1, o1, y1⟩ := open_sl Tryz.underlying30 (by kernel_rfl) (B := 1) (by kernel_rfl) opens_byte (hval 1 30 v1 rfl rfl) hsz (j := 1) (t := 30) rfl rfl h1
  obtain ⟨a2, rfl, rfl, rfl, y2⟩ := open_string Tryz.underlying9 (hval 2 9 v2 rfl rfl) h2
  have w2 : a2.size ≤ 140737488351232 := by
    have z := sized_string hsz (j := 2) (t := 9) rfl rfl
    rw [Array.length_toList] at z
    exact z
  have k3 := h3
  have lt3 : ∀ x ∈ p3, x.block < W.heap.size := by obtain ⟨m, hm⟩ := k3; exact DataW.trod_lt m _ _ _ hm
  obtain ⟨a3, n3, c3, x3, rfl, w3, o3, y3⟩ := open_sl Tryz.underlying30 (by kernel_rfl) (B := 1) (by kernel_rfl) opens_byte (hval 3 30 v3 rfl rfl) hsz (j := 3) (t := 30) rfl rfl h3
  clear hA0 hval0 hsz0 hsz
  refine (joinBoth_row a0 n0 c0 x0 a1 n1 c1 x1 a2 a3 n3 c3 x3 W w0 o0 y0 w1 o1 y1 w2 w3 o3 y3 (err_of ((MakeChecks.laidMetH_plain _ _ _ (by kernel_rfl)) ▸ hL))).mono fun e W' ⟨he, bel⟩ => ?_
  subst he
  exact ⟨_, rfl, _, _, _, [], _, [], hW', trodAll_mk1 (shut_bool Tryz.underlying4 _), (trodAll_cons_mk (Below.trod laidOut (by kernel_rfl) (of_decide_eq_true (by kernel_rfl)) k0 bel lt0) (trodAll_cons_mk (Below.trod laidOut (by kernel_rfl) (of_decide_eq_true (by kernel_rfl)) k1 bel lt1) (trodAll_cons_mk (shut_string Tryz.underlying9 y2) (trodAll_cons_mk (Below.trod laidOut (by kernel_rfl) (of_decide_eq_true (by kernel_rfl)) k3 bel lt3) trodAll_mk0)))), rfl, bel.frame _, fun h => by cases h⟩
theorem over : Rows.fnJoinBothRow.holds Tryz.pinned (OpenSpec.ofChange Rows.fnJoinBothSpec) :=
  OpenClaim.holds_of_wide 6 Tryz.f6 rfl rfl rfl rfl rfl rfl rfl ⟨rfl, rfl, rfl, rfl, rfl⟩ rfl rfl rfl rfl rfl (by kernel_rfl) Tryz.func6 (by kernel_rfl)
    (of_decide_eq_true (by kernel_rfl)) (by unfold Func.isWrapper; first | (rw [if_pos (by decide +kernel)]; kernel_rfl) | (rw [if_neg (by decide +kernel)]; exact ⟨rfl, rfl⟩))
    (fun os started H enc _ => lifted os started H enc)
theorem proved : Rows.FnJoinBothSaid := over
theorem card : Rows.FnJoinBothCardSaid :=
  Claim7.holds_tied_plain_at .later [] [.data, .data, .data, .sentinel, .sentinel, .sentinel] true Rows.fnJoinBothCard.stood.harness Rows.fnJoinBothCard.stood.looks
    over (fun _ h => by cases h) (by kernel_rfl) (fun _ h => by cases h) fnJoinBoth_row_tie rfl ⟨rfl, rfl⟩ (by kernel_rfl) rfl
    (fun f fn hf hfn => by
      obtain rfl : f = 6 := Option.some.inj ((show Tryz.prog.funcNamed "pub-bullarium/laws.FnJoinBoth" = some 6 by kernel_rfl).symm.trans hf) |>.symm
      obtain rfl : fn = Tryz.f6 := (Option.some.inj (Tryz.func6.symm.trans hfn)).symm
      exact ⟨by kernel_rfl, fun j t ht => wants j t ht⟩)
    (by kernel_rfl)
#print axioms card
end Go.Proofs.YtdldblfklalaeaaGreatDoor.fnJoinBoth
namespace Go.Proofs.YtdldblfklalaeaaGreatDoor
/-- The card, under a short name, for the claim. -/
theorem fnJoinBoth_card_holds : Rows.FnJoinBothCardSaid := fnJoinBoth.card
end Go.Proofs.YtdldblfklalaeaaGreatDoor
