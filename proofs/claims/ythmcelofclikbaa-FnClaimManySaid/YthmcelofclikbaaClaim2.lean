/-
  impl.Accepted, impl.AcceptedMany, laws.claimAwake: their contracts.
-/
import Derived.Test.YthmcelofclikbaaClaim
namespace Go.Proofs.Ythmcelofclikbaa
open Go.RowKit Go.Proofs.YthmcelofclikbaaW.PrintWords Go.ChangeShapes Go.WideShapes
set_option linter.unusedVariables false
set_option linter.unusedSimpArgs false
theorem info4 : (Try.prog.info? 4).map (fun i => (i.zero, i.size, i.bytes)) = some (some (.bool false), 1, 1) := by kernel_rfl
def claimFold (xs : List Pl) : List ByteArray := xs.foldl claimStep []
def claimOks (xs : List Pl) : List Bool := xs.map claimOk
theorem claimFold_snoc (xs : List Pl) (k : Nat) (hk : k < xs.length) : claimFold (xs.take (k + 1)) = claimStep (claimFold (xs.take k)) xs[k] := by
  unfold claimFold
  rw [List.take_succ_eq_append_getElem hk, List.foldl_append]
  rfl
theorem claimOks_snoc (xs : List Pl) (k : Nat) (hk : k < xs.length) : claimOks (xs.take (k + 1)) = claimOks (xs.take k) ++ [claimOk xs[k]] := by
  unfold claimOks
  rw [List.take_succ_eq_append_getElem hk, List.map_append]
  rfl
structure Lists (xs : List Pl) : Prop where
  out : ∀ x ∈ xs, x.2.2.2.2.length ≤ 100000
theorem claimFold_len {xs : List Pl} (h : Lists xs) : (claimFold xs).length ≤ 100000 := by
  have key : ∀ (ys : List Pl) (cur : List ByteArray), (∀ x ∈ ys, x.2.2.2.2.length ≤ 100000) → cur.length ≤ 100000 → (ys.foldl claimStep cur).length ≤ 100000 := by
    intro ys
    induction ys with
    | nil => exact fun cur _ h => h
    | cons y r ih =>
      intro cur h1 h2
      refine ih _ (fun x hx => h1 x (List.mem_cons_of_mem _ hx)) ?_
      unfold claimStep
      split
      · simp
      · split
        · exact h1 y (List.mem_cons_self ..)
        · exact h2
  exact key xs [] h.out (by simp)
set_option maxRecDepth 100000 in
set_option maxHeartbeats 2000000 in
theorem acceptedMany_any (w : World) (A : Option Addr) (n c : Nat) (xs : List Pl) (hn : n ≤ 1000) (hl : Lists xs) (hC : kPl.C w A n xs) :
    Calls Try.prog 12 #[.slice A n c] w fun e w' => ∃ v1 v2, e = .returned (.tuple #[v1, v2]) ∧ Hold w w.heap.size w' [.row Kd.string 9 v1 (claimFold xs), .row Kd.bool 4 v2 (claimOks xs)] := by
  obtain rfl := hC.1
  have hu := Try.underlying24
  have HC0 := Aside0.mk hC
  have HL0 := Aside0.mk hl
  clear hC hl
  go_enter Try.func12, Try.ntmps12
  go_wp2
  go_loopw [5, 10] (fun v5 i wr => ∃ k lc : _, k ≤ xs.length ∧ i = .int .i64 (k : Nat) ∧
      Hold w w.heap.size wr [.blk w.heap.size (.cells #[lc] 56), .row Kd.string 9 lc (claimFold (xs.take k)), .row Kd.bool 4 v5 (claimOks (xs.take k))])
     (fun _ i _ => xs.length - (intOf i).toNat)
  case atStart =>
    exact ⟨0, .slice none 0 0, Nat.zero_le _, rfl, ((((Hold.start w).nil Kd.bool 4).nil Kd.string 9).alloc (.cells #[.slice none 0 0] 56)).pick [0, 1, 2] (by decide) rfl⟩
  case round =>
    obtain ⟨k, lc, hkn, rfl, hR⟩ := hrel
    have HR := Aside0.mk hR
    clear hR
    by_cases hlt : k < xs.length
    · obtain ⟨ad, v, rfl, hL, e0, e1, e2, e3, e4⟩ := CP_get (HR.out.C HC0.out) k hlt
      have hlt2 : k + 1 ≤ xs.length := hlt
      have HFo := Aside0.mk (claimFold_snoc xs k hlt)
      have HOs := Aside0.mk (claimOks_snoc xs k hlt)
      have HLx := Aside0.mk (HL0.out.out xs[k] (List.getElem_mem hlt))
      have Hlen : Aside0 (((claimOks (xs.take k)).length + 1) * 1 ≤ 140737488355328) := ⟨by unfold claimOks; simp; omega⟩
      obtain ⟨x, hx⟩ : ∃ x, x = xs[k] := ⟨_, rfl⟩
      rw [← hx] at hL e0 e1 e2 e3 HFo HOs HLx
      obtain ⟨fo, hfo⟩ : ∃ fo, fo = claimFold (xs.take k) := ⟨_, rfl⟩
      obtain ⟨os, hos⟩ : ∃ os, os = claimOks (xs.take k) := ⟨_, rfl⟩
      rw [← hfo] at HFo HR
      rw [← hos] at HOs HR Hlen
      clear hx hfo hos
      have HL := Aside0.mk hL
      clear hL
      have HPA := Aside0.mk (HR.out.alloc_ (.cells #[.int .i64 x.1, .string x.2.1, .bool x.2.2.1, .int .i32 x.2.2.2.1, v] 24))
      have hLA := Aside0.mk (HL.out.below ((Hold.start _).alloc_ (.cells #[.int .i64 x.1, .string x.2.1, .bool x.2.2.1, .int .i32 x.2.2.2.1, v] 24)).below)
      obtain ⟨Av, cv, rfl, _⟩ := HL.out.out
      go_wp2_with fail
      refine (value_any _ x _ (by have := HLx.out; omega) hLA.out).mono ?_
      rintro e w2 ⟨u, lv, ys, rfl, hI, hV⟩
      have HA := Aside0.mk ((HPA.out.app hV).pick [1, 2, 0, 3] (by decide) (L' := [.blk w.heap.size (.cells #[lc] 56), .row Kd.string 9 lc fo, .row Kd.string 9 lv ys, .row Kd.bool 4 u5 os]) rfl)
      have HI := Aside0.mk hI
      clear hV hI
      go_wp2_with fail
      refine (accept_any _ _ x u lv lc ys fo _ HI.out HA.out).mono ?_
      rintro e w3 ⟨r, l', rfl, hE, hH⟩
      have HH := Aside0.mk hH
      clear hH
      generalize hb : claimOk x = b at hE
      have HB := Aside0.mk hb
      clear hb
      cases hE with
      | none =>
        go_wp2_with ((with_reducible refine at_bi (b := .append) (xs := #[.tmp 14, .tmp 19]) rfl ?_); at_builtin; refine Hold.append1 (Kd.bool) 2 HH.out rfl rfl (.tmp 14) (.tmp 19) 28 (.bool false) 1 rfl Try.underlying28 info4 rfl (by decide) (by omega) (true) [.bool true] rfl rfl rfl Hlen.out ?_; intro _ _ H9'; have H9 := Aside0.mk H9'; clear H9' HH)
        go_wp2
        go_roundw
        case rel =>
          refine ⟨k + 1, l', hlt2, by go_num, ?_⟩
          rw [HFo.out, HOs.out, HB.out]
          exact H9.out
        case measure => simp [intOf]; omega
      | some a =>
        go_wp2_with ((with_reducible refine at_bi (b := .append) (xs := #[.tmp 14, .tmp 19]) rfl ?_); at_builtin; refine Hold.append1 (Kd.bool) 2 HH.out rfl rfl (.tmp 14) (.tmp 19) 28 (.bool false) 1 rfl Try.underlying28 info4 rfl (by decide) (by omega) (false) [.bool false] rfl rfl rfl Hlen.out ?_; intro _ _ H9'; have H9 := Aside0.mk H9'; clear H9' HH)
        go_wp2
        go_roundw
        case rel =>
          refine ⟨k + 1, l', hlt2, by go_num, ?_⟩
          rw [HFo.out, HOs.out, HB.out]
          exact H9.out
        case measure => simp [intOf]; omega
    · obtain rfl : k = xs.length := by omega
      rw [List.take_length] at HR
      obtain ⟨hc, hf⟩ := HR.out.cell 0 rfl 0 (by simp)
      obtain ⟨A2, c2, rfl, hle2, hC2⟩ := HR.out.reads 1 rfl
      have HC2 := Aside0.mk hC2
      have HLN : Aside0 ((claimFold xs).length * 16 ≤ 140737488355328) := ⟨by have := claimFold_len HL0.out; omega⟩
      clear hC2
      go_wp2_with fail
      refine (get_any _ _).mono ?_
      rintro e w4 ⟨rfl, rfl⟩
      go_wp2_with fail
      refine (sclone_any _ A2 _ c2 _ HLN.out HC2.out).mono ?_
      rintro e w5 ⟨v1, rfl, hS⟩
      have HS := Aside0.mk ((HR.out.app hS).pick [0, 3] (by decide) (L' := [.row Kd.string 9 v1 (claimFold xs), .row Kd.bool 4 u5 (claimOks xs)]) rfl)
      clear hS
      go_wp2
      go_ret2
      exact ⟨_, _, rfl, HS.out⟩


set_option maxRecDepth 100000 in
set_option maxHeartbeats 2000000 in
theorem accepted_any (w : World) (s : ByteArray) :
    Calls Try.prog 28 #[.agg #[.int .i64 0, .string s, .bool false, .int .i32 0, .slice none 0 0]] w fun e w' => ∃ v1, e = .returned (.tuple #[v1, .bool true]) ∧ Hold w w.heap.size w' [.row Kd.string 9 v1 [s]] := by
  have hu := Try.underlying24
  have HP := Aside0.mk (((Hold.start w).alloc_ (.cells #[.int .i64 0, .string s, .bool false, .int .i32 0, .slice none 0 0] 24)))
  have HN : Aside0 (Hold w w.heap.size ((w.alloc (.cells #[.int .i64 0, .string s, .bool false, .int .i32 0, .slice none 0 0] 24)).alloc (.cells #[.slice none 0 0] 56)) [.blk (w.heap.size + 1) (.cells #[.slice none 0 0] 56), .row Kd.string 9 (.slice none 0 0) [], .row Kd.string 9 (.slice none 0 0) []]) := ⟨by
    have h := ((HP.out.nil Kd.string 9).nil Kd.string 9).alloc (.cells #[.slice none 0 0] 56)
    rw [show (w.alloc (.cells #[.int .i64 0, .string s, .bool false, .int .i32 0, .slice none 0 0] 24)).heap.size = w.heap.size + 1 by simp] at h
    exact h⟩
  have HL : Aside0 (∀ W, LstIs W (.slice none 0 0) []) := ⟨fun W => ⟨none, 0, rfl, Nat.le_refl _, rfl, by decide, fun h => absurd h (Nat.lt_irrefl _)⟩⟩
  go_enter Try.func28, Try.ntmps28
  go_wp2_with fail
  refine (value_any _ (0, s, false, 0, []) (.slice none 0 0) (Nat.zero_le _) (HL.out _)).mono ?_
  rintro e w2 ⟨u, lv, ys, rfl, hI, hV⟩
  have HA := Aside0.mk ((HN.out.app hV).pick [1, 2, 0, 3] (by decide) (L' := [.blk (w.heap.size + 1) (.cells #[.slice none 0 0] 56), .row Kd.string 9 (.slice none 0 0) [], .row Kd.string 9 lv ys, .row Kd.string 9 (.slice none 0 0) []]) rfl)
  have HI := Aside0.mk hI
  clear hV hI
  go_wp2_with fail
  refine (accept_any _ _ (0, s, false, 0, []) u lv _ ys [] _ HI.out HA.out).mono ?_
  rintro e w3 ⟨r, l', rfl, hE, hH⟩
  have HH := Aside0.mk hH
  clear hH
  have hr : r = .nilIface := by
    have h : ErrIs r true := hE
    cases h
    rfl
  subst hr
  clear hE
  obtain ⟨hc, hf⟩ := HH.out.cell 0 rfl 0 (by simp)
  obtain ⟨A2, c2, rfl, hle2, hC2⟩ := HH.out.reads 1 rfl
  have HC2 := Aside0.mk hC2
  clear hC2
  go_wp2_with fail
  refine (get_any _ _).mono ?_
  rintro e w4 ⟨rfl, rfl⟩
  go_wp2_with fail
  refine (sclone_any _ A2 _ c2 _ (by show 1 * 16 ≤ 140737488355328; decide) HC2.out).mono ?_
  rintro e w5 ⟨v1, rfl, hS⟩
  have HS := Aside0.mk ((HH.out.app hS).pick [0] (by decide) (L' := [.row Kd.string 9 v1 [s]]) rfl)
  clear hS
  go_wp2
  go_ret2
  exact ⟨_, rfl, HS.out⟩
def sA : ByteArray := ⟨#[97]⟩
set_option maxRecDepth 100000 in
set_option maxHeartbeats 1000000 in
theorem claimAwake_any (w : World) :
    Calls Try.prog 11 #[] w fun e w' => e = .returned (.bool true) ∧ Hold w w.heap.size w' [] := by
  have hu := Try.underlying24
  go_enter Try.func11, Try.ntmps11
  go_wp2_with fail
  refine (accepted_any _ _).mono ?_
  rintro e w1 ⟨v1, rfl, hH⟩
  have HH := Aside0.mk hH
  clear hH
  obtain ⟨A2, c2, rfl, hle2, hC2⟩ := HH.out.reads 0 rfl
  have H1 := Aside0.mk ((HH.out.alloc_ (.cells #[.string sA] 9)).pick [] (by decide) (L' := []) rfl)
  have HC2 := Aside0.mk (Kd.C_below hC2 ((Hold.start w1).alloc_ (.cells #[.string sA] 9)).below)
  have HC3 := Aside0.mk (litS w1 9 _ rfl [sA] (by decide))
  clear hC2
  go_wp2_with fail
  refine (equal_str _ _ _ _ _ _ _ _ _ HC2.out HC3.out).mono ?_
  rintro e w2 ⟨rfl, n, rfl⟩
  have hd : (decide ([sA] = [sA])) = true := by simp
  go_wp2_with fail
  go_ret
  exact ⟨by simp [sA], H1.out.drewN n⟩
end Go.Proofs.Ythmcelofclikbaa
