/-
  laws.zzFits10, zzFits9, headFits, headNames; spec.HeadFind: their contracts.
-/
import Derived.Test.YtdldblfklalaeaaGreatDoorHw
import Derived.Test.YtdldblfklalaeaaGreatDoorVa
import Derived.Deep.DeepCutAuto
import Derived.Deep.CutBlock
namespace Go.Proofs.YtdldblfklalaeaaGreatDoor
open Go.RowKit Go.Proofs.YtdldblfklalaeaaGreatDoorW.PrintWords Go.ChangeShapes Go.WideShapes
set_option linter.unusedVariables false
set_option linter.unusedSimpArgs false
set_option maxRecDepth 100000
theorem info9 : (Tryz.prog.info? 9).map (fun i => (i.zero, i.size, i.bytes)) = some (some (.string ByteArray.empty), 1, 16) := by kernel_rfl
set_option maxHeartbeats 2000000 in
theorem fz10_any (w : World) (f : Hf) (A : Option Addr) (c : Nat) (hC : Kd.string.C w A f.2.2.2.2.2.2.length f.2.2.2.2.2.2) (hle : f.2.2.2.2.2.2.length ≤ c) :
    Calls Tryz.prog 58 #[.agg (hfCells f A c)] w fun e w' => (∃ b : Bool, e = .returned (.bool b)) ∧ Hold w w.heap.size w' [] := by
  have hu := Tryz.underlying45
  have H0 := Aside0.mk ((Hold.start w).alloc_ (.cells #[.string f.1, .int .u8 f.2.1, .bool f.2.2.1, .bool f.2.2.2.1, .int .u64 f.2.2.2.2.1, .string f.2.2.2.2.2.1, .slice A f.2.2.2.2.2.2.length c] 45))
  have HC := Aside0.mk (Kd.C_below hC H0.out.below)
  clear hC
  unfold hfCells
  by_cases h1 : 2147483647 < f.1.size
  · go_enter Tryz.func58, Tryz.ntmps58
    go_wp2_with fail
    go_ret
    exact ⟨⟨_, rfl⟩, H0.out⟩
  replace h1 : f.1.size ≤ 2147483647 := by omega
  by_cases h2 : 2147483647 < f.2.2.2.2.2.1.size
  · go_enter Tryz.func58, Tryz.ntmps58
    go_wp2_with fail
    go_ret
    exact ⟨⟨_, rfl⟩, H0.out⟩
  replace h2 : f.2.2.2.2.2.1.size ≤ 2147483647 := by omega
  go_enter Tryz.func58, Tryz.ntmps58
  go_wp2_with fail
  refine (fits2_any _ A _ c _ HC.out).mono ?_
  rintro e w1 ⟨rfl, rfl⟩
  cases hb : fitsTwo f.2.2.2.2.2.2 with
  | true =>
    clear hb
    go_wp2
    go_ret
    exact ⟨⟨_, rfl⟩, H0.out⟩
  | false =>
    clear hb
    go_wp2
    go_ret
    exact ⟨⟨_, rfl⟩, H0.out⟩
set_option maxHeartbeats 2000000 in
theorem fz9_any (w : World) (A : Option Addr) (n c : Nat) (l : List Hf) (hC : kHf.C w A n l) :
    Calls Tryz.prog 19 #[.slice A n c] w fun e w' => (∃ b : Bool, e = .returned (.bool b)) ∧ Hold w w.heap.size w' [] := by
  obtain rfl := hC.1
  have hx : l.length ≤ 9223372036854775807 := hC.2.1
  have hu2 := Tryz.underlying45
  by_cases hl : 2147483647 < l.length
  · clear hC
    go_enter Tryz.func19, Tryz.ntmps19
    go_wp2
    go_ret
    exact ⟨⟨_, rfl⟩, Hold.start w⟩
  · have hl' : l.length ≤ 2147483647 := by omega
    have HC0 := Aside0.mk hC
    clear hC
    go_enter Tryz.func19, Tryz.ntmps19
    go_wp2
    go_loopw [10] (fun i wr => ∃ k : Nat, k ≤ l.length ∧ i = .int .i64 k ∧ Hold w w.heap.size wr []) (fun i _ => l.length - (intOf i).toNat)
    case atStart => exact ⟨0, Nat.zero_le _, rfl, Hold.start w⟩
    case round =>
      obtain ⟨k, hk, rfl, hR⟩ := hrel
      have HR := Aside0.mk hR
      clear hR
      by_cases hlt : k < l.length
      · obtain ⟨ad, A6, c6, rfl, hf⟩ := HcIs.get (HR.out.C HC0.out) k hlt
        have HRA := Aside0.mk (HR.out.alloc_ (.cells (hfCells l[k] A6 c6) 45))
        have HCA := Aside0.mk (Kd.C_below hf.hC (((Hold.start _).alloc_ (.cells (hfCells l[k] A6 c6) 45)).below))
        obtain ⟨_, hle, e0, e1, e2, e3, e4, e5, e6⟩ := hf
        have hlt2 : k + 1 ≤ l.length := hlt
        generalize hf : l[k] = f at *
        clear hf
        go_wp2_with fail
        refine (fz10_any _ f A6 c6 HCA.out hle).mono ?_
        rintro e w2 ⟨⟨b, rfl⟩, hM⟩
        have HR2 := Aside0.mk (HRA.out.of_below hM.below)
        clear hM
        cases b with
        | true =>
          go_wp2
          go_roundw
          case rel => exact ⟨k + 1, hlt2, by go_num, HR2.out⟩
          case measure => simp [intOf]; omega
        | false =>
          go_wp2
          go_ret
          exact ⟨⟨_, rfl⟩, HR2.out⟩
      · go_wp2
        go_ret
        exact ⟨⟨_, rfl⟩, HR.out⟩
/-- The first field of this name, or an empty one. -/
def hZero : Hf := (ByteArray.empty, 0, false, false, 0, ByteArray.empty, [])
def FindIs (l : List Hf) (s : ByteArray) (f : Hf) (b : Bool) : Prop := (b = true ∧ f ∈ l ∧ f.1 = s) ∨ (b = false ∧ f = hZero ∧ ∀ g ∈ l, g.1 ≠ s)
theorem HcIs.on {w w' : World} {ad : Addr} {k : Nat} {f : Hf} {A : Option Addr} {c : Nat} (h : HcIs w ad k f A c) (hb : Below w.heap.size w w') : HcIs w' ad k f A c :=
  ⟨Kd.C_below h.hC hb, h.hle, (hb.cell (cell_lt h.e0)).trans h.e0, (hb.cell (cell_lt h.e1)).trans h.e1, (hb.cell (cell_lt h.e2)).trans h.e2, (hb.cell (cell_lt h.e3)).trans h.e3, (hb.cell (cell_lt h.e4)).trans h.e4, (hb.cell (cell_lt h.e5)).trans h.e5, (hb.cell (cell_lt h.e6)).trans h.e6⟩
/-- Seven cells, stored. -/
theorem store7 {w0 w : World} {B g t : Nat} {L : List Asrt} (hS : Hold w0 B w (.blk g (.cells (hfCells hZero none 0) t) :: L)) (f : Hf) (A : Option Addr) (c : Nat) :
    Hold w0 B (((((((w.setCell ⟨g, 0, none⟩ (.string f.1)).setCell ⟨g, 1, none⟩ (.int .u8 f.2.1)).setCell ⟨g, 2, none⟩ (.bool f.2.2.1)).setCell ⟨g, 3, none⟩ (.bool f.2.2.2.1)).setCell ⟨g, 4, none⟩ (.int .u64 f.2.2.2.2.1)).setCell ⟨g, 5, none⟩ (.string f.2.2.2.2.2.1)).setCell ⟨g, 6, none⟩ (.slice A f.2.2.2.2.2.2.length c)) (.blk g (.cells (hfCells f A c) t) :: L) :=
  (((((((hS.store 0 rfl 0 (.string f.1)).store 0 rfl 1 (.int .u8 f.2.1)).store 0 rfl 2 (.bool f.2.2.1)).store 0 rfl 3 (.bool f.2.2.2.1)).store 0 rfl 4 (.int .u64 f.2.2.2.2.1)).store 0 rfl 5 (.string f.2.2.2.2.2.1)).store 0 rfl 6 (.slice A f.2.2.2.2.2.2.length c))
set_option maxHeartbeats 4000000 in
theorem headFind_any (w : World) (A : Option Addr) (n c : Nat) (l : List Hf) (s : ByteArray) (hC : kHf.C w A n l) :
    Calls Tryz.prog 44 #[.slice A n c, .string s] w fun e w' => ∃ (f : Hf) (A6 : Option Addr) (c6 : Nat) (b : Bool), e = .returned (.tuple #[.agg (hfCells f A6 c6), .bool b]) ∧ FindIs l s f b ∧ f.2.2.2.2.2.2.length ≤ c6 ∧ Kd.string.C w' A6 f.2.2.2.2.2.2.length f.2.2.2.2.2.2 ∧ Hold w w.heap.size w' [] := by
  obtain rfl := hC.1
  have hx : l.length ≤ 9223372036854775807 := hC.2.1
  have hu2 := Tryz.underlying45
  have HC0 := Aside0.mk hC
  clear hC
  have H0 := Aside0.mk ((Hold.start w).alloc (.cells (hfCells hZero none 0) 45))
  go_enter Tryz.func44, Tryz.ntmps44
  go_wp2
  go_loopw [10] (fun i wr => ∃ k : Nat, k ≤ l.length ∧ i = .int .i64 k ∧ (∀ j, (hj : j < l.length) → j < k → l[j].1 ≠ s) ∧ Hold w w.heap.size wr [.blk w.heap.size (.cells (hfCells hZero none 0) 45)]) (fun i _ => l.length - (intOf i).toNat)
  case atStart => exact ⟨0, Nat.zero_le _, rfl, fun j _ h => absurd h (Nat.not_lt_zero _), H0.out⟩
  case round =>
    obtain ⟨k, hk, rfl, hno, hR⟩ := hrel
    have HR := Aside0.mk hR
    have HN := Aside0.mk hno
    clear hR hno
    by_cases hlt : k < l.length
    · obtain ⟨ad, A6, c6, rfl, hf0⟩ := HcIs.get HC0.out k hlt
      have HCW := Aside0.mk hf0.hC
      have hf := hf0.on HR.out.below
      clear hf0
      have HRB := Aside0.mk (HR.out.alloc (.cells (hfCells l[k] A6 c6) 45))
      obtain ⟨_, hle, e0, e1, e2, e3, e4, e5, e6⟩ := hf
      have hlt2 : k + 1 ≤ l.length := hlt
      have HM := Aside0.mk (List.getElem_mem hlt)
      have HN2 := Aside0.mk (fun h : l[k].1 ≠ s => (fun j hj hjk => by
        rcases Nat.lt_or_ge j k with h3 | h3
        · exact HN.out j hj h3
        · obtain rfl : j = k := by omega
          exact h : ∀ j, (hj : j < l.length) → j < k + 1 → l[j].1 ≠ s))
      clear HN
      generalize hf : l[k] = f at *
      clear hf
      cases hq : sEq f.1 s with
      | true =>
        have HE := Aside0.mk (sEq_true.1 hq)
        have hq' : (f.1.toList == s.toList) = true := hq
        clear hq HN2
        obtain ⟨kc0, kf0⟩ := HRB.out.cell 1 rfl 0 (by simp [hfCells])
        obtain ⟨kc1, kf1⟩ := HRB.out.cell 1 rfl 1 (by simp [hfCells])
        obtain ⟨kc2, kf2⟩ := HRB.out.cell 1 rfl 2 (by simp [hfCells])
        obtain ⟨kc3, kf3⟩ := HRB.out.cell 1 rfl 3 (by simp [hfCells])
        obtain ⟨kc4, kf4⟩ := HRB.out.cell 1 rfl 4 (by simp [hfCells])
        obtain ⟨kc5, kf5⟩ := HRB.out.cell 1 rfl 5 (by simp [hfCells])
        obtain ⟨kc6, kf6⟩ := HRB.out.cell 1 rfl 6 (by simp [hfCells])
        simp [hfCells, hZero] at kc0 kf0 kc1 kf1 kc2 kf2 kc3 kf3 kc4 kf4 kc5 kf5 kc6 kf6
        have H9 := Aside0.mk (store7 (HRB.out.pick [1] (by decide) (L' := [.blk w.heap.size (.cells (hfCells hZero none 0) 45)]) rfl) f A6 c6)
        go_wp2
        refine bodyPost_ret (results_ct rfl _ _ w.heap.size 45 (hfCells f A6 c6) (0, 0) _ rfl (H9.out.blk 0 rfl) Tryz.underlying45 rfl (by kernel_rfl)) rfl ?_
        refine ⟨f, A6, c6, true, rfl, .inl ⟨rfl, HM.out, HE.out⟩, hle, Kd.C_below HCW.out H9.out.below, H9.out.tail⟩
      | false =>
        have HN3 := Aside0.mk (HN2.out (sEq_false.1 hq))
        have hq' : (f.1.toList == s.toList) = false := hq
        clear hq HN2
        go_wp2
        go_roundw
        case rel => exact ⟨k + 1, hlt2, by go_num, HN3.out, HRB.out.tail⟩
        case measure => simp [intOf]; omega
    · have HF : Aside0 (∀ g ∈ l, g.1 ≠ s) := ⟨fun g hg => by
        obtain ⟨j, hj, rfl⟩ := List.getElem_of_mem hg
        exact HN.out j hj (by omega)⟩
      clear HN
      obtain ⟨kc0, kf0⟩ := HR.out.cell 0 rfl 0 (by simp [hfCells])
      obtain ⟨kc1, kf1⟩ := HR.out.cell 0 rfl 1 (by simp [hfCells])
      obtain ⟨kc2, kf2⟩ := HR.out.cell 0 rfl 2 (by simp [hfCells])
      obtain ⟨kc3, kf3⟩ := HR.out.cell 0 rfl 3 (by simp [hfCells])
      obtain ⟨kc4, kf4⟩ := HR.out.cell 0 rfl 4 (by simp [hfCells])
      obtain ⟨kc5, kf5⟩ := HR.out.cell 0 rfl 5 (by simp [hfCells])
      obtain ⟨kc6, kf6⟩ := HR.out.cell 0 rfl 6 (by simp [hfCells])
      simp [hfCells, hZero] at kc0 kf0 kc1 kf1 kc2 kf2 kc3 kf3 kc4 kf4 kc5 kf5 kc6 kf6
      have H9 := Aside0.mk (store7 HR.out hZero none 0)
      go_wp2
      refine bodyPost_ret (results_ct rfl _ _ w.heap.size 45 (hfCells hZero none 0) (0, 0) _ rfl (H9.out.blk 0 rfl) Tryz.underlying45 rfl (by kernel_rfl)) rfl ?_
      exact ⟨hZero, none, 0, false, rfl, .inr ⟨rfl, rfl, HF.out⟩, Nat.le_refl _, ⟨rfl, by decide, fun h => absurd h (Nat.lt_irrefl _)⟩, H9.out.tail⟩
theorem row1_lit {w0 w : World} {B g : Nat} {L : List Asrt} (s : ByteArray) (hS : Hold w0 B w (.blk g (.cells #[.string s] 9) :: L)) : Hold w0 B w (.row Kd.string 9 (.slice (some ⟨g, 0, none⟩) 1 1) [s] :: L) :=
  hS.toRow 0 (d := Kd.string) (n := 1) (c := 1) (xs := [s]) rfl ((Reps.none _ 1).snoc (show Kd.string.M w 0 (fun _ => False) s [.string s] from rfl) rfl) rfl (Nat.le_refl _) (by decide) rfl
theorem row2_lit {w0 w : World} {B g : Nat} {L : List Asrt} (s s' : ByteArray) (hS : Hold w0 B w (.blk g (.cells #[.string s, .string s'] 9) :: L)) : Hold w0 B w (.row Kd.string 9 (.slice (some ⟨g, 0, none⟩) 2 2) [s, s'] :: L) :=
  hS.toRow 0 (d := Kd.string) (n := 2) (c := 2) (xs := [s, s']) rfl (((Reps.none _ 1).snoc (show Kd.string.M w 0 (fun _ => False) s [.string s] from rfl) rfl).snoc (show Kd.string.M w 0 (fun _ => False) s' [.string s'] from rfl) rfl) rfl (Nat.le_refl _) (by decide) rfl
set_option maxHeartbeats 4000000 in
theorem headNames_any (w : World) (A : Option Addr) (n c : Nat) (l : List Hf) (s : ByteArray) (hl : l.length ≤ 30) (hC : kHf.C w A n l) :
    Calls Tryz.prog 43 #[.slice A n c, .string s] w fun e w' => ∃ v, e = .returned v ∧ Hold w w.heap.size w' [.row Kd.string 9 v (s :: l.map (·.1))] := by
  obtain rfl := hC.1
  have hx : l.length ≤ 9223372036854775807 := hC.2.1
  have hu2 := Tryz.underlying45
  have HC0 := Aside0.mk hC
  clear hC
  have H0 := Aside0.mk (row1_lit s ((Hold.start w).alloc (.cells #[.string s] 9)))
  go_enter Tryz.func43, Tryz.ntmps43
  go_wp2
  go_loopw [5, 12] (fun v i wr => ∃ k : Nat, k ≤ l.length ∧ i = .int .i64 k ∧ Hold w w.heap.size wr [.row Kd.string 9 v (s :: (l.take k).map (·.1))]) (fun _ i _ => l.length - (intOf i).toNat)
  case atStart => exact ⟨0, Nat.zero_le _, rfl, H0.out⟩
  case round =>
    obtain ⟨k, hk, rfl, hR⟩ := hrel
    have HR := Aside0.mk hR
    clear hR
    by_cases hlt : k < l.length
    · obtain ⟨ad, A6, c6, rfl, hf0⟩ := HcIs.get HC0.out k hlt
      have hf := hf0.on HR.out.below
      clear hf0
      have HRB := Aside0.mk (HR.out.alloc_ (.cells (hfCells l[k] A6 c6) 45))
      obtain ⟨_, hle, e0, e1, e2, e3, e4, e5, e6⟩ := hf
      have hlt2 : k + 1 ≤ l.length := hlt
      have HS : Aside0 ((s :: (l.take k).map (·.1)) ++ [l[k].1] = s :: (l.take (k + 1)).map (·.1)) := ⟨by rw [List.take_succ_eq_append_getElem hlt, List.map_append]; rfl⟩
      have Hlen : Aside0 (((s :: (l.take k).map (·.1)).length + 1) * 16 ≤ 140737488355328) := ⟨by simp; omega⟩
      generalize hn : s :: (l.take k).map (·.1) = ns at *
      clear hn
      generalize hf : l[k] = f at *
      clear hf
      go_wp2_with ((with_reducible refine at_bi (b := .append) (xs := #[.tmp 16, .tmp 19]) rfl ?_); at_builtin; refine Hold.append1 (Kd.string) 0 HRB.out rfl rfl (.tmp 16) (.tmp 19) 23 (.string ByteArray.empty) 16 rfl Tryz.underlying23 info9 rfl (by decide) (by omega) (f.1) [.string f.1] rfl (by show Value.slice (some ⟨_, 0, none⟩) 1 1 = _; simp) rfl Hlen.out ?_; intro _ _ H3'; have H3 := Aside0.mk H3'; clear H3' HRB)
      go_roundw
      case rel => exact ⟨k + 1, hlt2, by go_num, by rw [← HS.out]; exact H3.out⟩
      case measure => simp [intOf]; omega
    · obtain rfl : k = l.length := by omega
      rw [List.take_length] at HR
      go_wp2
      go_ret
      exact ⟨_, rfl, HR.out⟩
/-- What the machine's numbers are. -/
structure FWf (f : Hf) : Prop where
  k0 : 0 ≤ f.2.1
  n0 : 0 ≤ f.2.2.2.2.1
  n1 : f.2.2.2.2.1 < 18446744073709551616
structure FitsL (l : List Hf) (k : Nat) : Prop where
  ok : ∀ j, (hj : j < l.length) → j < k → FOk l[j]
  one : ((l.take k).map (·.1)).Nodup
structure TOkTo (xs : List ByteArray) (k : Nat) : Prop where
  out : ∀ j, (hj : j < xs.length) → j < k → TOk xs[j]
theorem TOkTo.step {xs : List ByteArray} {k : Nat} (h : TOkTo xs k) (hk : k < xs.length) (h2 : TOk xs[k]) : TOkTo xs (k + 1) := ⟨fun j hj hjk => by
  rcases Nat.lt_or_ge j k with h3 | h3
  · exact h.out j hj h3
  · obtain rfl : j = k := by omega
    exact h2⟩
theorem FitsL.step {l : List Hf} {k : Nat} (h : FitsL l k) (hk : k < l.length) (h2 : FOk l[k]) (h3 : l[k].1 ∉ (l.take k).map (·.1)) : FitsL l (k + 1) where
  ok j hj hjk := by
    rcases Nat.lt_or_ge j k with h4 | h4
    · exact h.ok j hj h4
    · obtain rfl : j = k := by omega
      exact h2
  one := by
    rw [List.take_succ_eq_append_getElem hk, List.map_append]
    refine List.nodup_append.2 ⟨h.one, by simp, fun a ha b hb => ?_⟩
    simp only [List.map_cons, List.map_nil, List.mem_singleton] at hb
    subst hb
    exact fun e => h3 (e ▸ ha)
theorem fok_of {f : Hf} (hW : FWf f) (h6 : f.2.1 ≤ 6) (hl : f.2.2.2.2.2.2.length ≤ 30) (h : TOkTo ([f.1, f.2.2.2.2.2.1] ++ f.2.2.2.2.2.2) ([f.1, f.2.2.2.2.2.1] ++ f.2.2.2.2.2.2).length) : FOk f where
  k0 := hW.k0
  k6 := h6
  n0 := hW.n0
  n1 := hW.n1
  name := h.out 0 (by simp) (by simp)
  text := h.out 1 (by simp) (by simp)
  len := hl
  list s hs := by
    obtain ⟨j, hj, rfl⟩ := List.getElem_of_mem hs
    exact h.out (j + 2) (by simp; omega) (by simp; omega)
def GoodL (l : List Hf) (b : Bool) : Prop := b = true → l.length ≤ 30 ∧ (∀ f ∈ l, FOk f) ∧ (l.map (·.1)).Nodup
structure HFits (w : World) (l : List Hf) (e : Ending) (w' : World) : Prop where
  out : ∃ b : Bool, e = .returned (.bool b) ∧ GoodL l b ∧ Hold w w.heap.size w' []
set_option maxHeartbeats 8000000 in
theorem headFits_any (w : World) (A : Option Addr) (n c : Nat) (l : List Hf) (hC : kHf.C w A n l) (hW : ∀ f ∈ l, FWf f) (hT : Tabs w) :
    Calls Tryz.prog 20 #[.slice A n c] w (HFits w l) := by
  obtain rfl := hC.1
  have hx : l.length ≤ 9223372036854775807 := hC.2.1
  have hu2 := Tryz.underlying45
  have HNo : Aside0 (GoodL l false) := ⟨fun h => by cases h⟩
  have HT := Aside0.mk (fun (wz : World) (hb : Below w.heap.size w wz) => hT.on hb)
  have HW := Aside0.mk hW
  clear hT hW
  by_cases hl : 30 < l.length
  · clear hC
    go_enter Tryz.func20, Tryz.ntmps20
    go_wp2
    go_ret
    exact ⟨⟨_, rfl, HNo.out, Hold.start w⟩⟩
  · have hl' : l.length ≤ 30 := by omega
    have HC0 := Aside0.mk hC
    clear hC
    go_enter Tryz.func20, Tryz.ntmps20
    go_wp2
    go_loopw [3, 13] (fun v i wr => ∃ k : Nat, k ≤ l.length ∧ i = .int .i64 k ∧ FitsL l k ∧ Hold w w.heap.size wr [.row Kd.string 9 v ((l.take k).map (·.1))]) (fun _ i _ => l.length - (intOf i).toNat)
    case atStart => exact ⟨0, Nat.zero_le _, rfl, ⟨fun j _ h => absurd h (Nat.not_lt_zero _), by simp⟩, (Hold.start w).nil _ _⟩
    case round =>
      obtain ⟨k, hk, rfl, hF, hR⟩ := hrel
      have HF := Aside0.mk hF
      have HR := Aside0.mk hR
      clear hF hR
      by_cases hlt : k < l.length
      · obtain ⟨ad, A6, c6, rfl, hf0⟩ := HcIs.get HC0.out k hlt
        have HCW := Aside0.mk hf0.hC
        have hf := hf0.on HR.out.below
        clear hf0
        obtain ⟨A3, c3, rfl, hle3, hC3⟩ := HR.out.reads 0 rfl
        have HRB := Aside0.mk (HR.out.alloc (.cells (hfCells l[k] A6 c6) 45))
        have HC3 := Aside0.mk (Kd.C_below hC3 ((Hold.start wr).alloc_ (.cells (hfCells l[k] A6 c6) 45)).below)
        obtain ⟨_, hle, e0, e1, e2, e3, e4, e5, e6⟩ := hf
        have hlt2 : k + 1 ≤ l.length := hlt
        have HS : Aside0 ((l.take k).map (·.1) ++ [l[k].1] = (l.take (k + 1)).map (·.1)) := ⟨by rw [List.take_succ_eq_append_getElem hlt, List.map_append]; rfl⟩
        have Hlen : Aside0 ((((l.take k).map (·.1)).length + 1) * 16 ≤ 140737488355328) := ⟨by simp; omega⟩
        have HFS := Aside0.mk (fun h2 h3 => HF.out.step hlt h2 h3)
        have HWf := Aside0.mk (HW.out l[k] (List.getElem_mem hlt))
        clear HF hC3
        generalize hn : (l.take k).map (·.1) = ns at *
        clear hn
        generalize hf : l[k] = f at *
        clear hf
        by_cases h1 : 6 < f.2.1
        · clear HFS
          go_wp2_with fail
          go_ret
          exact ⟨⟨_, rfl, HNo.out, HRB.out.tail.tail⟩⟩
        replace h1 : f.2.1 ≤ 6 := by omega
        by_cases h2 : 30 < f.2.2.2.2.2.2.length
        · clear HFS
          go_wp2_with fail
          go_ret
          exact ⟨⟨_, rfl, HNo.out, HRB.out.tail.tail⟩⟩
        replace h2 : f.2.2.2.2.2.2.length ≤ 30 := by omega
        go_wp2_with fail
        refine (sContains_any _ A3 _ c3 ns f.1 HC3.out).mono ?_
        rintro e w1 ⟨rfl, m, hw1⟩
        have HR2 := Aside0.mk (show Hold w w.heap.size w1 _ from hw1 ▸ HRB.out.drewN m)
        clear hw1 HRB HC3
        cases hb : sMem f.1 ns with
        | true =>
          clear hb HFS
          go_wp2
          go_ret
          exact ⟨⟨_, rfl, HNo.out, HR2.out.tail.tail⟩⟩
        | false =>
          have HM : Aside0 (f.1 ∉ ns) := ⟨fun h => by rw [sMem_true.2 h] at hb; cases hb⟩
          clear hb
          have kc0 : w1.cell? ⟨wr.heap.size, 0, none⟩ = some (.string f.1) := (HR2.out.cell 0 rfl 0 (by simp [hfCells])).1
          have kc5 : w1.cell? ⟨wr.heap.size, 5, none⟩ = some (.string f.2.2.2.2.2.1) := (HR2.out.cell 0 rfl 5 (by simp [hfCells])).1
          have H3 := Aside0.mk (row2_lit f.1 f.2.2.2.2.2.1 (HR2.out.alloc (.cells #[.string f.1, .string f.2.2.2.2.2.1] 9)))
          have kc6 : (w1.alloc (.cells #[.string f.1, .string f.2.2.2.2.2.1] 9)).cell? ⟨wr.heap.size, 6, none⟩ = some (.slice A6 f.2.2.2.2.2.2.length c6) := (H3.out.cell 1 rfl 6 (by simp [hfCells])).1
          have Hl : Aside0 (([f.1, f.2.2.2.2.2.1].length + f.2.2.2.2.2.2.length) * 16 ≤ 140737488355328) := ⟨by simp; omega⟩
          go_wp2_with ((with_reducible refine at_bi (b := .append) (xs := #[.tmp 36, .tmp 38]) rfl ?_); at_builtin; refine Hold.appendRow 0 H3.out rfl rfl (.tmp 36) (.tmp 38) 23 (.string ByteArray.empty) 16 rfl Tryz.underlying23 info9 rfl (by omega) (A6) (f.2.2.2.2.2.2.length) (c6) rfl rfl (Kd.C_below HCW.out H3.out.below) Hl.out ?_; intro _ _ H4'; have H4 := Aside0.mk H4'; clear H4' H3; obtain ⟨A8, c8, rfl, hle_c8, hHC8'⟩ := H4.out.reads 0 rfl; have HC8 := Aside0.mk hHC8'; clear hHC8')
          rename_i w4
          have HP0 : Aside0 (Hold w w.heap.size w4 [.row Kd.string 9 (.slice A8 ([f.1, f.2.2.2.2.2.1] ++ f.2.2.2.2.2.2).length c8) ([f.1, f.2.2.2.2.2.1] ++ f.2.2.2.2.2.2), .blk wr.heap.size (.cells (hfCells f A6 c6) 45), .row Kd.string 9 (.slice A3 ns.length c3) ns]) := ⟨H4.out⟩
          have HOk := Aside0.mk (fun h => HFS.out (fok_of HWf.out h1 h2 h) HM.out)
          clear H4 HC8 HFS Hl kc0 kc5 kc6 e0 e1 e2 e3 e4 e5 e6 HR2 HR
          have hPl : ([f.1, f.2.2.2.2.2.1] ++ f.2.2.2.2.2.2).length ≤ 32 := by simp; omega
          have hPe : ([f.1, f.2.2.2.2.2.1] ++ f.2.2.2.2.2.2).length = f.2.2.2.2.2.2.length + 1 + 1 := by simp
          generalize hgr : wr.heap.size = gr at *
          clear hgr
          generalize hP : [f.1, f.2.2.2.2.2.1] ++ f.2.2.2.2.2.2 = P at *
          clear hP
          go_loopw [41] (fun j wx => ∃ k2 : Nat, k2 ≤ P.length ∧ j = .int .i64 k2 ∧ TOkTo P k2 ∧ Hold w w.heap.size wx [.row Kd.string 9 (.slice A8 P.length c8) P, .blk gr (.cells (hfCells f A6 c6) 45), .row Kd.string 9 (.slice A3 ns.length c3) ns]) (fun j _ => P.length - (intOf j).toNat)
          case atStart => exact ⟨0, Nat.zero_le _, rfl, ⟨fun j _ h => absurd h (Nat.not_lt_zero _)⟩, HP0.out⟩
          case round =>
            obtain ⟨k2, hk2, rfl, hS, hX⟩ := hrel
            have HX := Aside0.mk hX
            clear hX HP0
            by_cases hj : k2 < P.length
            · have hj0 : k2 < f.2.2.2.2.2.2.length + 1 + 1 := by omega
              obtain ⟨A9, c9, he, hc9, hC9⟩ := HX.out.reads 0 rfl
              injection he with he1 he2 he3
              subst he1 he3
              obtain ⟨a5, rfl, ej⟩ := C1_get hC9 k2 hj
              clear hC9
              have HTT := Aside0.mk (fun h => hS.step hj h)
              clear hS
              have hj2 : k2 + 1 ≤ P.length := hj
              generalize hs : P[k2] = s at *
              clear hs
              by_cases h7 : 200 < s.size
              · clear HTT HOk
                go_wp2_with fail
                go_ret
                exact ⟨⟨_, rfl, HNo.out, HX.out.tail.tail.tail⟩⟩
              · have h7' : s.size ≤ 200 := by omega
                go_wp2_with fail
                refine (valid_any s wr (by omega) (HT.out wr HX.out.below)).mono ?_
                rintro e w5 ⟨rfl, hM⟩
                have HX5 := Aside0.mk (HX.out.of_below hM)
                clear hM
                cases hv : Lib.validD s.data.toList with
                | true =>
                  have HT3 := Aside0.mk (HTT.out ⟨h7', hv⟩)
                  clear hv HTT
                  go_wp2
                  go_roundw
                  case rel => exact ⟨k2 + 1, hj2, by go_num, HT3.out, HX5.out⟩
                  case measure => simp [intOf]; omega
                | false =>
                  clear hv HTT HOk
                  go_wp2
                  go_ret
                  exact ⟨⟨_, rfl, HNo.out, HX5.out.tail.tail.tail⟩⟩
            · have HF3 := Aside0.mk (HOk.out (by obtain rfl : k2 = P.length := by omega
                                                 exact hS))
              clear HOk hS
              have hj0 : ¬ k2 < f.2.2.2.2.2.2.length + 1 + 1 := by omega
              have kc0 : wr.cell? ⟨gr, 0, none⟩ = some (.string f.1) := (HX.out.cell 1 rfl 0 (by simp [hfCells])).1
              go_wp2_with ((with_reducible refine at_bi (b := .append) (xs := #[.tmp 54, .tmp 57]) rfl ?_); at_builtin; refine Hold.append1 (Kd.string) 2 HX.out rfl rfl (.tmp 54) (.tmp 57) 23 (.string ByteArray.empty) 16 rfl Tryz.underlying23 info9 rfl (by decide) (by omega) (f.1) [.string f.1] rfl rfl rfl Hlen.out ?_; intro _ _ H9'; have H9 := Aside0.mk H9'; clear H9' HX)
              go_roundw
              case rel => exact ⟨k + 1, hlt2, by go_num, HF3.out, by rw [← HS.out]; exact H9.out.pick [2] (by decide) (L' := [.row Kd.string 9 _ (ns ++ [f.1])]) rfl⟩
              case measure => simp [intOf]; omega
      · have HFF : Aside0 (GoodL l true) := ⟨fun _ => ⟨hl', fun f hf => by
          obtain ⟨j, hj, rfl⟩ := List.getElem_of_mem hf
          exact HF.out.ok j hj (by omega), by
          have h := HF.out.one
          rwa [List.take_of_length_le (by omega)] at h⟩⟩
        clear HF
        go_wp2
        go_ret
        exact ⟨⟨_, rfl, HFF.out, HR.out.tail⟩⟩
end Go.Proofs.YtdldblfklalaeaaGreatDoor
