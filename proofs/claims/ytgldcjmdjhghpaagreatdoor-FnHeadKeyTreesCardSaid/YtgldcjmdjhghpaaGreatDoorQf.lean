/-
  fastjson's parseValue, parseArray, parseObject: their contracts, for every text.
  fastjson's b2s, cache.reset, Parser.Parse, ParseBytes: their contracts.
  fastjson's Parser.Parse: its contract.
  fastjson's ParseBytes; bytes.Clone; jwsbb.HeaderParse; impl.head: their contracts.
-/
import Derived.Test.YtgldcjmdjhghpaaGreatDoorQz
import Derived.Test.YtgldcjmdjhghpaaGreatDoorQa
import Derived.Lib.AppendStr
import Derived.Deep.RegionLaw
import Derived.LoopN
import Derived.Test.YtgldcjmdjhghpaaGreatDoorRows
import Derived.WalkKit
import Derived.WalkSpells
import Derived.WalkLawsBesides
import Derived.Lib.ConvBytes
namespace Go.Proofs.YtgldcjmdjhghpaaGreatDoor
open Go.RowKit Go.Proofs.YtgldcjmdjhghpaaGreatDoorW.PrintWords
set_option linter.unusedVariables false
theorem val_of (L : Nat) (hL : L ≤ 9223372036854775800) (IA : ∀ s : Bs, s.length < L → PA s) (IO : ∀ s : Bs, s.length < L → PO s) (s : Bs) (hs : s.length ≤ L) : PV s := by
  intro w pb n c d f vb hC hb hf hd
  by_cases hsh : s = [] ∨ 300 ≤ d
  · exact val_short s w pb n c d f vb hsh hd (by omega)
  · cases s with
    | nil => exact absurd (.inl rfl) hsh
    | cons c0 r =>
      have hd2 : d < 300 := by
        rcases Nat.lt_or_ge d 300 with h | h
        · exact h
        · exact absurd (.inr h) hsh
      have hl : (c0 :: r : Bs).length = r.length + 1 := by simp
      obtain ⟨f, rfl⟩ : ∃ k, f = k + 1 := ⟨f - 1, by omega⟩
      by_cases h1 : c0 = 123
      · subst h1; exact val_obj r w pb n c d f vb (IO r (by omega)) hC hb hf hd2 (by omega)
      by_cases h2 : c0 = 91
      · subst h2; exact val_arr r w pb n c d f vb (IA r (by omega)) hC hb hf hd2 (by omega)
      by_cases h3 : c0 = 34
      · subst h3; exact val_str r w pb n c d f vb hC hb hf hd2 (by omega)
      by_cases h4 : c0 = 116
      · subst h4; exact val_word_t r w pb n c d f vb hC hb hf hd2 (by omega)
      by_cases h5 : c0 = 102
      · subst h5; exact val_word_f r w pb n c d f vb hC hb hf hd2 (by omega)
      by_cases h6 : c0 = 110
      · subst h6; exact val_word_n r w pb n c d f vb hC hb hf hd2 (by omega)
      exact val_num r w pb n c d f c0 vb h1 h2 h3 h4 h5 h6 hC hb hf hd2 (by omega)
theorem val_all : ∀ (L : Nat), L ≤ 9223372036854775800 → ∀ s : Bs, s.length < L → PV s
  | 0, _, s, h => absurd h (Nat.not_lt_zero _)
  | L + 1, hL, s, h => by
    have ih := val_all L (by omega)
    exact val_of L (by omega) (fun r hr => parseArr_of L (by omega) ih r hr) (fun r hr => parseObj_of L (by omega) ih r hr) s (by omega)
theorem parseValue_any (s : Bs) (hs : s.length < 9223372036854775800) : PV s := val_all 9223372036854775800 (Nat.le_refl _) s hs
end Go.Proofs.YtgldcjmdjhghpaaGreatDoor
namespace Go.Proofs.YtgldcjmdjhghpaaGreatDoor
open Go.RowKit Go.Proofs.YtgldcjmdjhghpaaGreatDoorW.PrintWords Go.ChangeShapes Go.WideShapes
set_option linter.unusedVariables false
set_option linter.unusedSimpArgs false
set_option maxRecDepth 100000
theorem b2s_any (w : World) (A : Option Addr) (n c : Nat) (xs : Bs) (h : kB.C w A n xs) :
    Calls Tryz.prog 45 #[.slice A n c] w fun e w' => e = .returned (.string (bStr xs)) ∧ w' = w := by
  have gk := kB_string (P := Tryz.prog) c Tryz.underlying30 Tryz.underlying5 Tryz.underlying9 h
  clear h
  go_enter Tryz.func45, Tryz.ntmps45
  go_wp2
  go_ret
  exact ⟨rfl, rfl⟩
theorem creset_any (w : World) (pb : Nat) (h1 : w.cell? ⟨pb, 1, none⟩ = some (.slice none 0 0)) (f1 : w.frozen? ⟨pb, 1, none⟩ = false) :
    Calls Tryz.prog 51 #[.pointer (some ⟨pb, 1, none⟩)] w fun e w' => e = .returned (.tuple #[]) ∧ w' = w.setCell ⟨pb, 1, none⟩ (.slice none 0 0) := by
  go_enter Tryz.func51, Tryz.ntmps51
  go_wp2
  refine wp_loop_rounds 1 ?_
  rw [rounds_succ]
  go_wp2
  go_end0
  exact ⟨rfl, rfl⟩
theorem info5 : (Tryz.prog.info? 5).map (fun i => (i.zero, i.size, i.bytes)) = some (some (.int .u8 0), 1, 1) := by kernel_rfl
theorem C_of_cellsP {w : World} {g : Nat} {xs : List UInt8} (hm : xs.length ≤ 9223372036854775807) (h : ∀ j, (hj : j < xs.length) → w.cell? ⟨g, j, none⟩ = some (bV xs[j])) : kB.C w (some ⟨g, 0, none⟩) xs.length xs := by
  refine ⟨rfl, hm, fun _ => ⟨_, rfl, fun j p hj => ?_⟩⟩
  obtain ⟨hjl, rfl⟩ := List.getElem?_eq_some_iff.1 hj
  refine ⟨[bV xs[j]], rfl, rfl, fun i u hu => ?_⟩
  cases i with
  | zero =>
    have hu' : bV xs[j] = u := by simpa using hu
    rw [← hu', Addr.add_mid]
    have e : 0 + (j * kB.sz + 0) = j := by show 0 + (j * 1 + 0) = j; omega
    rw [e]
    exact h j hjl
  | succ i => simp at hu
theorem app_text (w : World) (ty : Nat) (q : Bs) (hq : q.length ≤ 1000000000000) : ∃ A c w', (Builtin.append_ #[30, 9] ty #[.slice none 0 0, .string (bStr q)]).run Tryz.prog w = .ok (.slice A q.length c) w' ∧ q.length ≤ c ∧ c ≤ maxLen ∧ Below w.heap.size w w' ∧
    ∀ W, (∀ b o, w.heap.size ≤ b → b < w'.heap.size → W.cell? ⟨b, o, none⟩ = w'.cell? ⟨b, o, none⟩) → kB.C W A q.length q := by
  obtain ⟨i0, hi, hz0, hz1, hz2⟩ := info_parts info5
  obtain ⟨v', w', hr, hO, hG, hN⟩ := Lib.run_append_own_string (P := Tryz.prog) w w.heap.size 30 9 ty 5 i0 Tryz.underlying30 Tryz.underlying9 hi hz0 hz1 hz2 (.slice none 0 0) 0 [] (World.ownsRow_nil _ _ _ _) (bStr q) (by rw [bStr_size]; unfold maxLen; omega) (by rw [bStr_size]; omega) (Nat.le_refl _)
  rw [bStr_size, Nat.zero_add] at hO
  have hb : Below w.heap.size w w' := (Below.refl w.heap.size w).grown (row := none) ⟨hG.os, hG.tape, hG.output, hG.size, fun k hk _ => hG.block k hk (by simp [Value.ownBlock])⟩ (Nat.le_refl _) (fun k h => by cases h)
  rcases hO.2 with ⟨rfl, h0⟩ | ⟨g, cap, cur, rfl, hbg, hg, hnc, hcm, hcs, htake⟩
  · have hq0 : q = [] := List.eq_nil_of_length_eq_zero h0
    subst hq0
    exact ⟨none, 0, w', hr, Nat.le_refl _, Nat.zero_le _, hb, fun W _ => Kd.C_nil kB W⟩
  · refine ⟨some ⟨g, 0, none⟩, cap, w', hr, hnc, hcm, hb, fun W hW => C_of_cellsP (by omega) (fun j hj => ?_)⟩
    rw [hW g j hbg (Array.getElem?_eq_some_iff.1 hg).1]
    have hc := hO.cells (g := g) rfl j (bV q[j]) (by
      rw [List.nil_append]
      unfold Lib.strCells bStr
      rw [List.getElem?_map]
      simp [hj, bV])
    rw [WideShapes.add_plain, Nat.zero_add] at hc
    exact hc
def errP (g : Nat) : Value := .iface 116 (.pointer (some ⟨g, 0, none⟩))
/-- What the reader gives for a text. -/
def PRes (w : World) (pb : Nat) (res : Option JV) (e : Ending) (w' : World) : Prop :=
  Upd w w' (fun b o => b = pb) ∧ match res with
  | some v => ∃ b o, e = .returned (.tuple #[.pointer (some ⟨b, o, none⟩), .nilIface]) ∧ TreeAt w' (fun b o => w.heap.size ≤ b ∧ b < w'.heap.size) b o v
  | none => ∃ g, e = .returned (.tuple #[.pointer none, errP g])
theorem Cache.set0 {w : World} {pb : Nat} (h : Cache w pb none 0 0) (v : Value) : Cache (w.setCell ⟨pb, 0, none⟩ v) pb none 0 0 :=
  h.keep (Upd.setCell w pb 0 v (C := fun b o => b = pb ∧ o = 0) ⟨rfl, rfl⟩) (fun hh => by cases hh.2) (by rw [World.frozen?_setCell]; exact h.fr) (fun g e => by cases e)
theorem Cache.set1 {w : World} {pb : Nat} (h : Cache w pb none 0 0) : Cache (w.setCell ⟨pb, 1, none⟩ (.slice none 0 0)) pb none 0 0 :=
  ⟨(Upd.setCell w pb 1 _ (C := fun b o => b = pb ∧ o = 1) ⟨rfl, rfl⟩).blkT 0 (fun hh => by cases hh.2) h.ty, World.cell?_setCell_same w ⟨pb, 1, none⟩ _ h.vs, by rw [World.frozen?_setCell]; exact h.fr, Nat.le_refl _, h.cm, fun _ => ⟨rfl, rfl⟩, fun g e => by cases e⟩
theorem pv_no (q : Bs) (hq : q.length ≤ 900000000000) (hr : pVal (2 * q.length + 2) 0 q = none) (W : World) (pb : Nat) (hC : Cache W pb none 0 0) :
    Calls Tryz.prog 52 #[.pointer (some ⟨pb, 1, none⟩), .string (bStr q), .int .i64 0] W fun e w' => (∃ a g, e = .returned (.tuple #[.pointer none, .string a, .iface 116 (.pointer (some ⟨g, 0, none⟩))])) ∧ Upd W w' (fun b o => b = pb) := by
  have h := parseValue_any q (by omega) W pb 0 0 0 (2 * q.length + 2) none hC (by have := nb_le q; unfold MaxV; omega) (by omega) (by omega)
  rw [hr] at h
  refine Calls.mono h ?_
  rintro e w' ⟨hU, a, g, rfl⟩
  exact ⟨⟨a, g, rfl⟩, hU.weaken (fun b o _ hh => by rcases hh with h | h; exact h.1; cases h.1)⟩
theorem pv_yes (q r : Bs) (v : JV) (hq : q.length ≤ 900000000000) (hr : pVal (2 * q.length + 2) 0 q = some (v, r)) (W : World) (pb : Nat) (hC : Cache W pb none 0 0) :
    Calls Tryz.prog 52 #[.pointer (some ⟨pb, 1, none⟩), .string (bStr q), .int .i64 0] W fun e w' => (∃ b o, e = .returned (.tuple #[.pointer (some ⟨b, o, none⟩), .string (bStr r), .nilIface]) ∧ TreeAt w' (fun b o => W.heap.size ≤ b ∧ b < w'.heap.size) b o v) ∧ Upd W w' (fun b o => b = pb) ∧ r.length < q.length := by
  have h := parseValue_any q (by omega) W pb 0 0 0 (2 * q.length + 2) none hC (by have := nb_le q; unfold MaxV; omega) (by omega) (by omega)
  rw [hr] at h
  refine Calls.mono h ?_
  rintro e w' ⟨hU, b, o, vb', n', c', rfl, hV⟩
  refine ⟨⟨b, o, rfl, ?_⟩, hU.weaken (fun b o _ hh => by rcases hh with h | h; exact h.1; cases h.1), hV.len⟩
  exact hV.tree.mono (fun b o hh => ⟨(by rcases hh.2.2.1 with h | h; exact h; cases h.1), hh.2.1⟩) (fun _ _ _ => rfl) (fun _ _ _ _ hT => hT)
end Go.Proofs.YtgldcjmdjhghpaaGreatDoor
namespace Go.Proofs.YtgldcjmdjhghpaaGreatDoor
open Go.RowKit Go.Proofs.YtgldcjmdjhghpaaGreatDoorW.PrintWords Go.ChangeShapes Go.WideShapes
set_option linter.unusedVariables false
set_option linter.unusedSimpArgs false
set_option maxRecDepth 100000
/-- The state ahead of the reading: what a walk needs of it. -/
structure Ready (w : World) (pb : Nat) (A : Option Addr) (n c : Nat) (q : Bs) (W : World) : Prop where
  cache : Cache W pb none 0 0
  text : kB.C W A n q
  upd : Upd w W (fun b o => b = pb)
theorem Ready.on {w W W' : World} {pb n c : Nat} {A : Option Addr} {q : Bs} (h : Ready w pb A n c q W) (hb : Below W.heap.size W W') : Ready w pb A n c q W' :=
  ⟨h.cache.on hb, Kd.C_below h.text hb, h.upd.trans (Upd.of_below hb (fun _ _ => False)) (fun _ _ _ h => h) (fun _ _ _ h => h.elim)⟩
theorem ready_of {w w1 : World} {pb n c : Nat} {A : Option Addr} {q : Bs} (hC : Cache w pb none 0 0) (hb : Below w.heap.size w w1) (v : Value)
    (hT : ∀ W, (∀ b o, w.heap.size ≤ b → b < w1.heap.size → W.cell? ⟨b, o, none⟩ = w1.cell? ⟨b, o, none⟩) → kB.C W A n q) :
    Ready w pb A n c q ((w1.setCell ⟨pb, 0, none⟩ v).setCell ⟨pb, 1, none⟩ (.slice none 0 0)) := by
  have hlt := blkT_lt hC.ty
  refine ⟨((hC.on hb).set0 v).set1, hT _ (fun b o h1 _ => ?_), ?_⟩
  · rw [World.cell?_setCell_other _ ⟨pb, 1, none⟩ ⟨b, o, none⟩ _ (by intro e; injection e with e; omega), World.cell?_setCell_other _ ⟨pb, 0, none⟩ ⟨b, o, none⟩ _ (by intro e; injection e with e; omega)]
  · exact (Upd.of_below hb (fun b o => b = pb)).trans ((Upd.setCell w1 pb 0 v (C := fun b o => b = pb) rfl).trans (Upd.setCell _ pb 1 _ (C := fun b o => b = pb) rfl) (fun _ _ _ h => h) (fun _ _ _ h => h)) (fun _ _ _ h => h) (fun _ _ _ h => h)
set_option maxHeartbeats 4000000 in
theorem parse_no (s : Bs) (w : World) (pb : Nat) (hs : s.length ≤ 900000000000) (hC : Cache w pb none 0 0) (k0 : w.cell? ⟨pb, 0, none⟩ = some (.slice none 0 0)) (f0 : w.frozen? ⟨pb, 0, none⟩ = false) (hr : pVal (2 * (skipWS s).length + 2) 0 (skipWS s) = none) :
    Calls Tryz.prog 44 #[.pointer (some ⟨pb, 0, none⟩), .string (bStr s)] w (PRes w pb none) := by
  have hql : (skipWS s).length ≤ s.length := skip_len s
  obtain ⟨A, c, w1, hrun, hc1, hc2, hb, hT⟩ := app_text w 30 (skipWS s) (by omega)
  have HSK := Aside0.mk (skipWS_any s w (by omega))
  have HPV := Aside0.mk (pv_no (skipWS s) (by omega) hr)
  have HR := Aside0.mk (ready_of (c := c) hC hb (.slice A (skipWS s).length c) hT)
  have hlt := blkT_lt hC.ty
  have k1 : w1.cell? ⟨pb, 0, none⟩ = some (.slice none 0 0) := (hb.cell (p := ⟨pb, 0, none⟩) hlt).trans k0
  have f1 : w1.frozen? ⟨pb, 0, none⟩ = false := (hb.frozen (p := ⟨pb, 0, none⟩) hlt).trans f0
  have k2 : (w1.setCell ⟨pb, 0, none⟩ (.slice A (skipWS s).length c)).cell? ⟨pb, 1, none⟩ = some (.slice none 0 0) := ((hC.on hb).set0 _).vs
  have f2 : (w1.setCell ⟨pb, 0, none⟩ (.slice A (skipWS s).length c)).frozen? ⟨pb, 1, none⟩ = false := ((hC.on hb).set0 _).fr
  obtain ⟨q, hq⟩ : ∃ q, q = skipWS s := ⟨_, rfl⟩
  rw [← hq] at hrun HSK HPV HR k2 f2 hql
  obtain ⟨t, ht⟩ : ∃ t, t = bStr s := ⟨_, rfl⟩
  rw [← ht] at HSK ⊢
  obtain ⟨u, hu⟩ : ∃ u, u = bStr q := ⟨_, rfl⟩
  rw [← hu] at hrun HSK HPV
  have HU := Aside0.mk hu
  have HQL : Aside0 (q.length ≤ 900000000000) := ⟨by omega⟩
  have HW0 : Aside0 (w.heap.size ≤ w1.heap.size) := ⟨hb.size⟩
  obtain ⟨n, hn⟩ : ∃ n, n = q.length := ⟨_, rfl⟩
  rw [← hn] at hrun HR k2 f2
  have K2 := Aside0.mk (And.intro k2 f2)
  have HRun := Aside0.mk hrun
  clear hrun hT hr hC hq ht hu hn hb k2 f2 hs hql hc1 hc2
  go_enter Tryz.func44, Tryz.ntmps44
  go_wp2_with fail
  refine HSK.out.mono ?_
  rintro e w0 ⟨rfl, rfl⟩
  go_wp2_with ((with_reducible refine at_bi (b := .append) (xs := #[.tmp 16, .tmp 17]) rfl ?_); at_builtin; refine wpList_append_run rfl (.tmp 16) (.tmp 17) 30 9 rfl _ _ _ rfl rfl HRun.out ?_)
  refine (creset_any _ _ K2.out.1 K2.out.2).mono ?_
  rintro e w3 ⟨rfl, rfl⟩
  obtain ⟨W3, hW3⟩ : ∃ W3, W3 = (w1.setCell ⟨pb, 0, none⟩ (.slice A n c)).setCell ⟨pb, 1, none⟩ (.slice none 0 0) := ⟨_, rfl⟩
  have k3 : W3.cell? ⟨pb, 0, none⟩ = some (.slice A n c) := by rw [hW3, World.cell?_setCell_other _ ⟨pb, 1, none⟩ ⟨pb, 0, none⟩ _ (by simp)]; exact World.cell?_setCell_same w1 ⟨pb, 0, none⟩ _ k1
  have HSZ : Aside0 (w.heap.size ≤ W3.heap.size) := ⟨by rw [← hW3] at HR; exact HR.out.upd.size⟩
  rw [← hW3] at HR ⊢
  have HD := Aside0.mk (HR.out.on (Below.refl W3.heap.size W3).drew)
  clear hW3 K2 HRun k1 f1 k0 f0
  go_wp2
  go_region_law (go_simp; first | (go_at_call 45; refine (b2s_any _ A n c q HD.out.text).mono ?_; rw [← HU.out]; rintro e w4 ⟨rfl, rfl⟩) | (go_at_call 52; refine (HPV.out _ _ HD.out.cache).mono ?_; rintro e w4 ⟨⟨a, g, rfl⟩, hU⟩))
  all_goals
    have HU4 : Aside0 (Upd w w4 (fun b o => b = pb)) := ⟨HD.out.upd.trans hU (fun _ _ _ h => h) (fun _ _ _ h => h)⟩
    clear hU k3
    go_wp2_with fail
    refine (errNew_b _ _).mono ?_
    rintro e w5 ⟨rfl, hE⟩
    have HE := Aside0.mk (HU4.out.trans (Upd.of_below hE (fun _ _ => False)) (fun _ _ _ h => h) (fun _ _ _ h => h.elim))
    clear hE
    go_wp2
    go_ret2
    exact ⟨HE.out, _, rfl⟩
set_option maxHeartbeats 4000000 in
theorem parse_tail (s : Bs) (w : World) (pb : Nat) (v : JV) (r r2 : Bs) (c0 : UInt8) (hs : s.length ≤ 900000000000) (hC : Cache w pb none 0 0) (k0 : w.cell? ⟨pb, 0, none⟩ = some (.slice none 0 0)) (f0 : w.frozen? ⟨pb, 0, none⟩ = false) (hr : pVal (2 * (skipWS s).length + 2) 0 (skipWS s) = some (v, r)) (ht2 : skipWS r = c0 :: r2) :
    Calls Tryz.prog 44 #[.pointer (some ⟨pb, 0, none⟩), .string (bStr s)] w (PRes w pb none) := by
  have hql : (skipWS s).length ≤ s.length := skip_len s
  obtain ⟨A, c, w1, hrun, hc1, hc2, hb, hT⟩ := app_text w 30 (skipWS s) (by omega)
  have HSK := Aside0.mk (skipWS_any s w (by omega))
  have HPV := Aside0.mk (pv_yes (skipWS s) r v (by omega) hr)
  have HR := Aside0.mk (ready_of (c := c) hC hb (.slice A (skipWS s).length c) hT)
  have hlt := blkT_lt hC.ty
  have k1 : w1.cell? ⟨pb, 0, none⟩ = some (.slice none 0 0) := (hb.cell (p := ⟨pb, 0, none⟩) hlt).trans k0
  have f1 : w1.frozen? ⟨pb, 0, none⟩ = false := (hb.frozen (p := ⟨pb, 0, none⟩) hlt).trans f0
  have k2 : (w1.setCell ⟨pb, 0, none⟩ (.slice A (skipWS s).length c)).cell? ⟨pb, 1, none⟩ = some (.slice none 0 0) := ((hC.on hb).set0 _).vs
  have f2 : (w1.setCell ⟨pb, 0, none⟩ (.slice A (skipWS s).length c)).frozen? ⟨pb, 1, none⟩ = false := ((hC.on hb).set0 _).fr
  obtain ⟨q, hq⟩ : ∃ q, q = skipWS s := ⟨_, rfl⟩
  rw [← hq] at hrun HSK HPV HR k2 f2 hql
  obtain ⟨t, ht⟩ : ∃ t, t = bStr s := ⟨_, rfl⟩
  rw [← ht] at HSK ⊢
  obtain ⟨u, hu⟩ : ∃ u, u = bStr q := ⟨_, rfl⟩
  rw [← hu] at hrun HSK HPV
  have HU := Aside0.mk hu
  have HQL : Aside0 (q.length ≤ 900000000000) := ⟨by omega⟩
  have HW0 : Aside0 (w.heap.size ≤ w1.heap.size) := ⟨hb.size⟩
  obtain ⟨n, hn⟩ : ∃ n, n = q.length := ⟨_, rfl⟩
  rw [← hn] at hrun HR k2 f2
  have K2 := Aside0.mk (And.intro k2 f2)
  have HRun := Aside0.mk hrun
  clear hrun hT hr hC hq ht hu hn hb k2 f2 hs hql hc1 hc2
  have T := tcons c0 r2
  obtain ⟨t2, ht3⟩ : ∃ t, t = bStr (c0 :: r2) := ⟨_, rfl⟩
  have HEQ : Aside0 (bStr (skipWS r) = t2) := ⟨by rw [ht3, ht2]⟩
  rw [← ht3] at T
  obtain ⟨-, tp, tn, tz, t0, tt⟩ := T
  clear ht2 ht3 tt t0
  go_enter Tryz.func44, Tryz.ntmps44
  go_wp2_with fail
  refine HSK.out.mono ?_
  rintro e w0 ⟨rfl, rfl⟩
  go_wp2_with ((with_reducible refine at_bi (b := .append) (xs := #[.tmp 16, .tmp 17]) rfl ?_); at_builtin; refine wpList_append_run rfl (.tmp 16) (.tmp 17) 30 9 rfl _ _ _ rfl rfl HRun.out ?_)
  refine (creset_any _ _ K2.out.1 K2.out.2).mono ?_
  rintro e w3 ⟨rfl, rfl⟩
  obtain ⟨W3, hW3⟩ : ∃ W3, W3 = (w1.setCell ⟨pb, 0, none⟩ (.slice A n c)).setCell ⟨pb, 1, none⟩ (.slice none 0 0) := ⟨_, rfl⟩
  have k3 : W3.cell? ⟨pb, 0, none⟩ = some (.slice A n c) := by rw [hW3, World.cell?_setCell_other _ ⟨pb, 1, none⟩ ⟨pb, 0, none⟩ _ (by simp)]; exact World.cell?_setCell_same w1 ⟨pb, 0, none⟩ _ k1
  have HSZ : Aside0 (w.heap.size ≤ W3.heap.size) := ⟨by rw [← hW3] at HR; exact HR.out.upd.size⟩
  rw [← hW3] at HR ⊢
  have HD := Aside0.mk (HR.out.on (Below.refl W3.heap.size W3).drew)
  clear hW3 K2 HRun k1 f1 k0 f0
  go_wp2
  go_region_law (go_simp; first | (go_at_call 45; refine (b2s_any _ A n c q HD.out.text).mono ?_; rw [← HU.out]; rintro e w4 ⟨rfl, rfl⟩) | (go_at_call 52; refine (HPV.out _ _ HD.out.cache).mono ?_; rintro e w4 ⟨⟨vb, vo, rfl, hTr⟩, hU, hrl⟩))
  all_goals
    have HU4 : Aside0 (Upd w w4 (fun b o => b = pb)) := ⟨HD.out.upd.trans hU (fun _ _ _ h => h) (fun _ _ _ h => h)⟩
    have HT4 : Aside0 (TreeAt w4 (fun b o => w.heap.size ≤ b ∧ b < w4.heap.size) vb vo v) := ⟨hTr.mono (fun b o hh => ⟨Nat.le_trans HSZ.out hh.1, hh.2⟩) (fun _ _ _ => rfl) (fun _ _ _ _ h => h)⟩
    have HSK2 := Aside0.mk (skipWS_any r w4 (by have := HQL.out; omega))
    rw [HEQ.out] at HSK2
    clear hU k3 hTr hrl
    go_wp2_with fail
    refine HSK2.out.mono ?_
    rintro e w5 ⟨rfl, rfl⟩
    go_wp2_with fail
    refine (errNew_b _ _).mono ?_
    rintro e w6 ⟨rfl, hE⟩
    have HE := Aside0.mk (HU4.out.trans (Upd.of_below hE (fun _ _ => False)) (fun _ _ _ h => h) (fun _ _ _ h => h.elim))
    clear hE
    go_wp2
    go_ret2
    exact ⟨HE.out, _, rfl⟩
set_option maxHeartbeats 4000000 in
theorem parse_yes (s : Bs) (w : World) (pb : Nat) (v : JV) (r : Bs) (hs : s.length ≤ 900000000000) (hC : Cache w pb none 0 0) (k0 : w.cell? ⟨pb, 0, none⟩ = some (.slice none 0 0)) (f0 : w.frozen? ⟨pb, 0, none⟩ = false) (hr : pVal (2 * (skipWS s).length + 2) 0 (skipWS s) = some (v, r)) (ht2 : skipWS r = []) :
    Calls Tryz.prog 44 #[.pointer (some ⟨pb, 0, none⟩), .string (bStr s)] w (PRes w pb (some v)) := by
  have hql : (skipWS s).length ≤ s.length := skip_len s
  obtain ⟨A, c, w1, hrun, hc1, hc2, hb, hT⟩ := app_text w 30 (skipWS s) (by omega)
  have HSK := Aside0.mk (skipWS_any s w (by omega))
  have HPV := Aside0.mk (pv_yes (skipWS s) r v (by omega) hr)
  have HR := Aside0.mk (ready_of (c := c) hC hb (.slice A (skipWS s).length c) hT)
  have hlt := blkT_lt hC.ty
  have k1 : w1.cell? ⟨pb, 0, none⟩ = some (.slice none 0 0) := (hb.cell (p := ⟨pb, 0, none⟩) hlt).trans k0
  have f1 : w1.frozen? ⟨pb, 0, none⟩ = false := (hb.frozen (p := ⟨pb, 0, none⟩) hlt).trans f0
  have k2 : (w1.setCell ⟨pb, 0, none⟩ (.slice A (skipWS s).length c)).cell? ⟨pb, 1, none⟩ = some (.slice none 0 0) := ((hC.on hb).set0 _).vs
  have f2 : (w1.setCell ⟨pb, 0, none⟩ (.slice A (skipWS s).length c)).frozen? ⟨pb, 1, none⟩ = false := ((hC.on hb).set0 _).fr
  obtain ⟨q, hq⟩ : ∃ q, q = skipWS s := ⟨_, rfl⟩
  rw [← hq] at hrun HSK HPV HR k2 f2 hql
  obtain ⟨t, ht⟩ : ∃ t, t = bStr s := ⟨_, rfl⟩
  rw [← ht] at HSK ⊢
  obtain ⟨u, hu⟩ : ∃ u, u = bStr q := ⟨_, rfl⟩
  rw [← hu] at hrun HSK HPV
  have HU := Aside0.mk hu
  have HQL : Aside0 (q.length ≤ 900000000000) := ⟨by omega⟩
  have HW0 : Aside0 (w.heap.size ≤ w1.heap.size) := ⟨hb.size⟩
  obtain ⟨n, hn⟩ : ∃ n, n = q.length := ⟨_, rfl⟩
  rw [← hn] at hrun HR k2 f2
  have K2 := Aside0.mk (And.intro k2 f2)
  have HRun := Aside0.mk hrun
  clear hrun hT hr hC hq ht hu hn hb k2 f2 hs hql hc1 hc2
  have HEQ : Aside0 (bStr (skipWS r) = ByteArray.empty) := ⟨by rw [ht2]; exact bStr_nil⟩
  clear ht2
  go_enter Tryz.func44, Tryz.ntmps44
  go_wp2_with fail
  refine HSK.out.mono ?_
  rintro e w0 ⟨rfl, rfl⟩
  go_wp2_with ((with_reducible refine at_bi (b := .append) (xs := #[.tmp 16, .tmp 17]) rfl ?_); at_builtin; refine wpList_append_run rfl (.tmp 16) (.tmp 17) 30 9 rfl _ _ _ rfl rfl HRun.out ?_)
  refine (creset_any _ _ K2.out.1 K2.out.2).mono ?_
  rintro e w3 ⟨rfl, rfl⟩
  obtain ⟨W3, hW3⟩ : ∃ W3, W3 = (w1.setCell ⟨pb, 0, none⟩ (.slice A n c)).setCell ⟨pb, 1, none⟩ (.slice none 0 0) := ⟨_, rfl⟩
  have k3 : W3.cell? ⟨pb, 0, none⟩ = some (.slice A n c) := by rw [hW3, World.cell?_setCell_other _ ⟨pb, 1, none⟩ ⟨pb, 0, none⟩ _ (by simp)]; exact World.cell?_setCell_same w1 ⟨pb, 0, none⟩ _ k1
  have HSZ : Aside0 (w.heap.size ≤ W3.heap.size) := ⟨by rw [← hW3] at HR; exact HR.out.upd.size⟩
  rw [← hW3] at HR ⊢
  have HD := Aside0.mk (HR.out.on (Below.refl W3.heap.size W3).drew)
  clear hW3 K2 HRun k1 f1 k0 f0
  go_wp2
  go_region_law (go_simp; first | (go_at_call 45; refine (b2s_any _ A n c q HD.out.text).mono ?_; rw [← HU.out]; rintro e w4 ⟨rfl, rfl⟩) | (go_at_call 52; refine (HPV.out _ _ HD.out.cache).mono ?_; rintro e w4 ⟨⟨vb, vo, rfl, hTr⟩, hU, hrl⟩))
  all_goals
    have HU4 : Aside0 (Upd w w4 (fun b o => b = pb)) := ⟨HD.out.upd.trans hU (fun _ _ _ h => h) (fun _ _ _ h => h)⟩
    have HT4 : Aside0 (TreeAt w4 (fun b o => w.heap.size ≤ b ∧ b < w4.heap.size) vb vo v) := ⟨hTr.mono (fun b o hh => ⟨Nat.le_trans HSZ.out hh.1, hh.2⟩) (fun _ _ _ => rfl) (fun _ _ _ _ h => h)⟩
    have HSK2 := Aside0.mk (skipWS_any r w4 (by have := HQL.out; omega))
    rw [HEQ.out] at HSK2
    clear hU k3 hTr hrl
    go_wp2_with fail
    refine HSK2.out.mono ?_
    rintro e w5 ⟨rfl, rfl⟩
    go_wp2
    go_ret2
    exact ⟨HU4.out, _, _, rfl, HT4.out⟩
theorem parse_any (s : Bs) (w : World) (pb : Nat) (hs : s.length ≤ 900000000000) (hC : Cache w pb none 0 0) (k0 : w.cell? ⟨pb, 0, none⟩ = some (.slice none 0 0)) (f0 : w.frozen? ⟨pb, 0, none⟩ = false) :
    Calls Tryz.prog 44 #[.pointer (some ⟨pb, 0, none⟩), .string (bStr s)] w (PRes w pb (pTop s)) := by
  unfold pTop
  cases hr : pVal (2 * (skipWS s).length + 2) 0 (skipWS s) with
  | none => exact parse_no s w pb hs hC k0 f0 hr
  | some p =>
    obtain ⟨v, r⟩ := p
    cases ht : skipWS r with
    | nil =>
      have := parse_yes s w pb v r hs hC k0 f0 hr ht
      simpa [ht] using this
    | cons c0 r2 =>
      have := parse_tail s w pb v r r2 c0 hs hC k0 f0 hr ht
      simpa [ht] using this
end Go.Proofs.YtgldcjmdjhghpaaGreatDoor
namespace Go.Proofs.YtgldcjmdjhghpaaGreatDoor
open Go.RowKit Go.Proofs.YtgldcjmdjhghpaaGreatDoorW.PrintWords Go.ChangeShapes Go.WideShapes
set_option linter.unusedVariables false
set_option linter.unusedSimpArgs false
set_option maxRecDepth 100000
/-- An empty literal, as a row. -/
theorem emptyRowH (w : World) : Hold w w.heap.size (w.alloc (.cells #[] 5)) [.row kB 5 (.slice (some ⟨w.heap.size, 0, none⟩) 0 0) []] :=
  ((Hold.start w).alloc (.cells #[] 5)).toRow 0 (d := kB) (n := 0) (c := 0) (xs := []) rfl (Reps.none _ _) rfl (Nat.le_refl _) (Nat.zero_le _) rfl
set_option maxHeartbeats 1000000 in
theorem bcloneH_any (w : World) (A : Option Addr) (n c : Nat) (xs : List UInt8) (hn : n ≤ 140737488355328) (hC : kB.C w A n xs) :
    Calls Tryz.prog 9 #[.slice A n c] w fun e w' => ∃ v, e = .returned v ∧ Hold w w.heap.size w' [.row kB 5 v xs] := by
  cases A with
  | none =>
    have hx : xs = [] := by
      rcases Nat.eq_zero_or_pos n with h | h
      · exact List.eq_nil_of_length_eq_zero (hC.1.trans h)
      · obtain ⟨ad, e, _⟩ := hC.2.2 h
        cases e
    have hnil0 := fun W : World => Lib.run_eql_slice_nil (P := Tryz.prog) W 30 5 none n c 0 0 Tryz.underlying30
    have HX := Aside0.mk hx
    clear hx hC
    go_enter Tryz.func9, Tryz.ntmps9
    go_wp2
    go_ret
    rw [HX.out]
    exact ⟨_, rfl, (Hold.start w).nil _ _⟩
  | some ad =>
    have hnil := fun W : World => Lib.run_eql_slice_nil (P := Tryz.prog) W 30 5 (some ad) n c 0 0 Tryz.underlying30
    have H0 := Aside0.mk (emptyRowH w)
    have HC := Aside0.mk hC
    have Hl : Aside0 ((([] : List UInt8).length + n) * 1 ≤ 140737488355328) := ⟨by simp; omega⟩
    clear hC
    go_enter Tryz.func9, Tryz.ntmps9
    go_wp2_with ((with_reducible refine at_bi (b := .append) (xs := #[.tmp 5, .tmp 6]) rfl ?_); at_builtin; refine Hold.appendRow 0 H0.out rfl rfl (.tmp 5) (.tmp 6) 30 (.int .u8 0) 1 rfl Tryz.underlying30 info5 rfl (by omega) (some ad) (n) (c) rfl rfl (Kd.C_below HC.out H0.out.below) Hl.out ?_; intro _ _ H1'; have H1 := Aside0.mk H1'; clear H1' H0)
    go_ret
    exact ⟨_, rfl, H1.out⟩
theorem parseBytes_any (s : Bs) (w : World) (pb n c : Nat) (A : Option Addr) (hs : s.length ≤ 900000000000) (hC : Cache w pb none 0 0) (k0 : w.cell? ⟨pb, 0, none⟩ = some (.slice none 0 0)) (f0 : w.frozen? ⟨pb, 0, none⟩ = false) (hT : kB.C w A n s) :
    Calls Tryz.prog 35 #[.pointer (some ⟨pb, 0, none⟩), .slice A n c] w (PRes w pb (pTop s)) := by
  have HP := Aside0.mk (parse_any s w pb hs hC k0 f0)
  have HB := Aside0.mk (b2s_any w A n c s hT)
  obtain ⟨res, hres⟩ : ∃ res, res = pTop s := ⟨_, rfl⟩
  obtain ⟨t, ht⟩ : ∃ t, t = bStr s := ⟨_, rfl⟩
  rw [← hres] at HP ⊢
  rw [← ht] at HP HB
  clear hC k0 f0 hT hs hres ht
  go_enter Tryz.func35, Tryz.ntmps35
  go_wp2_with fail
  refine HB.out.mono ?_
  rintro e w1 ⟨rfl, rfl⟩
  go_wp2_with fail
  refine HP.out.mono ?_
  cases res with
  | none =>
    rintro e w2 ⟨hU, g, rfl⟩
    have HU := Aside0.mk hU
    clear hU
    go_wp2
    go_ret2
    exact ⟨HU.out, g, rfl⟩
  | some v =>
    rintro e w2 ⟨hU, b, o, rfl, hT⟩
    have HU := Aside0.mk hU
    have HT := Aside0.mk hT
    clear hU hT
    go_wp2
    go_ret2
    exact ⟨HU.out, b, o, rfl, HT.out⟩
/-- A header in memory: the tree that was read, or an error. -/
def HdrAt (B : Nat) (w : World) (g : Nat) : Option JV → Prop
  | some v => ∃ b o, w.heap[g]? = some (.cells #[.pointer (some ⟨b, o, none⟩), .nilIface] 93) ∧ TreeAt w (fun b o => B ≤ b ∧ b < w.heap.size) b o v
  | none => ∃ k, w.heap[g]? = some (.cells #[.pointer none, errP k] 93)
def hdrV (g : Nat) : Value := .iface 91 (.pointer (some ⟨g, 0, none⟩))
theorem TreeAt.on {w w' : World} {B b o : Nat} {v : JV} (h : TreeAt w (fun b o => B ≤ b ∧ b < w.heap.size) b o v) (hb : Below w.heap.size w w') : TreeAt w' (fun b o => B ≤ b ∧ b < w'.heap.size) b o v :=
  (h.upd (Upd.of_below hb (fun _ _ => False)) (fun b o hh => hh.2) (fun _ _ _ hh => hh)).mono (fun b o hh => ⟨hh.1, Nat.lt_of_lt_of_le hh.2 hb.size⟩) (fun _ _ _ => rfl) (fun _ _ _ _ hT => hT)
theorem hparse_any (s : Bs) (w : World) (n c : Nat) (A : Option Addr) (hs : s.length ≤ 900000000000) (hT : kB.C w A n s) :
    Calls Tryz.prog 33 #[.slice A n c] w fun e w' => ∃ g, e = .returned (hdrV g) ∧ Below w.heap.size w w' ∧ HdrAt w.heap.size w' g (pTop s) := by
  obtain ⟨W, hW⟩ : ∃ W, W = w.alloc (.cells #[.slice none 0 0, .slice none 0 0] 83) := ⟨_, rfl⟩
  have hat : W.heap[w.heap.size]? = some (.cells #[.slice none 0 0, .slice none 0 0] 83) := by rw [hW]; exact blk_new w _
  have hc : Cache W w.heap.size none 0 0 := ⟨⟨_, hat⟩, by rw [cell_of hat]; rfl, frozen_of hat _, Nat.le_refl _, Nat.zero_le _, fun _ => ⟨rfl, rfl⟩, fun g e => by cases e⟩
  have hb : Below w.heap.size w W := by rw [hW]; exact (Below.refl _ _).alloc (Nat.le_refl _) _
  have HP := Aside0.mk (parseBytes_any s W w.heap.size n c A hs hc (by rw [cell_of hat]; rfl) (frozen_of hat _) (Kd.C_below hT hb))
  have HS : Aside0 (w.heap.size < W.heap.size) := ⟨(Array.getElem?_eq_some_iff.1 hat).1⟩
  obtain ⟨res, hres⟩ : ∃ res, res = pTop s := ⟨_, rfl⟩
  rw [← hres] at HP ⊢
  have HB0 := Aside0.mk hb
  have HW := Aside0.mk hW
  clear hc hat hb hT hs hres hW
  go_enter Tryz.func33, Tryz.ntmps33
  go_wp2_with fail
  rw [← HW.out]
  refine HP.out.mono ?_
  cases res with
  | none =>
    rintro e w2 ⟨hU, g, rfl⟩
    unfold errP
    have HU := Aside0.mk (HB0.out.trans (hU.below w.heap.size (Nat.le_of_lt HS.out) (fun b o hb hh => by omega)))
    clear hU
    go_wp2
    go_ret
    exact ⟨_, rfl, HU.out.alloc HU.out.size _, _, blk_new w2 _⟩
  | some v =>
    rintro e w2 ⟨hU, b, o, rfl, hT⟩
    have HU := Aside0.mk (HB0.out.trans (hU.below w.heap.size (Nat.le_of_lt HS.out) (fun b o hb hh => by omega)))
    have HT := Aside0.mk hT
    clear hU hT
    go_wp2
    go_ret
    refine ⟨_, rfl, HU.out.alloc HU.out.size _, b, o, blk_new w2 _, ?_⟩
    exact (HT.out.mono (S' := fun b o => w.heap.size ≤ b ∧ b < w2.heap.size) (fun b o hh => ⟨by have := HS.out; omega, hh.2⟩) (fun _ _ _ => rfl) (fun _ _ _ _ h => h)).on ((Below.refl w2.heap.size w2).alloc (Nat.le_refl _) _)
theorem head_any (s : Bs) (w : World) (n c : Nat) (A : Option Addr) (hs : s.length ≤ 900000000000) (hn : n ≤ 900000000000) (hT : kB.C w A n s) :
    Calls Tryz.prog 20 #[.slice A n c] w fun e w' => ∃ g, e = .returned (hdrV g) ∧ Below w.heap.size w w' ∧ HdrAt w.heap.size w' g (pTop s) := by
  have HC := Aside0.mk (bcloneH_any w A n c s (by omega) hT)
  have HP := Aside0.mk (fun (w1 : World) (A1 : Option Addr) (c1 : Nat) (h : kB.C w1 A1 s.length s) => hparse_any s w1 s.length c1 A1 hs h)
  obtain ⟨res, hres⟩ : ∃ res, res = pTop s := ⟨_, rfl⟩
  rw [← hres] at HP ⊢
  clear hT hs hn hres
  go_enter Tryz.func20, Tryz.ntmps20
  go_wp2_with fail
  refine HC.out.mono ?_
  rintro e w1 ⟨v, rfl, hH⟩
  obtain ⟨A1, c1, rfl, _, hC1⟩ := hH.reads 0 rfl
  have HB := Aside0.mk hH.below
  have HC1 := Aside0.mk hC1
  clear hH hC1
  go_wp2_with fail
  refine (HP.out _ _ _ HC1.out).mono ?_
  rintro e w2 ⟨g, rfl, hb, hd⟩
  have HE := Aside0.mk (And.intro hb hd)
  clear hb hd
  go_wp2
  go_ret
  refine ⟨g, rfl, HB.out.trans (HE.out.1.mono HB.out.size), ?_⟩
  have hs := HB.out.size
  cases res with
  | none => exact HE.out.2
  | some v =>
    obtain ⟨b, o, h1, h2⟩ := HE.out.2
    exact ⟨b, o, h1, h2.mono (fun b o hh => ⟨by have := hh.1; omega, hh.2⟩) (fun _ _ _ => rfl) (fun _ _ _ _ h => h)⟩
end Go.Proofs.YtgldcjmdjhghpaaGreatDoor
