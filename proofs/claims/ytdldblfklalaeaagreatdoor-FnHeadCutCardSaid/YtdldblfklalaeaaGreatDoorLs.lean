/-
  jwsbb.HeaderGetStringArray, impl.HeadList: their contracts.
-/
import Derived.Test.YtdldblfklalaeaaGreatDoorFz
import Derived.Deep.DeepCutAuto
import Derived.Deep.CutBlock
namespace Go.Proofs.YtdldblfklalaeaaGreatDoor
open Go.RowKit Go.Proofs.YtdldblfklalaeaaGreatDoorW.PrintWords Go.ChangeShapes Go.WideShapes
set_option linter.unusedVariables false
set_option linter.unusedSimpArgs false
set_option maxRecDepth 100000
/-- A text among the items of a list. -/
def strB : JV → ByteArray
  | .str raw => bStr (unesc raw)
  | _ => ByteArray.empty
def isStr : JV → Bool
  | .str _ => true
  | _ => false
/-- The list that a name finds. -/
def listT (t : Option JV) (key : Bs) : Option (List ByteArray) :=
  match tGet t key with
  | some (.arr xs) => if xs.all isStr = true then some (xs.map strB) else none
  | _ => none
/-- A row of texts that is being filled. -/
structure RowS (w : World) (g : Nat) (ss : List ByteArray) (k : Nat) : Prop where
  ty : blkT w g 9
  any : ∀ j, j < ss.length → ∃ v, w.cell? ⟨g, j, none⟩ = some v
  done : ∀ j s, j < k → ss[j]? = some s → w.cell? ⟨g, j, none⟩ = some (.string s)
theorem row_blk {w0 w : World} {B e i : Nat} {L : List Asrt} {α : Type} {d : Kd α} {v : Value} {xs : List α} (hS : Hold w0 B w L) (hi : L[i]? = some (.row d e v xs)) (hne : 0 < xs.length) :
    ∃ g c, v = .slice (some ⟨g, 0, none⟩) xs.length c ∧ xs.length ≤ c ∧ B ≤ g ∧ blkT w g e := by
  obtain ⟨f, hp, hb⟩ := hS.get i hi
  obtain ⟨h0, inner, ho, hr⟩ := hp
  rcases ho.2 with ⟨_, hn⟩ | ⟨g, cap, cur, rfl, _, hh, hnc, hcm, hcs, htake⟩
  · omega
  · have hg := hb g (h0 g (by simp [Value.ownBlock]))
    exact ⟨g, cap, rfl, hnc, hg.1, ⟨_, hh⟩⟩
/-- Where the reading of a list stands. -/
structure ArrLp (B : Nat) (w : World) (A : Option Addr) (ps : List (Nat × Nat)) (xs : List JV) (g : Nat) (k : Nat) (wr : World) : Prop where
  row : RowS wr g (xs.map strB) k
  ge : B ≤ g
  size : B ≤ wr.heap.size
  leaf : ∀ (i : Nat) (q : Nat × Nat) (x : JV), ps[i]? = some q → xs[i]? = some x → Leaf wr B q.1 q.2 x
  pts : ∃ gA, A = some ⟨gA, 0, none⟩ ∧ blkT wr gA 122 ∧ ∀ (i : Nat) (q : Nat × Nat), ps[i]? = some q → wr.cell? ⟨gA, i, none⟩ = some (ptr q)
  str : ∀ i x, i < k → xs[i]? = some x → isStr x = true
  below : Below B w wr
theorem ArrLp.step {B : Nat} {w : World} {A : Option Addr} {ps : List (Nat × Nat)} {xs : List JV} {g k : Nat} {wr w2 : World} {q : Nat × Nat} {raw : Bs} (h : ArrLp B w A ps xs g k wr) (hx : xs[k]? = some (.str raw)) (hT : blkT wr q.1 174) (al : q.2 % 5 = 0)
    (hs : StrAt wr q.1 q.2 raw) (hd : StrDone w2 q.1 q.2 raw) (hu : Upd wr w2 (TxtCells q.1 q.2)) (hB : B ≤ q.1) : ArrLp B w A ps xs g (k + 1) (w2.setCell ⟨g, k, none⟩ (.string (bStr (unesc raw)))) := by
  have hgq : g ≠ q.1 := fun e => by
    have := blkT_uniq (e ▸ h.row.ty) hT
    exact absurd this (by decide)
  have ty2 : blkT w2 g 9 := hu.blkT 0 (fun hh => hgq hh.1) h.row.ty
  have hcal : Calm w2 (w2.setCell ⟨g, k, none⟩ (.string (bStr (unesc raw)))) (fun b o => b = g ∧ o = k) := ⟨Upd.setCell w2 g k _ ⟨rfl, rfl⟩, fun b o j hb _ _ _ hh => by
    obtain rfl : b = g := hh.1
    exact absurd (blkT_uniq hb ty2) (by decide), fun b o hb hh => by
    obtain rfl : b = g := hh.1
    exact absurd (blkT_uniq hb ty2) (by decide)⟩
  have hcell : ∀ j v, wr.cell? ⟨g, j, none⟩ = some v → w2.cell? ⟨g, j, none⟩ = some v := fun j v hv => (hu.cell g j (blkT_lt h.row.ty) (fun hh => hgq hh.1)).trans hv
  have hkl : k < (xs.map strB).length := by
    rw [List.length_map]
    exact (List.getElem?_eq_some_iff.1 hx).1
  have hset : ∀ j, j ≠ k → (w2.setCell ⟨g, k, none⟩ (.string (bStr (unesc raw)))).cell? ⟨g, j, none⟩ = w2.cell? ⟨g, j, none⟩ := fun j hj => World.cell?_setCell_other _ ⟨g, k, none⟩ ⟨g, j, none⟩ _ (fun e => hj (by injection e with _ e2; exact e2.symm))
  obtain ⟨v0, hv0⟩ := h.row.any k hkl
  have hsame := World.cell?_setCell_same w2 ⟨g, k, none⟩ (.string (bStr (unesc raw))) (hcell k v0 hv0)
  refine ⟨⟨hcal.upd.blkT (k + 1) (fun hh => by have := hh.2; omega) ty2, fun j hj => ?_, fun j s hj hsj => ?_⟩, h.ge, Nat.le_trans h.size (Nat.le_trans hu.size hcal.upd.size), fun i q' x' hq hx' => ?_, ?_, fun i x' hi hx' => ?_, ?_⟩
  · by_cases hjk : j = k
    · subst hjk; exact ⟨_, hsame⟩
    · obtain ⟨v, hv⟩ := h.row.any j hj
      exact ⟨v, (hset j hjk).trans (hcell j v hv)⟩
  · by_cases hjk : j = k
    · subst hjk
      rw [List.getElem?_map, hx] at hsj
      injection hsj with hsj
      subst hsj
      exact hsame
    · exact (hset j hjk).trans (hcell j _ (h.row.done j s (by omega) hsj))
  · exact Leaf.calm hcal (Leaf.read hT al hs hd hu (h.leaf i q' x' hq hx'))
  · obtain ⟨gA, e, hgA, hp⟩ := h.pts
    have hne : gA ≠ q.1 := fun e => absurd (blkT_uniq (e ▸ hgA) hT) (by decide)
    have hne2 : gA ≠ g := fun e => absurd (blkT_uniq (e ▸ hgA) h.row.ty) (by decide)
    have hgA2 : blkT w2 gA 122 := hu.blkT 0 (fun hh => hne hh.1) hgA
    exact ⟨gA, e, hcal.blkP hgA2, fun i q' hq => ((World.cell?_setCell_other _ ⟨g, k, none⟩ ⟨gA, i, none⟩ _ (fun e => hne2 (by injection e with e1 _; exact e1.symm))).trans (hu.cell gA i (blkT_lt hgA) (fun hh => hne hh.1))).trans (hp i q' hq)⟩
  · by_cases hik : i = k
    · subst hik
      rw [hx] at hx'
      injection hx' with hx'
      subst hx'
      rfl
    · exact h.str i x' (by omega) hx'
  · exact (h.below.trans (hu.below B h.size (fun b' o' hb' hh => by have := hh.1; omega))).trans (hcal.upd.below B (Nat.le_trans h.size hu.size) (fun b' o' hb' hh => by have := hh.1; have := h.ge; omega))
theorem ArrLp.C {B : Nat} {w : World} {A : Option Addr} {ps : List (Nat × Nat)} {xs : List JV} {g : Nat} {wr : World} (h : ArrLp B w A ps xs g xs.length wr) (hm : xs.length ≤ 9223372036854775807) : xs.all isStr = true ∧ Kd.string.C wr (some ⟨g, 0, none⟩) xs.length (xs.map strB) := by
  refine ⟨List.all_eq_true.2 fun x hx => ?_, by simp, by simpa using hm, fun _ => ⟨_, rfl, fun j p hj => ?_⟩⟩
  · obtain ⟨i, hi, rfl⟩ := List.getElem_of_mem hx
    exact h.str i _ hi (List.getElem?_eq_getElem hi)
  · have hjl : j < xs.length := by
      have := (List.getElem?_eq_some_iff.1 hj).1
      simpa using this
    refine ⟨[.string p], rfl, rfl, fun i u hu => ?_⟩
    cases i with
    | zero =>
      have hu' : Value.string p = u := by simpa using hu
      subst hu'
      have := h.row.done j p hjl hj
      simp [Kd.string, Kd.scalar, Addr.add]
      split
      · next h0 => subst h0; exact this
      · exact this
    | succ i => simp at hu
def RetList (w' : World) (r : Option (List ByteArray)) (e : Ending) : Prop :=
  match r with
  | some ss => ∃ A c, e = .returned (.tuple #[.slice A ss.length c, .nilIface]) ∧ ss.length ≤ c ∧ Kd.string.C w' A ss.length ss
  | none => ∃ T x, e = .returned (.tuple #[.slice none 0 0, .iface T x])
theorem arrV_cases (v : JV) : (∃ xs, v = .arr xs) ∨ ∀ xs, v ≠ .arr xs := by
  cases v with
  | arr xs => exact .inl ⟨xs, rfl⟩
  | _ => exact .inr (fun _ h => by cases h)
theorem Leaf.kindA {w : World} {B b o : Nat} {v : JV} (h : Leaf w B b o v) (hv : ∀ xs, v ≠ .arr xs) : ∃ k : Int, (k = 0 ∨ k = 1 ∨ k = 3 ∨ k = 4 ∨ k = 5 ∨ k = 6 ∨ k = 7) ∧ w.cell? ⟨b, o + 4, none⟩ = some (.int .i64 k) := by
  cases h with
  | arr => exact absurd rfl (hv _)
  | str _ _ _ hS =>
    rcases hS with ⟨_, h4⟩ | ⟨_, h4⟩
    · exact ⟨7, by omega, h4⟩
    · exact ⟨3, by omega, h4⟩
  | num _ _ _ h4 => exact ⟨4, by omega, h4⟩
  | tru _ _ h4 => exact ⟨5, by omega, h4⟩
  | fls _ _ h4 => exact ⟨6, by omega, h4⟩
  | nul _ _ h4 => exact ⟨0, by omega, h4⟩
  | obj _ _ h4 => exact ⟨1, by omega, h4⟩
theorem ArrLp.start {B : Nat} {w w1 w2 : World} {A : Option Addr} {ps : List (Nat × Nat)} {xs : List JV} {v : Value} (hb : Below B w w1) (hB : B ≤ w1.heap.size) (hne : 0 < xs.length)
    (hS : Hold w1 w1.heap.size w2 [.row Kd.string 9 v (List.replicate xs.length ByteArray.empty)]) (hk : ∀ (i : Nat) (q : Nat × Nat) (x : JV), ps[i]? = some q → xs[i]? = some x → Leaf w1 B q.1 q.2 x)
    (hA : ∃ gA, A = some ⟨gA, 0, none⟩ ∧ blkT w1 gA 122 ∧ ∀ (i : Nat) (q : Nat × Nat), ps[i]? = some q → w1.cell? ⟨gA, i, none⟩ = some (ptr q)) :
    ∃ g c, v = .slice (some ⟨g, 0, none⟩) xs.length c ∧ xs.length ≤ c ∧ ArrLp B w A ps xs g 0 w2 := by
  obtain ⟨g, c, rfl, hle, hge, hty⟩ := row_blk hS (i := 0) rfl (by simpa using hne)
  simp only [List.length_replicate] at hle hS ⊢
  have hcal := Calm.of_below hS.below
  refine ⟨g, c, rfl, hle, ⟨hty, fun j hj => ?_, fun j s hj => absurd hj (Nat.not_lt_zero _)⟩, Nat.le_trans hB hge, Nat.le_trans hB hS.below.size, fun i q x hq hx => Leaf.calm hcal (hk i q x hq hx), ?_, fun i x hi => absurd hi (Nat.not_lt_zero _), hb.trans (hS.below.mono hB)⟩
  · exact ⟨_, hS.at1 0 rfl j (by simpa using hj)⟩
  · obtain ⟨gA, e, hg, hp⟩ := hA
    exact ⟨gA, e, hcal.blkP hg, fun i q hq => (hS.below.cell (p := ⟨gA, i, none⟩) (blkT_lt hg)).trans (hp i q hq)⟩
theorem ArrLp.room {B : Nat} {w : World} {A : Option Addr} {ps : List (Nat × Nat)} {xs : List JV} {g k : Nat} {wr w2 : World} {b o : Nat} (h : ArrLp B w A ps xs g k wr) (hk : k < xs.length) (hT : blkT wr b 174) (hu : Upd wr w2 (TxtCells b o)) :
    (∃ v, w2.cell? ⟨g, k, none⟩ = some v) ∧ w2.frozen? ⟨g, k, none⟩ = false := by
  have hgq : g ≠ b := fun e => absurd (blkT_uniq (e ▸ h.row.ty) hT) (by decide)
  obtain ⟨v, hv⟩ := h.row.any k (by rw [List.length_map]; exact hk)
  exact ⟨⟨v, (hu.cell g k (blkT_lt h.row.ty) (fun hh => hgq hh.1)).trans hv⟩, blkT_frozen (hu.blkT 0 (fun hh => hgq hh.1) h.row.ty) k⟩
set_option maxHeartbeats 4000000 in
theorem harr_any (w : World) (g B : Nat) (t : Option JV) (key : Bs) (hH : HdrAt B w g t) (hB : B ≤ w.heap.size) (hf : FitO t) :
    Calls Tryz.prog 65 #[hdrV g, .string (bStr key)] w fun e w' => RetList w' (listT t key) e ∧ Below B w w' := by
  have HG := Aside0.mk (hget_any w g B t key hH hB hf)
  have HSt : Aside0 (∀ r, r = tGet t key → listT t key = match r with | some (.arr xs) => (if xs.all isStr = true then some (xs.map strB) else none) | _ => none) := ⟨fun r hr => by rw [hr]; rfl⟩
  obtain ⟨r, hr⟩ : ∃ r, r = tGet t key := ⟨_, rfl⟩
  rw [← hr] at HG
  have HS := Aside0.mk (HSt.out r hr)
  obtain ⟨s, hs⟩ : ∃ s, s = listT t key := ⟨_, rfl⟩
  rw [← hs] at HS ⊢
  obtain ⟨k, hk⟩ : ∃ k, k = bStr key := ⟨_, rfl⟩
  rw [← hk] at HG ⊢
  have HB0 := Aside0.mk hB
  clear hH hf hr hk hB HSt hs
  go_enter Tryz.func65, Tryz.ntmps65
  go_wp2_with fail
  refine HG.out.mono ?_
  cases r with
  | none =>
    rintro e w1 ⟨⟨T, x, rfl⟩, hb⟩
    have HB := Aside0.mk hb
    obtain rfl : s = none := HS.out
    clear hb
    go_wp2
    go_ret2
    exact ⟨⟨_, _, rfl⟩, HB.out⟩
  | some v =>
    rintro e w1 ⟨⟨b, o, rfl, hL, hfv⟩, hb⟩
    rcases arrV_cases v with ⟨xs, rfl⟩ | hv
    · cases hL with
      | @arr _ _ A c ps _ hT al h4 h2 hl hc hm hA hk =>
        have HFv := Aside0.mk hfv
        have HB := Aside0.mk hb
        have hxl : xs.length ≤ 1000000000 := hfv.2
        have HY := Aside0.mk (varr_yes w1 b o A xs.length c h4 h2)
        have HBs : Aside0 (B ≤ w1.heap.size) := ⟨Nat.le_trans HB0.out hb.size⟩
        clear hb hfv h4 h2
        have H0 := Aside0.mk (Hold.start w1)
        go_wp2_with fail
        refine HY.out.mono ?_
        rintro e w2 ⟨rfl, rfl⟩
        go_wp2_with ((with_reducible refine at_dst (N := 33) rfl ?_); refine Hold.make (enc := Value.string) (h1 := fun _ => rfl) H0.out 9 rfl rfl 23 (.tmp 32) (.tmp 32) rfl ((xs.length : Int)) rfl rfl Tryz.underlying23 (ByteArray.empty) 16 info9 rfl (by omega) (by omega) (by simp; omega) ?_; intro v9 w2 H2'; have H2 := Aside0.mk H2'; clear H2' H0)
        have HZ : Aside0 (Hold w1 w1.heap.size w2 [.row Kd.string 9 v9 (List.replicate xs.length ByteArray.empty)]) := ⟨H2.out⟩
        clear H2
        by_cases hne : 0 < xs.length
        · obtain ⟨gr, cr, rfl, hcr, hlp⟩ := ArrLp.start HB.out HBs.out hne HZ.out hk (hA hne)
          have HLp := Aside0.mk hlp
          obtain ⟨gA, rfl, _, _⟩ := hA hne
          clear hlp hk hA HZ
          go_loopw [36] (fun i wr => ∃ k : Nat, k ≤ xs.length ∧ i = .int .i64 k ∧ ArrLp B w (some ⟨gA, 0, none⟩) ps xs gr k wr) (fun i _ => xs.length - (intOf i).toNat)
          case atStart => exact ⟨0, Nat.zero_le _, rfl, HLp.out⟩
          case round =>
            obtain ⟨i, hi, rfl, hR⟩ := hrel
            have HR := Aside0.mk hR
            by_cases hlt : i < xs.length
            · have hlt' : i < ps.length := by omega
              have hlt2 : i + 1 ≤ xs.length := hlt
              obtain ⟨q, hq⟩ : ∃ q, ps[i]? = some q := ⟨_, List.getElem?_eq_getElem hlt'⟩
              obtain ⟨x, hx⟩ : ∃ x, xs[i]? = some x := ⟨_, List.getElem?_eq_getElem hlt⟩
              have hmx : x ∈ xs := List.mem_of_getElem? hx
              obtain ⟨gA2, hgA2, _, hp⟩ := hR.pts
              injection hgA2 with hgA2
              injection hgA2 with hgA2 _ _
              subst hgA2
              have kp : wr.cell? ⟨gA, i, none⟩ = some (.pointer (some ⟨q.1, q.2, none⟩)) := hp i q hq
              have hLf := hR.leaf i q x hq hx
              have hfx := HFv.out.1 x hmx
              clear hR hp
              cases hstr : isStr x with
              | true =>
                obtain ⟨raw, rfl⟩ : ∃ raw, x = .str raw := by
                  cases x with
                  | str raw => exact ⟨raw, rfl⟩
                  | _ => cases hstr
                cases hLf with
                | str hB1 hT1 al1 hS1 =>
                  have hl1 := unesc_len raw
                  have hf1 : Well raw ∧ raw.length ≤ 900000000000 := hfx
                  have HY2 := Aside0.mk (vbytes_yes wr q.1 q.2 raw hT1 hf1.2 (by have := hf1.2; omega) hf1.1 hS1)
                  have HStep := Aside0.mk (fun (w3 : World) hD hU => HR.out.step (w2 := w3) hx hT1 al1 hS1 hD hU hB1)
                  have HRoom := Aside0.mk (fun (w3 : World) hU => HR.out.room (w2 := w3) (o := q.2) hlt hT1 hU)
                  obtain ⟨qs, hqs⟩ : ∃ qs, qs = unesc raw := ⟨_, rfl⟩
                  rw [← hqs] at HY2 HStep
                  obtain ⟨l, hlq⟩ : ∃ l, l = qs.length := ⟨_, rfl⟩
                  rw [← hlq] at HY2
                  have HL := Aside0.mk hlq
                  clear hlq hqs hB1 hT1 al1 hS1 hf1 hfx hstr hl1
                  go_wp2_with fail
                  refine HY2.out.mono ?_
                  rintro e w3 ⟨g3, cap3, rfl, hBuf, hD, hU⟩
                  have hgk := kB_string (P := Tryz.prog) cap3 Tryz.underlying30 Tryz.underlying5 Tryz.underlying9 hBuf.C
                  rw [← HL.out] at hgk
                  have HS3 := Aside0.mk (HStep.out w3 hD hU)
                  obtain ⟨⟨v3, kc3⟩, kf3⟩ := HRoom.out w3 hU
                  obtain ⟨u, hu⟩ : ∃ u, u = bStr qs := ⟨_, rfl⟩
                  rw [← hu] at hgk HS3
                  clear hBuf hD hU hu
                  go_wp2
                  go_roundw
                  case rel => exact ⟨i + 1, hlt2, by go_num, HS3.out⟩
                  case measure => simp [intOf]; omega
              | false =>
                have hno : ∀ raw, x ≠ .str raw := fun raw e => by rw [e] at hstr; cases hstr
                obtain ⟨k4, hk4, h4⟩ := hLf.kind hno
                have HN := Aside0.mk (vbytes_no wr q.1 q.2 k4 hk4 h4)
                obtain rfl : s = none := by
                  rw [HS.out, if_neg]
                  intro hall
                  rw [List.all_eq_true.1 hall x hmx] at hstr
                  cases hstr
                clear hLf hfx hno hk4 h4 hstr
                go_wp2_with fail
                refine HN.out.mono ?_
                rintro e w3 ⟨g3, rfl, hb3⟩
                have HB3 := Aside0.mk hb3
                clear hb3
                unfold errP
                go_wp2
                go_ret2
                exact ⟨⟨_, _, rfl⟩, HR.out.below.trans (HB3.out.mono HR.out.size)⟩
            · obtain rfl : i = xs.length := by omega
              obtain ⟨ha, hC⟩ := hR.C (by omega)
              obtain rfl : s = some (xs.map strB) := by rw [HS.out, if_pos ha]
              have HC := Aside0.mk hC
              clear hR hC ha
              go_wp2
              go_ret2
              exact ⟨⟨some ⟨gr, 0, none⟩, cr, by rw [List.length_map]; rfl, by rw [List.length_map]; exact hcr, by rw [List.length_map]; exact HC.out⟩, HR.out.below⟩
        · obtain rfl : xs = [] := List.eq_nil_of_length_eq_zero (by omega)
          obtain ⟨A9, c9, rfl, hle9, hC9⟩ := HZ.out.reads 0 rfl
          obtain rfl : s = some [] := HS.out
          have HC9 := Aside0.mk hC9
          clear hC9 hA hk
          go_loopw [36] (fun i wr => i = .int .i64 0 ∧ wr = w2) (fun i _ => 0)
          case atStart => exact ⟨rfl, rfl⟩
          case round =>
            obtain ⟨rfl, rfl⟩ := hrel
            go_wp2
            go_ret2
            exact ⟨⟨A9, c9, rfl, Nat.zero_le _, HC9.out⟩, HB.out.trans (HZ.out.below.mono HBs.out)⟩
    · obtain ⟨k4, hk4, h4⟩ := hL.kindA hv
      have HN := Aside0.mk (varr_no w1 b o k4 hk4 h4)
      obtain rfl : s = none := by
        rw [HS.out]
        cases v with
        | arr xs => exact absurd rfl (hv xs)
        | _ => rfl
      have HB := Aside0.mk hb
      clear hb hL hfv hv h4 hk4
      go_wp2_with fail
      refine HN.out.mono ?_
      rintro e w2 ⟨g2, rfl, hb2⟩
      have HB2 := Aside0.mk hb2
      clear hb2
      unfold errP
      go_wp2
      go_ret2
      exact ⟨⟨_, _, rfl⟩, HB.out.trans (HB2.out.mono (Nat.le_trans HB0.out HB.out.size))⟩
end Go.Proofs.YtdldblfklalaeaaGreatDoor
