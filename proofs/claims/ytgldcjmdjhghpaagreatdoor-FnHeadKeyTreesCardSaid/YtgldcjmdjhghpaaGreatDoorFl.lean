/-
  What the reader finds in a header that was written.
-/
import Derived.Test.YtgldcjmdjhghpaaGreatDoorFz
namespace Go.Proofs.YtgldcjmdjhghpaaGreatDoor
open Go.RowKit Go.Proofs.YtgldcjmdjhghpaaGreatDoorW.PrintWords Go.ChangeShapes Go.WideShapes Go.Deep
set_option linter.unusedVariables false
set_option linter.unusedSimpArgs false
set_option maxRecDepth 100000
theorem seqF_len {α : Type} (one : α → Nat → Bs × Nat) (K : Nat) : ∀ (l : List α), (∀ f ∈ l, ∀ y, (one f y).1.length ≤ K) → ∀ b y, (seqF one b l y).1.length ≤ l.length * (K + 65538)
  | [], _, b, y => by cases b <;> simp [seqF]
  | f :: r, h, b, y => by
    have ih := seqF_len one K r (fun f hf => h f (List.mem_cons_of_mem _ hf)) false
    have hK : (r.length + 1) * (K + 65538) = r.length * (K + 65538) + (K + 65538) := by rw [Nat.add_mul, Nat.one_mul]
    cases b with
    | true =>
      have h1 := h f (List.mem_cons_self ..) y
      have h2 := ih (one f y).2
      show ((one f y).1 ++ (seqF one false r (one f y).2).1).length ≤ (r.length + 1) * (K + 65538)
      rw [List.length_append, hK]
      omega
    | false =>
      have h1 := h f (List.mem_cons_self ..) (blk y).2
      have h2 := ih (one f (blk y).2).2
      have h3 := blk_len y
      show (44 :: ((blk y).1 ++ ((one f (blk y).2).1 ++ (seqF one false r (one f (blk y).2).2).1))).length ≤ (r.length + 1) * (K + 65538)
      rw [List.length_cons, List.length_append, List.length_append, hK]
      omega
theorem headF_len (l : List Hf) (x : Nat) (hl : l.length ≤ 30) (hf : ∀ f ∈ l, FOk f) : (headF l x).length ≤ 200000000 := by
  have h1 := blk_len x
  have h2 := blk_len (blk x).2
  have h3 := seqF_len fieldF 5300000 l (fun f hm y => fieldF_len (hf f hm) y) true (blk (blk x).2).2
  have h4 := blk_len (seqF fieldF true l (blk (blk x).2).2).2
  unfold headF
  simp only [List.length_append, List.length_cons]
  omega
theorem data_inj {a b : ByteArray} (h : a.data.toList = b.data.toList) : a = b := data_ext h
theorem inj_of_nodup {α β : Type} (g : α → β) : ∀ {l : List α}, (l.map g).Nodup → ∀ {a b : α}, a ∈ l → b ∈ l → g a = g b → a = b
  | [], _, _, _, h, _, _ => by cases h
  | x :: r, hn, a, b, ha, hb, he => by
    rw [List.map_cons, List.nodup_cons] at hn
    rcases List.mem_cons.1 ha with h1 | h1
    · rcases List.mem_cons.1 hb with h2 | h2
      · rw [h1, h2]
      · exact absurd (by rw [← h1, he]; exact List.mem_map_of_mem h2) hn.1
    · rcases List.mem_cons.1 hb with h2 | h2
      · exact absurd (by rw [← h2, ← he]; exact List.mem_map_of_mem h1) hn.1
      · exact inj_of_nodup g hn.2 h1 h2 he
theorem isVal_fit {f : Hf} (hf : FOk f) {v : JV} (h : IsVal f v) : fitV v := by
  have hr : ∀ s : ByteArray, TOk s → ∀ raw : Bs, Pieces raw (encR (runesOf s)) ∧ raw.length ≤ 12 * (runesOf s).length → Well raw ∧ raw.length ≤ 900000000000 := fun s hs raw h => ⟨h.1.well, by have := hs.runes; omega⟩
  unfold IsVal at h
  split at h
  · subst h; trivial
  · split at h
    · split at h <;> (subst h; trivial)
    · split at h
      · subst h; trivial
      · split at h
        · obtain ⟨raw, rfl, h⟩ := h
          exact hr _ hf.text raw h
        · split at h
          · obtain ⟨kvs, rfl⟩ := h
            trivial
          · obtain ⟨xs, rfl, hxl, hx⟩ := h
            refine ⟨fun x hm => ?_, by rw [hxl]; have := hf.len; omega⟩
            obtain ⟨i, hi, rfl⟩ := List.getElem_of_mem hm
            have hi2 : i < f.2.2.2.2.2.2.length := by omega
            have h2 := hx i _ _ (List.getElem?_eq_getElem hi2) (List.getElem?_eq_getElem hi)
            split at h2
            · obtain ⟨raw, e, h2⟩ := h2
              rw [e]
              exact hr _ (hf.list _ (List.getElem_mem hi2)) raw h2
            · obtain ⟨d, e⟩ := h2
              rw [e]
              trivial
/-- The header that was written, read. -/
theorem head_told (l : List Hf) (x : Nat) (hf : ∀ f ∈ l, FOk f) (hn : (l.map (·.1)).Nodup) :
    FitO (pTop (headF l x)) ∧ (∀ f ∈ l, ∃ v, tGet (pTop (headF l x)) f.1.data.toList = some v ∧ IsVal f v) ∧ ∀ s : ByteArray, (∀ f ∈ l, f.1 ≠ s) → tGet (pTop (headF l x)) s.data.toList = none := by
  obtain ⟨kvs, a, q, b, e, ha, hb, hr, hlen, hF, _⟩ := headF_reads l x
  have hp : pTop (headF l x) = some (.obj kvs) := pTop_of ⟨a, 123 :: q, b, e, ha, hb, ⟨123, q, rfl, by decide⟩, hr⟩ (by decide)
  have hname : ∀ f : Hf, f ∈ l → ∀ p, IsField f p → unesc p.1 = f.1.data.toList := fun f hm p hp => by
    rw [hp.1.unesc, ← runesOf_valid (hf f hm).name.valid]
  have hback : ∀ p ∈ kvs, ∃ f ∈ l, IsField f p := fun p hm => by
    obtain ⟨i, hi, rfl⟩ := List.getElem_of_mem hm
    have hi2 : i < l.length := by omega
    exact ⟨l[i], List.getElem_mem hi2, hF i _ _ (List.getElem?_eq_getElem hi2) (List.getElem?_eq_getElem hi)⟩
  have hmap : kvs.map (fun p => unesc p.1) = (l.map (·.1)).map (fun s => s.data.toList) := by
    refine List.ext_getElem (by simp [hlen]) (fun i h1 h2 => ?_)
    simp only [List.length_map] at h1 h2
    simp only [List.getElem_map]
    exact hname _ (List.getElem_mem h2) _ (hF i _ _ (List.getElem?_eq_getElem h2) (List.getElem?_eq_getElem h1))
  have hnd : (kvs.map (fun p => unesc p.1)).Nodup := by
    rw [hmap]
    exact List.Pairwise.map _ (fun a b h e => h (data_inj e)) hn
  have hget : ∀ key, tGet (pTop (headF l x)) key = (kvs.find? (fun p => unesc p.1 == key)).map (·.2) := fun key => by
    rw [hp]
    exact oGet_name hnd key
  refine ⟨?_, fun f hm => ?_, fun s hs => ?_⟩
  · intro v hv
    rw [hp] at hv
    injection hv with hv
    subst hv
    refine ⟨kvs, rfl, ⟨fun q hq => ?_⟩, fun p hpm => ?_⟩
    · obtain ⟨p, hpm, rfl⟩ := List.mem_map.1 hq
      obtain ⟨f, hm, hfp⟩ := hback p hpm
      exact ⟨hfp.1.well, by have := (hf f hm).name.runes; have := hfp.2.1; omega⟩
    · obtain ⟨f, hm, hfp⟩ := hback p hpm
      exact isVal_fit (hf f hm) hfp.2.2
  · rw [hget]
    cases h : kvs.find? (fun p => unesc p.1 == f.1.data.toList) with
    | none =>
      obtain ⟨i, hi, rfl⟩ := List.getElem_of_mem hm
      have hi2 : i < kvs.length := by omega
      have h1 := List.find?_eq_none.1 h kvs[i] (List.getElem_mem hi2)
      exact absurd (hname _ hm _ (hF i _ _ (List.getElem?_eq_getElem hi) (List.getElem?_eq_getElem hi2))) (by simpa using h1)
    | some p =>
      obtain ⟨f', hm', hfp⟩ := hback p (List.mem_of_find?_eq_some h)
      have e1 : unesc p.1 = f.1.data.toList := by simpa using List.find?_some h
      have e2 : f' = f := inj_of_nodup (·.1) hn hm' hm (data_inj (by rw [← hname _ hm' _ hfp, e1]))
      subst e2
      exact ⟨_, rfl, hfp.2.2⟩
  · rw [hget]
    cases h : kvs.find? (fun p => unesc p.1 == s.data.toList) with
    | none => rfl
    | some p =>
      obtain ⟨f', hm', hfp⟩ := hback p (List.mem_of_find?_eq_some h)
      have e1 : unesc p.1 = s.data.toList := by simpa using List.find?_some h
      exact absurd (data_inj (by rw [← hname _ hm' _ hfp, e1])) (hs f' hm')
/-- What the reader says of a truth value, and what the law looks for. -/
theorem bool_told {l : List Hf} {x : Nat} (hg : l.length ≤ 30 ∧ (∀ f ∈ l, FOk f) ∧ (l.map (·.1)).Nodup) {s : ByteArray} {f : Hf} {b : Bool} (h : FindIs l s f b) :
    (b = true ∧ f.2.1 = 1 ∧ boolT (pTop (headF l x)) s.data.toList = some f.2.2.1) ∨ ((b = false ∨ (b = true ∧ f.2.1 ≠ 1)) ∧ boolT (pTop (headF l x)) s.data.toList = none) := by
  obtain ⟨h1, h2, h3⟩ := head_told l x hg.2.1 hg.2.2
  rcases h with ⟨rfl, hm, rfl⟩ | ⟨rfl, rfl, hno⟩
  · obtain ⟨v, hv, hi⟩ := h2 f hm
    unfold boolT
    rw [hv]
    unfold IsVal at hi
    by_cases hk : f.2.1 = 1
    · rw [if_neg (by omega), if_pos hk] at hi
      refine .inl ⟨rfl, hk, ?_⟩
      cases hb : f.2.2.1 with
      | true => rw [hb] at hi; subst hi; rfl
      | false => rw [hb] at hi; subst hi; rfl
    · refine .inr ⟨.inr ⟨rfl, hk⟩, ?_⟩
      split at hi
      · subst hi; rfl
      · split at hi
        · subst hi; rfl
        · split at hi
          · obtain ⟨_, rfl, _⟩ := hi; rfl
          · split at hi
            · obtain ⟨_, rfl⟩ := hi; rfl
            · obtain ⟨_, rfl, _⟩ := hi; rfl
  · refine .inr ⟨.inl rfl, ?_⟩
    unfold boolT
    rw [h3 s hno]
theorem bStr_data (s : ByteArray) : bStr s.data.toList = s := data_ext (bStr_list _)
/-- How a row of fields is read among the arguments. -/
abbrev OkHf : Hf → Prop := Both StrOk (Both (WfI .u8) (Both AnyOk (Both AnyOk (Both (WfI .u64) (Both StrOk (AllOk StrOk))))))
theorem opens_head : Opens Tryz.prog 72 kHf OkHf :=
  Opens.struct Tryz.underlying72 (by kernel_rfl) (OpensAt.cons (i := 0) rfl rfl (by kernel_rfl) (Opens.string Tryz.underlying9) (OpensAt.cons (i := 1) rfl rfl (by kernel_rfl) (Opens.int Tryz.underlying5)
    (OpensAt.cons (i := 2) rfl rfl (by kernel_rfl) (Opens.bool Tryz.underlying4) (OpensAt.cons (i := 3) rfl rfl (by kernel_rfl) (Opens.bool Tryz.underlying4) (OpensAt.cons (i := 4) rfl rfl (by kernel_rfl) (Opens.int Tryz.underlying22)
      (OpensAt.cons (i := 5) rfl rfl (by kernel_rfl) (Opens.string Tryz.underlying9) (OpensAt.last (i := 6) rfl rfl (by kernel_rfl) (Opens.sl Tryz.underlying23 (by kernel_rfl) (Opens.string Tryz.underlying9)))))))))
theorem fwf_of {l : List Hf} (h : AllOk OkHf l) : ∀ f ∈ l, FWf f := fun f hf => by
  obtain ⟨_, hk, _, _, hn, _⟩ := h f hf
  unfold WfI at hk hn
  simp [Lit.wf, IntKind.min, IntKind.max, IntKind.bits, IntKind.signed] at hk hn
  exact ⟨by omega, by omega, by omega⟩
end Go.Proofs.YtgldcjmdjhghpaaGreatDoor
