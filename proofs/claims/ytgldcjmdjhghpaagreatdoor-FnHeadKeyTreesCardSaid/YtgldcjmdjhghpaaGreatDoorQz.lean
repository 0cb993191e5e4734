/-
  fastjson's parseValue: its contract, given those of lists and objects; then all three.
  fastjson's parseValue, case by case.
-/
import Derived.Test.YtgldcjmdjhghpaaGreatDoorPa
import Derived.Test.YtgldcjmdjhghpaaGreatDoorPo
import Derived.Deep.RegionLaw
namespace Go.Proofs.YtgldcjmdjhghpaaGreatDoor
open Go.RowKit Go.Proofs.YtgldcjmdjhghpaaGreatDoorW.PrintWords Go.ChangeShapes Go.WideShapes
set_option linter.unusedVariables false
set_option linter.unusedSimpArgs false
set_option maxRecDepth 100000
theorem pVal_deep {n d : Nat} {s : Bs} (h : 300 ≤ d) : pVal (n + 1) d s = none := by
  cases s with
  | nil => rw [pVal]
  | cons c r => rw [pVal, if_pos h]
theorem pVal_obj {n d : Nat} {r : Bs} (h : ¬ 300 ≤ d) : pVal (n + 1) d (123 :: r) = pObj0 n (d + 1) r := by
  rw [pVal, if_neg h, if_pos rfl]
  unfold pObj0
  cases skipWS r <;> rfl
theorem pVal_arr {n d : Nat} {r : Bs} (h : ¬ 300 ≤ d) : pVal (n + 1) d (91 :: r) = pArr0 n (d + 1) r := by
  rw [pVal, if_neg h, if_neg (by decide), if_pos rfl]
  unfold pArr0
  cases skipWS r <;> rfl
theorem pVal_str {n d : Nat} {r : Bs} (h : ¬ 300 ≤ d) : pVal (n + 1) d (34 :: r) = (rawStr r).map fun q => (.str q.1, q.2) := by
  rw [pVal, if_neg h, if_neg (by decide), if_neg (by decide), if_pos rfl]
theorem pVal_t {n d : Nat} {r : Bs} (h : ¬ 300 ≤ d) : pVal (n + 1) d (116 :: r) = if (116 :: r).take 4 = wTRUE then some (.tru, (116 :: r).drop 4) else none := by
  rw [pVal, if_neg h, if_neg (by decide), if_neg (by decide), if_neg (by decide), if_pos rfl]
theorem pVal_f {n d : Nat} {r : Bs} (h : ¬ 300 ≤ d) : pVal (n + 1) d (102 :: r) = if (102 :: r).take 5 = wFALSE then some (.fls, (102 :: r).drop 5) else none := by
  rw [pVal, if_neg h, if_neg (by decide), if_neg (by decide), if_neg (by decide), if_neg (by decide), if_pos rfl]
theorem pVal_n {n d : Nat} {r : Bs} (h : ¬ 300 ≤ d) : pVal (n + 1) d (110 :: r) = if (110 :: r).take 4 = wNULL then some (.nul, (110 :: r).drop 4) else if 3 ≤ (110 :: r).length ∧ foldEq ((110 :: r).take 3) sNAN = true then some (.num ((110 :: r).take 3), (110 :: r).drop 3) else none := by
  rw [pVal, if_neg h, if_neg (by decide), if_neg (by decide), if_neg (by decide), if_neg (by decide), if_neg (by decide), if_pos rfl]
theorem pVal_num {n d : Nat} {c : UInt8} {r : Bs} (h : ¬ 300 ≤ d) (h1 : c ≠ 123) (h2 : c ≠ 91) (h3 : c ≠ 34) (h4 : c ≠ 116) (h5 : c ≠ 102) (h6 : c ≠ 110) : pVal (n + 1) d (c :: r) = (rawNum (c :: r)).map fun q => (.num q.1, q.2) := by
  rw [pVal, if_neg h, if_neg h1, if_neg h2, if_neg h3, if_neg h4, if_neg h5, if_neg h6]
theorem VOk.wide {w w' : World} {pb n b o n' c' : Nat} {vb vb' : Option Nat} {s s2 r : Bs} {v : JV} (h : VOk w pb vb n s v r b o w' vb' n' c') (hn : nb s ≤ nb s2) (hl : s.length ≤ s2.length) : VOk w pb vb n s2 v r b o w' vb' n' c' :=
  ⟨h.st, h.tree, by have := h.cnt; omega, by have := h.len; omega, by have := h.dec; omega⟩
/-- A value that leads to no others: behind getValue and the two stores. -/
theorem VOk.leaf {w w1 : World} {pb n g c' : Nat} {vb : Option Nat} {s r p : Bs} (hG : GotV w pb vb n g c' w1) (hn : nb r + 1 ≤ nb s) (hl : r.length + 1 ≤ s.length) (k : Int) (hk : k = 7 ∨ k = 4) :
    VOk w pb vb n s (if k = 7 then .str p else .num p) r g (5 * n) ((w1.setCell ⟨g, 5 * n + 4, none⟩ (.int .i64 k)).setCell ⟨g, 5 * n + 3, none⟩ (.string (bStr p))) (some g) (n + 1) c' := by
  have hnv := hG.newV
  have hst := (hG.st.set (hnv.fresh 4 (by omega)) (.int .i64 k)).set ((hnv.set (b := g) (p := 5 * n + 4) (.int .i64 k)).fresh 3 (by omega)) (.string (bStr p))
  have hnv2 := (hnv.set (b := g) (p := 5 * n + 4) (.int .i64 k)).set (b := g) (p := 5 * n + 3) (.string (bStr p))
  have z3 : w1.cell? ⟨g, 5 * n + 3, none⟩ = some (.string ByteArray.empty) := hG.zero 3 (by omega)
  have z4 : w1.cell? ⟨g, 5 * n + 4, none⟩ = some (.int .i64 0) := hG.zero 4 (by omega)
  have k4 : ((w1.setCell ⟨g, 5 * n + 4, none⟩ (.int .i64 k)).setCell ⟨g, 5 * n + 3, none⟩ (.string (bStr p))).cell? ⟨g, 5 * n + 4, none⟩ = some (.int .i64 k) := (World.cell?_setCell_other _ ⟨g, 5 * n + 3, none⟩ ⟨g, 5 * n + 4, none⟩ _ (by simp)).trans (World.cell?_setCell_same w1 ⟨g, 5 * n + 4, none⟩ _ z4)
  have k3 : ((w1.setCell ⟨g, 5 * n + 4, none⟩ (.int .i64 k)).setCell ⟨g, 5 * n + 3, none⟩ (.string (bStr p))).cell? ⟨g, 5 * n + 3, none⟩ = some (.string (bStr p)) := World.cell?_setCell_same _ ⟨g, 5 * n + 3, none⟩ _ ((World.cell?_setCell_other _ ⟨g, 5 * n + 4, none⟩ ⟨g, 5 * n + 3, none⟩ _ (by simp)).trans z3)
  refine ⟨hst, ?_, by omega, by omega, hn⟩
  rcases hk with rfl | rfl
  · exact .str ⟨hnv2.ty, hnv2.al, hnv2.fresh⟩ k3 k4
  · exact .num ⟨hnv2.ty, hnv2.al, hnv2.fresh⟩ k3 k4
theorem VOk.on {w w1 w' : World} {pb n b o n' c' : Nat} {vb vb' : Option Nat} {s r : Bs} {v : JV} (h : VOk w pb vb n s v r b o w1 vb' n' c') (hb : Below w1.heap.size w1 w') : VOk w pb vb n s v r b o w' vb' n' c' :=
  ⟨h.st.on hb, (h.tree.upd (Upd.of_below hb (fun _ _ => False)) (fun b o hh => hh.2.1) (fun _ _ _ hh => hh)).mono (fun b o hh => hh.on hb.size (Grew.refl _ _ _)) (fun _ _ _ => rfl) (fun _ _ _ _ hT => hT), h.cnt, h.len, h.dec⟩
theorem VOk.lift {w w1 w' : World} {pb n b o n' c' : Nat} {vb vb' : Option Nat} {s r : Bs} {v : JV} (h : VOk w1 pb vb n s v r b o w' vb' n' c') (hb : Below w.heap.size w w1) : VOk w pb vb n s v r b o w' vb' n' c' := by
  have hg : Grew w vb n vb n := Grew.refl _ _ _
  refine ⟨⟨h.st.cache, (Upd.of_below hb (fun _ _ => False)).trans h.st.upd (fun _ _ _ h => h.elim) (fun _ _ _ h => h), ?_⟩, h.tree.mono (fun b o hh => hh.back hb.size hg) (fun _ _ _ => rfl) (fun _ _ _ _ hT => hT), h.cnt, h.len, h.dec⟩
  rcases h.st.grew with h1 | ⟨g, e, hg⟩
  · exact .inl h1
  · exact .inr ⟨g, e, Nat.le_trans hb.size hg⟩
/-- A value of one block: true, false, null. -/
theorem VOk.word {w w' : World} {pb n c : Nat} {vb : Option Nat} {s r : Bs} (hC : Cache w pb vb n c) (hb : Below w.heap.size w w') {g : Nat} (hg : w.heap.size ≤ g) (k : Int) (hat : w'.heap[g]? = some (.cells #[.slice none 0 0, .bool false, .slice none 0 0, .string ByteArray.empty, .int .i64 k] 106)) (v : JV) (hv : v = .tru ∧ k = 5 ∨ v = .fls ∧ k = 6 ∨ v = .nul ∧ k = 0) (hn : nb r + 1 ≤ nb s) (hl : r.length + 1 ≤ s.length) :
    VOk w pb vb n s v r g 0 w' vb n c := by
  have hst := (St.start hC).on hb
  have hpb := blkT_lt hC.ty
  have hgl := (Array.getElem?_eq_some_iff.1 hat).1
  have hV : ValB w' (Fresh w pb vb n w' vb n) g 0 := ⟨⟨_, hat⟩, rfl, fun j hj => ⟨by omega, hgl, .inl hg, fun e => by
    obtain ⟨cs, hg2, _⟩ := hC.sp g e
    have := (Array.getElem?_eq_some_iff.1 hg2).1
    omega⟩⟩
  have h4 : w'.cell? ⟨g, 0 + 4, none⟩ = some (.int .i64 k) := by rw [cell_of hat]; rfl
  refine ⟨hst, ?_, by omega, by omega, hn⟩
  rcases hv with ⟨rfl, rfl⟩ | ⟨rfl, rfl⟩ | ⟨rfl, rfl⟩
  · exact .tru hV h4
  · exact .fls hV h4
  · exact .nul hV h4
/-- What is known of a text's first letters. -/
theorem ext_take (s : Bs) (t : ByteArray) (ht : t = bStr s) (k : Nat) : t.extract 0 k = bStr (s.take k) := by rw [ht, bStr_take]
theorem ext_drop (s : Bs) (t : ByteArray) (ht : t = bStr s) (k : Nat) : t.extract k t.size = bStr (s.drop k) := by rw [ht, bStr_drop]
set_option maxHeartbeats 4000000 in
theorem val_short (s : Bs) (w : World) (pb n c d f : Nat) (vb : Option Nat) (h : s = [] ∨ 300 ≤ d) (hd : d ≤ 300) (hf : 0 < f) :
    Calls Tryz.prog 52 #[.pointer (some ⟨pb, 1, none⟩), .string (bStr s), .int .i64 d] w (VRes w pb vb n s (pVal f d s)) := by
  obtain ⟨f, rfl⟩ : ∃ k, f = k + 1 := ⟨f - 1, by omega⟩
  have hRN : pVal (f + 1) d s = none := by
    rcases h with rfl | h
    · rw [pVal]
    · exact pVal_deep h
  rw [hRN]
  clear hRN
  cases s with
  | nil =>
    rw [bStr_nil]
    go_enter Tryz.func52, Tryz.ntmps52
    go_wp2_with fail
    refine (errNew_b _ _).mono ?_
    rintro e w1 ⟨rfl, hE⟩
    have HE := Aside0.mk hE
    clear hE
    go_wp2
    go_ret3
    exact VRes.no (Upd.of_below HE.out _) rfl
  | cons c0 r0 =>
    have hd2 : d = 300 := by
      rcases h with h | h
      · cases h
      · omega
    subst hd2
    have T := tcons c0 r0
    obtain ⟨t, ht⟩ : ∃ t, t = bStr (c0 :: r0) := ⟨_, rfl⟩
    rw [← ht] at T ⊢
    obtain ⟨-, tp, tn, tz, t0, tt⟩ := T
    clear ht tt h t0
    go_enter Tryz.func52, Tryz.ntmps52
    go_wp2_with fail
    refine (errNew_b _ _).mono ?_
    rintro e w1 ⟨rfl, hE⟩
    have HE := Aside0.mk hE
    clear hE
    go_wp2
    go_ret3
    exact VRes.no (Upd.of_below HE.out _) rfl
end Go.Proofs.YtgldcjmdjhghpaaGreatDoor
namespace Go.Proofs.YtgldcjmdjhghpaaGreatDoor
open Go.RowKit Go.Proofs.YtgldcjmdjhghpaaGreatDoorW.PrintWords Go.ChangeShapes Go.WideShapes
set_option linter.unusedVariables false
set_option linter.unusedSimpArgs false
set_option maxRecDepth 100000
set_option maxHeartbeats 8000000 in
theorem val_obj (r : Bs) (w : World) (pb n c d f : Nat) (vb : Option Nat) (IH : PO r) (hC : Cache w pb vb n c) (hb : n + nb (123 :: r) < MaxV) (hf : 2 * (123 :: r).length < f + 1) (hd : d < 300) (hL : (123 :: r).length ≤ 9223372036854775800) :
    Calls Tryz.prog 52 #[.pointer (some ⟨pb, 1, none⟩), .string (bStr (123 :: r)), .int .i64 d] w (VRes w pb vb n (123 :: r) (pVal (f + 1) d (123 :: r))) := by
  rw [pVal_obj (by omega)]
  have hnb := nb_no r (show isWS 123 = false by decide)
  have hnl : (123 :: r : Bs).length = r.length + 1 := by simp
  have hmax : n < 1000000000000 := by unfold MaxV at hb; omega
  have hdd : ((d : Int) + 1) ≤ 300 := by omega
  have T := tcons 123 r
  obtain ⟨t, ht⟩ : ∃ t, t = bStr (123 :: r) := ⟨_, rfl⟩
  have HT := Aside0.mk ht
  have hts : t.size = r.length + 1 := by rw [ht, bStr_size, hnl]
  rw [← ht] at T ⊢
  obtain ⟨-, tp, tn, tz, t0, tt⟩ := T
  have t0 := t0 tp
  have HTT := Aside0.mk tt
  have hb1 : (1 : Int) ≤ (t.size : Int) := by omega
  have HZ := Aside0.mk hts
  clear ht tt hts
  have HI := Aside0.mk (IH w pb n c (d + 1) f vb hC (by unfold MaxV at hb ⊢; omega) (by omega) (by omega))
  rw [show ((d + 1 : Nat) : Int) = (d : Int) + 1 by omega] at HI
  clear IH
  go_enter Tryz.func52, Tryz.ntmps52
  go_wp2_with fail
  rw [show t.extract 1 t.size = bStr r from HTT.out]
  refine HI.out.mono ?_
  rintro e w1 ⟨hU, hV⟩
  have HU := Aside0.mk hU
  clear hU HI
  cases hq : pObj0 f (d + 1) r with
  | none =>
    rw [hq] at hV
    obtain ⟨a, g, rfl⟩ := hV
    have HQ := Aside0.mk hq
    clear hq
    unfold errV
    go_wp2_with fail
    refine (errNew_b _ _).mono ?_
    rintro e w7 ⟨rfl, hE⟩
    have HE := Aside0.mk hE
    clear hE
    go_wp2
    go_ret3
    rw [HQ.out]
    exact VRes.no (HU.out.trans (Upd.of_below HE.out (fun _ _ => False)) (fun _ _ _ h => h) (fun _ _ _ h => h.elim)) rfl
  | some q =>
    obtain ⟨v, r2⟩ := q
    rw [hq] at hV
    obtain ⟨b2, o2, vb2, n2, c2, rfl, hK⟩ := hV
    have HK := Aside0.mk (VOk.wide (s2 := 123 :: r) hK (by omega) (by omega))
    have HQ := Aside0.mk hq
    clear hK hq
    go_wp2
    go_ret3
    rw [HQ.out]
    exact VRes.yes rfl HK.out
set_option maxHeartbeats 8000000 in
theorem val_arr (r : Bs) (w : World) (pb n c d f : Nat) (vb : Option Nat) (IH : PA r) (hC : Cache w pb vb n c) (hb : n + nb (91 :: r) < MaxV) (hf : 2 * (91 :: r).length < f + 1) (hd : d < 300) (hL : (91 :: r).length ≤ 9223372036854775800) :
    Calls Tryz.prog 52 #[.pointer (some ⟨pb, 1, none⟩), .string (bStr (91 :: r)), .int .i64 d] w (VRes w pb vb n (91 :: r) (pVal (f + 1) d (91 :: r))) := by
  rw [pVal_arr (by omega)]
  have hnb := nb_no r (show isWS 91 = false by decide)
  have hnl : (91 :: r : Bs).length = r.length + 1 := by simp
  have hmax : n < 1000000000000 := by unfold MaxV at hb; omega
  have hdd : ((d : Int) + 1) ≤ 300 := by omega
  have T := tcons 91 r
  obtain ⟨t, ht⟩ : ∃ t, t = bStr (91 :: r) := ⟨_, rfl⟩
  have HT := Aside0.mk ht
  have hts : t.size = r.length + 1 := by rw [ht, bStr_size, hnl]
  rw [← ht] at T ⊢
  obtain ⟨-, tp, tn, tz, t0, tt⟩ := T
  have t0 := t0 tp
  have HTT := Aside0.mk tt
  have hb1 : (1 : Int) ≤ (t.size : Int) := by omega
  have HZ := Aside0.mk hts
  clear ht tt hts
  have HI := Aside0.mk (IH w pb n c (d + 1) f vb hC (by unfold MaxV at hb ⊢; omega) (by omega) (by omega))
  rw [show ((d + 1 : Nat) : Int) = (d : Int) + 1 by omega] at HI
  clear IH
  go_enter Tryz.func52, Tryz.ntmps52
  go_wp2_with fail
  rw [show t.extract 1 t.size = bStr r from HTT.out]
  refine HI.out.mono ?_
  rintro e w1 ⟨hU, hV⟩
  have HU := Aside0.mk hU
  clear hU HI
  cases hq : pArr0 f (d + 1) r with
  | none =>
    rw [hq] at hV
    obtain ⟨a, g, rfl⟩ := hV
    have HQ := Aside0.mk hq
    clear hq
    unfold errV
    go_wp2_with fail
    refine (errNew_b _ _).mono ?_
    rintro e w7 ⟨rfl, hE⟩
    have HE := Aside0.mk hE
    clear hE
    go_wp2
    go_ret3
    rw [HQ.out]
    exact VRes.no (HU.out.trans (Upd.of_below HE.out (fun _ _ => False)) (fun _ _ _ h => h) (fun _ _ _ h => h.elim)) rfl
  | some q =>
    obtain ⟨v, r2⟩ := q
    rw [hq] at hV
    obtain ⟨b2, o2, vb2, n2, c2, rfl, hK⟩ := hV
    have HK := Aside0.mk (VOk.wide (s2 := 91 :: r) hK (by omega) (by omega))
    have HQ := Aside0.mk hq
    clear hK hq
    go_wp2
    go_ret3
    rw [HQ.out]
    exact VRes.yes rfl HK.out
set_option maxHeartbeats 8000000 in
theorem val_str (r : Bs) (w : World) (pb n c d f : Nat) (vb : Option Nat) (hC : Cache w pb vb n c) (hb : n + nb (34 :: r) < MaxV) (hf : 2 * (34 :: r).length < f + 1) (hd : d < 300) (hL : (34 :: r).length ≤ 9223372036854775800) :
    Calls Tryz.prog 52 #[.pointer (some ⟨pb, 1, none⟩), .string (bStr (34 :: r)), .int .i64 d] w (VRes w pb vb n (34 :: r) (pVal (f + 1) d (34 :: r))) := by
  rw [pVal_str (by omega)]
  have hnb := nb_no r (show isWS 34 = false by decide)
  have hnl : (34 :: r : Bs).length = r.length + 1 := by simp
  have hmax : n < 1000000000000 := by unfold MaxV at hb; omega
  have hdd : ((d : Int) + 1) ≤ 300 := by omega
  have T := tcons 34 r
  obtain ⟨t, ht⟩ : ∃ t, t = bStr (34 :: r) := ⟨_, rfl⟩
  have HT := Aside0.mk ht
  have hts : t.size = r.length + 1 := by rw [ht, bStr_size, hnl]
  rw [← ht] at T ⊢
  obtain ⟨-, tp, tn, tz, t0, tt⟩ := T
  have t0 := t0 tp
  have HTT := Aside0.mk tt
  have hb1 : (1 : Int) ≤ (t.size : Int) := by omega
  have HZ := Aside0.mk hts
  clear ht tt hts
  go_enter Tryz.func52, Tryz.ntmps52
  go_wp2_with fail
  rw [show t.extract 1 t.size = bStr r from HTT.out]
  refine (rawStr_any r _ (by omega)).mono ?_
  rintro e w1 ⟨hbl, he⟩
  have HB := Aside0.mk hbl
  have HC1 := Aside0.mk (hC.on hbl)
  clear hbl hC
  cases hq : rawStr r with
  | none =>
    rw [hq] at he
    obtain ⟨a, b, g, rfl⟩ := he
    have HQ := Aside0.mk hq
    clear hq
    unfold errV
    go_wp2_with fail
    refine (errNew_b _ _).mono ?_
    rintro e w7 ⟨rfl, hE⟩
    have HE := Aside0.mk hE
    clear hE
    go_wp2
    go_ret3
    rw [HQ.out]
    exact VRes.no (Upd.of_below (HB.out.trans (HE.out.mono HB.out.size)) _) rfl
  | some q =>
    obtain ⟨p, r2⟩ := q
    rw [hq] at he
    obtain rfl : e = .returned (.tuple #[.string (bStr p), .string (bStr r2), .nilIface]) := he
    obtain ⟨hq1, hq2⟩ := nb_quote (rawStr_eq hq)
    have HQ := Aside0.mk hq
    clear hq
    go_wp2_with fail
    refine (getValue_any w1 pb n c vb HC1.out hmax).mono ?_
    rintro e w2 ⟨g, c', rfl, hG⟩
    have hnv := hG.newV
    have z3 : w2.cell? ⟨g, 5 * n + 3, none⟩ = some (.string ByteArray.empty) := hG.zero 3 (by omega)
    have z4 : w2.cell? ⟨g, 5 * n + 4, none⟩ = some (.int .i64 0) := hG.zero 4 (by omega)
    have f3 := hnv.fr 3 (by omega)
    have f4 := hnv.fr 4 (by omega)
    have hgl := hnv.lt
    have HV := Aside0.mk (VOk.leaf (s := 34 :: r) (r := r2) (p := p) hG (by omega) (by omega) 7 (.inl rfl))
    have HG := Aside0.mk hG
    obtain ⟨o, ho⟩ : ∃ o, o = 5 * n := ⟨_, rfl⟩
    rw [← ho] at z3 z4 f3 f4 HV ⊢
    clear hG hnv ho
    go_wp2
    go_ret3
    rw [HQ.out]
    exact VRes.yes rfl (HV.out.lift HB.out)
set_option maxHeartbeats 8000000 in
theorem val_word_t (r : Bs) (w : World) (pb n c d f : Nat) (vb : Option Nat) (hC : Cache w pb vb n c) (hb : n + nb (116 :: r) < MaxV) (hf : 2 * (116 :: r).length < f + 1) (hd : d < 300) (hL : (116 :: r).length ≤ 9223372036854775800) :
    Calls Tryz.prog 52 #[.pointer (some ⟨pb, 1, none⟩), .string (bStr (116 :: r)), .int .i64 d] w (VRes w pb vb n (116 :: r) (pVal (f + 1) d (116 :: r))) := by
  rw [pVal_t (by omega)]
  have hwd := word_drop (s := r) 4 (show isWS 116 = false by decide) (by omega)
  have hnl : (116 :: r : Bs).length = r.length + 1 := by simp
  have hmax : n < 1000000000000 := by unfold MaxV at hb; omega
  have hdd : ((d : Int) + 1) ≤ 300 := by omega
  have T := tcons 116 r
  obtain ⟨t, ht⟩ : ∃ t, t = bStr (116 :: r) := ⟨_, rfl⟩
  have HT := Aside0.mk ht
  have hts : t.size = r.length + 1 := by rw [ht, bStr_size, hnl]
  rw [← ht] at T ⊢
  obtain ⟨-, tp, tn, tz, t0, tt⟩ := T
  have t0 := t0 tp
  have HTT := Aside0.mk tt
  have hb1 : (1 : Int) ≤ (t.size : Int) := by omega
  have HZ := Aside0.mk hts
  clear ht tt hts
  have HX := Aside0.mk (ext_take (116 :: r) t HT.out 4)
  have HY := Aside0.mk (ext_drop (116 :: r) t HT.out 4)
  have HC := Aside0.mk hC
  clear hC
  go_enter Tryz.func52, Tryz.ntmps52
  by_cases hw : (116 :: r).take 4 = wTRUE
  · have hlen : 4 ≤ t.size := by
      have h1 := congrArg List.length hw
      rw [List.length_take] at h1
      have h2 : (wTRUE).length = 4 := rfl
      have := HZ.out
      omega
    have hle : (4 : Int) ≤ (t.size : Int) := by omega
    have hE : t.extract 0 4 = ⟨#[116, 114, 117, 101]⟩ := by rw [HX.out, hw]; rfl
    rw [if_pos hw]
    clear hw
    go_wp2
    go_region_law (go_simp; first | (go_at_call 66; refine (zzTrue_any _).mono ?_; rintro e w2 ⟨rfl, rfl⟩))
    all_goals
      go_wp2
      go_ret3
      exact VRes.yes (by rw [← HY.out]; rfl) (VOk.word HC.out (((Below.refl _ _).drew).alloc (Nat.le_refl _) _) (Nat.le_refl _) 5 (blk_new w.drew _) .tru (by simp) hwd.1 hwd.2)
  · rw [if_neg hw]
    by_cases hlen : 4 ≤ t.size
    · have hle : (4 : Int) ≤ (t.size : Int) := by omega
      have hE : ((t.extract 0 4).toList == [116, 114, 117, 101]) = false := by
        rw [HX.out]
        have := bStr_beq ((116 :: r).take 4) wTRUE
        rw [decide_eq_false hw, show (bStr wTRUE).toList = wTRUE from ByteArray.toList_mk _] at this
        exact this
      clear hw
      go_wp2_with fail
      refine (errNew_b _ _).mono ?_
      rintro e w7 ⟨rfl, hE⟩
      have HE := Aside0.mk hE
      clear hE
      go_wp2
      go_ret3
      exact VRes.no (Upd.of_below HE.out _) rfl
    · have hle : (t.size : Int) < 4 := by omega
      go_wp2_with fail
      refine (errNew_b _ _).mono ?_
      rintro e w7 ⟨rfl, hE⟩
      have HE := Aside0.mk hE
      clear hE
      go_wp2
      go_ret3
      exact VRes.no (Upd.of_below HE.out _) rfl
set_option maxHeartbeats 8000000 in
theorem val_word_f (r : Bs) (w : World) (pb n c d f : Nat) (vb : Option Nat) (hC : Cache w pb vb n c) (hb : n + nb (102 :: r) < MaxV) (hf : 2 * (102 :: r).length < f + 1) (hd : d < 300) (hL : (102 :: r).length ≤ 9223372036854775800) :
    Calls Tryz.prog 52 #[.pointer (some ⟨pb, 1, none⟩), .string (bStr (102 :: r)), .int .i64 d] w (VRes w pb vb n (102 :: r) (pVal (f + 1) d (102 :: r))) := by
  rw [pVal_f (by omega)]
  have hwd := word_drop (s := r) 5 (show isWS 102 = false by decide) (by omega)
  have hnl : (102 :: r : Bs).length = r.length + 1 := by simp
  have hmax : n < 1000000000000 := by unfold MaxV at hb; omega
  have hdd : ((d : Int) + 1) ≤ 300 := by omega
  have T := tcons 102 r
  obtain ⟨t, ht⟩ : ∃ t, t = bStr (102 :: r) := ⟨_, rfl⟩
  have HT := Aside0.mk ht
  have hts : t.size = r.length + 1 := by rw [ht, bStr_size, hnl]
  rw [← ht] at T ⊢
  obtain ⟨-, tp, tn, tz, t0, tt⟩ := T
  have t0 := t0 tp
  have HTT := Aside0.mk tt
  have hb1 : (1 : Int) ≤ (t.size : Int) := by omega
  have HZ := Aside0.mk hts
  clear ht tt hts
  have HX := Aside0.mk (ext_take (102 :: r) t HT.out 5)
  have HY := Aside0.mk (ext_drop (102 :: r) t HT.out 5)
  have HC := Aside0.mk hC
  clear hC
  go_enter Tryz.func52, Tryz.ntmps52
  by_cases hw : (102 :: r).take 5 = wFALSE
  · have hlen : 5 ≤ t.size := by
      have h1 := congrArg List.length hw
      rw [List.length_take] at h1
      have h2 : (wFALSE).length = 5 := rfl
      have := HZ.out
      omega
    have hle : (5 : Int) ≤ (t.size : Int) := by omega
    have hE : t.extract 0 5 = ⟨#[102, 97, 108, 115, 101]⟩ := by rw [HX.out, hw]; rfl
    rw [if_pos hw]
    clear hw
    go_wp2
    go_region_law (go_simp; first | (go_at_call 67; refine (zzFalse_any _).mono ?_; rintro e w2 ⟨rfl, rfl⟩))
    all_goals
      go_wp2
      go_ret3
      exact VRes.yes (by rw [← HY.out]; rfl) (VOk.word HC.out (((Below.refl _ _).drew).alloc (Nat.le_refl _) _) (Nat.le_refl _) 6 (blk_new w.drew _) .fls (by simp) hwd.1 hwd.2)
  · rw [if_neg hw]
    by_cases hlen : 5 ≤ t.size
    · have hle : (5 : Int) ≤ (t.size : Int) := by omega
      have hE : ((t.extract 0 5).toList == [102, 97, 108, 115, 101]) = false := by
        rw [HX.out]
        have := bStr_beq ((102 :: r).take 5) wFALSE
        rw [decide_eq_false hw, show (bStr wFALSE).toList = wFALSE from ByteArray.toList_mk _] at this
        exact this
      clear hw
      go_wp2_with fail
      refine (errNew_b _ _).mono ?_
      rintro e w7 ⟨rfl, hE⟩
      have HE := Aside0.mk hE
      clear hE
      go_wp2
      go_ret3
      exact VRes.no (Upd.of_below HE.out _) rfl
    · have hle : (t.size : Int) < 5 := by omega
      go_wp2_with fail
      refine (errNew_b _ _).mono ?_
      rintro e w7 ⟨rfl, hE⟩
      have HE := Aside0.mk hE
      clear hE
      go_wp2
      go_ret3
      exact VRes.no (Upd.of_below HE.out _) rfl
set_option maxHeartbeats 8000000 in
theorem val_word_n (r : Bs) (w : World) (pb n c d f : Nat) (vb : Option Nat) (hC : Cache w pb vb n c) (hb : n + nb (110 :: r) < MaxV) (hf : 2 * (110 :: r).length < f + 1) (hd : d < 300) (hL : (110 :: r).length ≤ 9223372036854775800) :
    Calls Tryz.prog 52 #[.pointer (some ⟨pb, 1, none⟩), .string (bStr (110 :: r)), .int .i64 d] w (VRes w pb vb n (110 :: r) (pVal (f + 1) d (110 :: r))) := by
  rw [pVal_n (by omega)]
  have hwd := word_drop (s := r) 4 (show isWS 110 = false by decide) (by omega)
  have hwd3 := word_drop (s := r) 3 (show isWS 110 = false by decide) (by omega)
  have hnl : (110 :: r : Bs).length = r.length + 1 := by simp
  have hmax : n < 1000000000000 := by unfold MaxV at hb; omega
  have hdd : ((d : Int) + 1) ≤ 300 := by omega
  have T := tcons 110 r
  obtain ⟨t, ht⟩ : ∃ t, t = bStr (110 :: r) := ⟨_, rfl⟩
  have HT := Aside0.mk ht
  have hts : t.size = r.length + 1 := by rw [ht, bStr_size, hnl]
  rw [← ht] at T ⊢
  obtain ⟨-, tp, tn, tz, t0, tt⟩ := T
  have t0 := t0 tp
  have HTT := Aside0.mk tt
  have hb1 : (1 : Int) ≤ (t.size : Int) := by omega
  have HZ := Aside0.mk hts
  clear ht tt hts
  have HX := Aside0.mk (ext_take (110 :: r) t HT.out 4)
  have HX3 := Aside0.mk (ext_take (110 :: r) t HT.out 3)
  have HY := Aside0.mk (ext_drop (110 :: r) t HT.out 4)
  have HY3 := Aside0.mk (ext_drop (110 :: r) t HT.out 3)
  have HC := Aside0.mk hC
  clear hC
  go_enter Tryz.func52, Tryz.ntmps52
  by_cases hw : (110 :: r).take 4 = wNULL
  · have hlen : 4 ≤ t.size := by
      have h1 := congrArg List.length hw
      rw [List.length_take] at h1
      have h2 : (wNULL).length = 4 := rfl
      have := HZ.out
      omega
    have hle : (4 : Int) ≤ (t.size : Int) := by omega
    have hE : t.extract 0 4 = ⟨#[110, 117, 108, 108]⟩ := by rw [HX.out, hw]; rfl
    rw [if_pos hw]
    clear hw
    go_wp2
    go_region_law (go_simp; first | (go_at_call 69; refine (zzNull_any _).mono ?_; rintro e w2 ⟨rfl, rfl⟩))
    all_goals
      go_wp2
      go_ret3
      exact VRes.yes (by rw [← HY.out]; rfl) (VOk.word HC.out (((Below.refl _ _).drew).alloc (Nat.le_refl _) _) (Nat.le_refl _) 0 (blk_new w.drew _) .nul (by simp) hwd.1 hwd.2)
  · rw [if_neg hw]
    by_cases h3 : 3 ≤ t.size
    · have hL3 : 3 ≤ (110 :: r : Bs).length := by rw [hnl]; have := HZ.out; omega
      have hi3 : (3 : Int) ≤ (t.size : Int) := by omega
      have HFold := Aside0.mk (fun w => fold_any ((110 :: r).take 3) sNAN w (by rw [List.length_take]; omega) (by decide))
      rw [← HX3.out] at HFold
      have HW : Aside0 ((t.size : Int) < 4 ∨ (4 : Int) ≤ (t.size : Int) ∧ ((t.extract 0 4).toList == [110, 117, 108, 108]) = false) := ⟨by
        by_cases hlen : 4 ≤ t.size
        · refine .inr ⟨by omega, ?_⟩
          rw [HX.out]
          have := bStr_beq ((110 :: r).take 4) wNULL
          rw [decide_eq_false hw, show (bStr wNULL).toList = wNULL from ByteArray.toList_mk _] at this
          exact this
        · exact .inl (by omega)⟩
      cases hfo : foldEq ((110 :: r).take 3) sNAN with
      | true =>
        rw [if_pos ⟨hL3, rfl⟩]
        rw [hfo] at HFold
        clear hfo hw
        rcases HW.out with hlen | ⟨hlen, hE⟩
        all_goals
          go_wp2_with fail
          refine (HFold.out _).mono ?_
          rintro e w1 ⟨rfl, rfl⟩
          go_wp2_with fail
          refine (getValue_any w pb n c vb HC.out hmax).mono ?_
          rintro e w2 ⟨g, c', rfl, hG⟩
          have hnv := hG.newV
          have z3 : w2.cell? ⟨g, 5 * n + 3, none⟩ = some (.string ByteArray.empty) := hG.zero 3 (by omega)
          have z4 : w2.cell? ⟨g, 5 * n + 4, none⟩ = some (.int .i64 0) := hG.zero 4 (by omega)
          have f3 := hnv.fr 3 (by omega)
          have f4 := hnv.fr 4 (by omega)
          have hgl := hnv.lt
          have HV := Aside0.mk (VOk.leaf (s := 110 :: r) (r := (110 :: r).drop 3) (p := (110 :: r).take 3) hG hwd3.1 hwd3.2 4 (.inr rfl))
          obtain ⟨o, ho⟩ : ∃ o, o = 5 * n := ⟨_, rfl⟩
          rw [← ho] at z3 z4 f3 f4 HV ⊢
          rw [← HX3.out] at HV
          clear hG hnv ho
          go_wp2
          go_quiet (fail)
          go_wp2
          go_ret3
          exact VRes.yes (by rw [← HY3.out]; rfl) (HV.out.on ((Hold.start _).drewN _).below)
      | false =>
        rw [if_neg (by simp)]
        rw [hfo] at HFold
        clear hfo hw
        rcases HW.out with hlen | ⟨hlen, hE⟩
        all_goals
          go_wp2_with fail
          refine (HFold.out _).mono ?_
          rintro e w1 ⟨rfl, rfl⟩
          go_wp2_with fail
          refine (errNew_b _ _).mono ?_
          rintro e w7 ⟨rfl, hE⟩
          have HE := Aside0.mk hE
          clear hE
          go_wp2
          go_ret3
          exact VRes.no (Upd.of_below HE.out _) rfl
    · have hi3 : (t.size : Int) < 3 := by omega
      have hi4 : (t.size : Int) < 4 := by omega
      have hL3 : ¬ 3 ≤ (110 :: r : Bs).length := by rw [hnl]; have := HZ.out; omega
      rw [if_neg (fun h => hL3 h.1)]
      clear hw
      go_wp2_with fail
      refine (errNew_b _ _).mono ?_
      rintro e w7 ⟨rfl, hE⟩
      have HE := Aside0.mk hE
      clear hE
      go_wp2
      go_ret3
      exact VRes.no (Upd.of_below HE.out _) rfl
set_option maxHeartbeats 8000000 in
theorem val_num (r : Bs) (w : World) (pb n c d f : Nat) (c0 : UInt8) (vb : Option Nat) (h123 : c0 ≠ 123) (h91 : c0 ≠ 91) (h34 : c0 ≠ 34) (h116 : c0 ≠ 116) (h102 : c0 ≠ 102) (h110 : c0 ≠ 110) (hC : Cache w pb vb n c) (hb : n + nb (c0 :: r) < MaxV) (hf : 2 * (c0 :: r).length < f + 1) (hd : d < 300) (hL : (c0 :: r).length ≤ 9223372036854775800) :
    Calls Tryz.prog 52 #[.pointer (some ⟨pb, 1, none⟩), .string (bStr (c0 :: r)), .int .i64 d] w (VRes w pb vb n (c0 :: r) (pVal (f + 1) d (c0 :: r))) := by
  rw [pVal_num (by omega) h123 h91 h34 h116 h102 h110]
  have hnl : (c0 :: r : Bs).length = r.length + 1 := by simp
  have hmax : n < 1000000000000 := by unfold MaxV at hb; omega
  have hdd : ((d : Int) + 1) ≤ 300 := by omega
  have T := tcons c0 r
  obtain ⟨t, ht⟩ : ∃ t, t = bStr (c0 :: r) := ⟨_, rfl⟩
  have HT := Aside0.mk ht
  have hts : t.size = r.length + 1 := by rw [ht, bStr_size, hnl]
  rw [← ht] at T ⊢
  obtain ⟨-, tp, tn, tz, t0, tt⟩ := T
  have t0 := t0 tp
  have HTT := Aside0.mk tt
  have hb1 : (1 : Int) ≤ (t.size : Int) := by omega
  have HZ := Aside0.mk hts
  clear ht tt hts
  have N123 : NeC c0 123 := neC 123 (toNat_ne h123)
  obtain ⟨a123, b123, d123⟩ := N123
  have N91 : NeC c0 91 := neC 91 (toNat_ne h91)
  obtain ⟨a91, b91, d91⟩ := N91
  have N34 : NeC c0 34 := neC 34 (toNat_ne h34)
  obtain ⟨a34, b34, d34⟩ := N34
  have N116 : NeC c0 116 := neC 116 (toNat_ne h116)
  obtain ⟨a116, b116, d116⟩ := N116
  have N102 : NeC c0 102 := neC 102 (toNat_ne h102)
  obtain ⟨a102, b102, d102⟩ := N102
  have N110 : NeC c0 110 := neC 110 (toNat_ne h110)
  obtain ⟨a110, b110, d110⟩ := N110
  clear h123 h91 h34 h116 h102 h110
  have HNum := Aside0.mk (rawNum_any c0 r w (by omega))
  rw [← HT.out] at HNum
  have HC := Aside0.mk hC
  clear hC
  go_enter Tryz.func52, Tryz.ntmps52
  go_wp2_with fail
  refine HNum.out.mono ?_
  rintro e w1 ⟨hbl, he⟩
  have HB := Aside0.mk hbl
  have HC1 := Aside0.mk (HC.out.on hbl)
  clear hbl
  cases hq : rawNum (c0 :: r) with
  | none =>
    rw [hq] at he
    obtain ⟨a, b, g, rfl⟩ := he
    have HQ := Aside0.mk hq
    clear hq
    unfold errV
    go_wp2_with fail
    refine (errNew_b _ _).mono ?_
    rintro e w7 ⟨rfl, hE⟩
    have HE := Aside0.mk hE
    clear hE
    go_wp2
    go_ret3
    rw [HQ.out]
    exact VRes.no (Upd.of_below (HB.out.trans (HE.out.mono HB.out.size)) _) rfl
  | some q =>
    obtain ⟨p, r2⟩ := q
    rw [hq] at he
    obtain rfl : e = .returned (.tuple #[.string (bStr p), .string (bStr r2), .nilIface]) := he
    have hws : isWS c0 = false := by
      cases h : isWS c0 with
      | false => rfl
      | true => rw [rawNum_ws h] at hq; cases hq
    obtain ⟨hq1, hq2⟩ := rawNum_eq hws hq
    clear hws
    have HQ := Aside0.mk hq
    clear hq
    go_wp2_with fail
    refine (getValue_any w1 pb n c vb HC1.out hmax).mono ?_
    rintro e w2 ⟨g, c', rfl, hG⟩
    have hnv := hG.newV
    have z3 : w2.cell? ⟨g, 5 * n + 3, none⟩ = some (.string ByteArray.empty) := hG.zero 3 (by omega)
    have z4 : w2.cell? ⟨g, 5 * n + 4, none⟩ = some (.int .i64 0) := hG.zero 4 (by omega)
    have f3 := hnv.fr 3 (by omega)
    have f4 := hnv.fr 4 (by omega)
    have hgl := hnv.lt
    have HV := Aside0.mk (VOk.leaf (s := c0 :: r) (r := r2) (p := p) hG hq1 hq2 4 (.inr rfl))
    obtain ⟨o, ho⟩ : ∃ o, o = 5 * n := ⟨_, rfl⟩
    rw [← ho] at z3 z4 f3 f4 HV ⊢
    clear hG hnv ho
    go_wp2
    go_ret3
    rw [HQ.out]
    exact VRes.yes rfl (HV.out.lift HB.out)
end Go.Proofs.YtgldcjmdjhghpaaGreatDoor
