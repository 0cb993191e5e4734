/-
  fastjson's Object.unescapeKeys and Object.Get: their contracts.
  fastjson's Value.Get of one name; jwsbb.headerGet of a header that has been read: their contracts.
  jwsbb's readers of a header (HeaderHas, HeaderGetString, HeaderGetBool), and impl.HeadHas, HeadString, HeadBool: their contracts.
-/
import Derived.Test.YtgldcjmdjhghpaaGreatDoorQi
namespace Go.Proofs.YtgldcjmdjhghpaaGreatDoor
open Go.RowKit Go.Proofs.YtgldcjmdjhghpaaGreatDoorW.PrintWords Go.ChangeShapes Go.WideShapes
set_option linter.unusedVariables false
set_option linter.unusedSimpArgs false
set_option maxRecDepth 100000
/-- Keys of which the first ones are without escapes already. -/
def unks (ks : List Bs) (i : Nat) : List Bs := (ks.take i).map unesc ++ ks.drop i
theorem unks_zero (ks : List Bs) : unks ks 0 = ks := by simp [unks]
theorem unks_all {ks : List Bs} {n : Nat} (h : ks.length = n) : unks ks n = ks.map unesc := by
  unfold unks
  rw [← h, List.take_length, List.drop_length, List.append_nil]
theorem unks_get {ks : List Bs} {i : Nat} (h : i < ks.length) : (unks ks i)[i]? = some ks[i] := by
  unfold unks
  rw [List.getElem?_append_right (by simp; omega), List.length_map, List.length_take, Nat.min_eq_left (by omega), Nat.sub_self, List.getElem?_drop, Nat.add_zero, List.getElem?_eq_getElem h]
theorem unks_set {ks : List Bs} {i : Nat} (h : i < ks.length) : (unks ks i).set i (unesc ks[i]) = unks ks (i + 1) := by
  unfold unks
  rw [List.set_append_right _ _ (by simp; omega), List.length_map, List.length_take, Nat.min_eq_left (by omega), Nat.sub_self, List.drop_eq_getElem_cons h, List.set_cons_zero, List.take_succ_eq_append_getElem h, List.map_append, List.append_assoc]
  rfl
structure KeyFit (ks : List Bs) : Prop where
  out : ∀ k ∈ ks, Well k ∧ k.length ≤ 900000000000
theorem upd_key {w w1 : World} {b o g n i : Nat} (hn : 0 < n) (hu : Upd w w1 (KeyC (some ⟨g, 0, none⟩) n b o)) (v : Value) : Upd w (w1.setCell ⟨g, 2 * i, none⟩ v) (KeyC (some ⟨g, 0, none⟩) n b o) :=
  hu.trans (Upd.setCell w1 g (2 * i) v (C := fun b' o' => b' = g ∧ o' = 2 * i) ⟨rfl, rfl⟩) (fun _ _ _ h => h) (fun b' o' _ hh => .inl ⟨hn, by rw [hh.1], by rw [hh.2]; omega⟩)
/-- Where a key lies. -/
theorem KvAt.keyAt {w : World} {b o n c i : Nat} {un : Bool} {A : Option Addr} {ks : List Bs} {ps : List (Nat × Nat)} (h : KvAt w b o un A n c ks ps) (hi : i < n) {k : Bs} (hk : ks[i]? = some k) : ∃ g, A = some ⟨g, 0, none⟩ ∧ blkT w g 125 ∧ w.cell? ⟨g, i * 2, none⟩ = some (.string (bStr k)) ∧ ∃ q, ps[i]? = some q ∧ w.cell? ⟨g, i * 2 + 1, none⟩ = some (ptr q) := by
  obtain ⟨g, e, hg, hp, hs⟩ := h.el (by omega)
  have hi2 : i < ps.length := by rw [h.pl]; exact hi
  exact ⟨g, e, hg, by rw [Nat.mul_comm]; exact hs i k hk, ps[i], List.getElem?_eq_getElem hi2, by rw [Nat.mul_comm]; exact hp i _ (List.getElem?_eq_getElem hi2)⟩
set_option maxHeartbeats 2000000 in
theorem unkeys_any (w : World) (b o n c : Nat) (A : Option Addr) (ks : List Bs) (ps : List (Nat × Nat)) (h : KvAt w b o false A n c ks ps) (hk : KeyFit ks) :
    Calls Tryz.prog 54 #[.pointer (some ⟨b, o, none⟩)] w fun e w' => e = .returned (.tuple #[]) ∧ KvAt w' b o true A n c (ks.map unesc) ps ∧ Upd w w' (KeyC A n b o) := by
  have c0 := h.c0
  have c1 := h.c1
  have hm : c ≤ 9223372036854775807 := h.cm
  have hnc := h.le
  have HK := Aside0.mk hk
  have HV := Aside0.mk h
  clear h hk
  go_enter Tryz.func54, Tryz.ntmps54
  go_wp2
  go_loopw [15] (fun sv wr => ∃ i : Nat, i ≤ n ∧ sv = .int .i64 i ∧ KvAt wr b o false A n c (unks ks i) ps ∧ Upd w wr (KeyC A n b o)) (fun sv _ => n - (intOf sv).toNat)
  case atStart => exact ⟨0, Nat.zero_le _, rfl, by rw [unks_zero]; exact HV.out, Upd.refl _ _⟩
  case round =>
    clear c0 c1
    obtain ⟨i, hi, rfl, hV, hU⟩ := hrel
    by_cases hlt : i < n
    · have hks : i < ks.length := by rw [HV.out.kl]; exact hlt
      obtain ⟨g, rfl, hg, hs, q, hq, hp⟩ := hV.keyAt hlt (unks_get hks)
      have HUn := Aside0.mk (fun w => unescBE_any ks[i] w (HK.out.out _ (List.getElem_mem hks)).2 (HK.out.out _ (List.getElem_mem hks)).1)
      obtain ⟨K2, hK2⟩ : ∃ x, x = unks ks (i + 1) := ⟨_, rfl⟩
      have HSet : Aside0 ((unks ks i).set i (unesc ks[i]) = K2) := ⟨by rw [hK2]; exact unks_set hks⟩
      obtain ⟨ki, hki⟩ : ∃ x, x = ks[i] := ⟨_, rfl⟩
      rw [← hki] at HSet hs HUn
      have hglt := blkT_lt hg
      have HG := Aside0.mk (And.intro hg (And.intro hV hU))
      obtain ⟨t, ht⟩ : ∃ t, t = bStr ki := ⟨_, rfl⟩
      obtain ⟨u, hu⟩ : ∃ u, u = bStr (unesc ki) := ⟨_, rfl⟩
      rw [← ht] at hs HUn
      rw [← hu] at HUn
      have HUe := Aside0.mk hu
      have HK2 := Aside0.mk hK2
      clear ht hu hq hp hV hU hg hki hK2 hks
      go_wp2_with fail
      refine (HUn.out _).mono ?_
      rintro e w1 ⟨rfl, hb⟩
      have hgl1 : g < w1.heap.size := Nat.lt_of_lt_of_le hglt hb.size
      have k3 : w1.cell? ⟨g, i * 2, none⟩ = some (.string t) := (hb.cell (p := ⟨g, i * 2, none⟩) hglt).trans hs
      have f3 : w1.frozen? ⟨g, i * 2, none⟩ = false := (hb.frozen (p := ⟨g, i * 2, none⟩) hglt).trans (blkT_frozen HG.out.1 _)
      have HB := Aside0.mk hb
      clear hb hs
      go_wp2
      go_roundw
      case rel =>
        refine ⟨i + 1, hlt, by go_num, ?_, ?_⟩
        · rw [← HK2.out, ← HSet.out, HUe.out, Nat.mul_comm i 2]
          exact (HG.out.2.1.on HB.out).setKey hlt rfl _
        · rw [Nat.mul_comm i 2]
          exact upd_key (by omega) (HG.out.2.2.trans (Upd.of_below HB.out (fun _ _ => False)) (fun _ _ _ h => h) (fun _ _ _ h => h.elim)) _
      case measure => simp [intOf]; omega
    · obtain rfl : i = n := by omega
      have c1 := hV.c1
      have f1 : wr.frozen? ⟨b, o + 1, none⟩ = false := blkT_frozen hV.ty _
      have HG := Aside0.mk (And.intro hV hU)
      clear hV hU
      go_wp2
      go_end0
      refine ⟨rfl, ?_, ?_⟩
      · rw [← unks_all HV.out.kl]
        exact HG.out.1.setUn true
      · exact HG.out.2.trans (Upd.setCell _ b (o + 1) _ (C := fun b' o' => b' = b ∧ o' = o + 1) ⟨rfl, rfl⟩) (fun _ _ _ h => h) (fun _ _ _ h => .inr h)
/-- What looking for a name gives. -/
def Found (i : Option Nat) (ps : List (Nat × Nat)) (e : Ending) : Prop :=
  match i with
  | some i => ∃ q, ps[i]? = some q ∧ e = .returned (ptr q)
  | none => e = .returned (.pointer none)
/-- No key up to one place is the name. -/
structure NoKey (ks : List Bs) (key : Bs) (i : Nat) : Prop where
  out : ∀ j k, j < i → ks[j]? = some k → k ≠ key
theorem NoKey.step {ks : List Bs} {key : Bs} {i : Nat} (h : NoKey ks key i) (hi : i < ks.length) (hn : ks[i] ≠ key) : NoKey ks key (i + 1) := ⟨fun j k hj hk => by
  rcases Nat.lt_or_ge j i with h1 | h1
  · exact h.out j k h1 hk
  · obtain rfl : j = i := by omega
    rw [List.getElem?_eq_getElem hi] at hk
    injection hk with hk
    rw [← hk]
    exact hn⟩
theorem NoKey.hit {ks : List Bs} {key : Bs} {i : Nat} (h : NoKey ks key i) (hi : i < ks.length) (hn : ks[i] = key) : ks.findIdx? (· == key) = some i := by
  rw [List.findIdx?_eq_some_iff_getElem]
  refine ⟨hi, by rw [hn]; simp, fun j hj => ?_⟩
  have := h.out j ks[j] hj (List.getElem?_eq_getElem (by omega))
  simpa using this
theorem NoKey.none {ks : List Bs} {key : Bs} (h : NoKey ks key ks.length) : ks.findIdx? (· == key) = none := by
  rw [List.findIdx?_eq_none_iff]
  intro k hk
  obtain ⟨j, hj, e⟩ := List.mem_iff_getElem.1 hk
  have := h.out j k hj (by rw [List.getElem?_eq_getElem hj, e])
  simpa using this
theorem oIdx_quick {ks : List Bs} {key : Bs} {i : Nat} (h92 : (92 : UInt8) ∉ key) (h : ks.findIdx? (· == key) = some i) : oIdx ks key = some i := by
  unfold oIdx
  rw [if_neg h92, h]
theorem oIdx_slow {ks : List Bs} {key : Bs} (h : (92 : UInt8) ∈ key ∨ ks.findIdx? (· == key) = none) : oIdx ks key = (ks.map unesc).findIdx? (· == key) := by
  unfold oIdx
  rw [List.findIdx?_map]
  by_cases h92 : (92 : UInt8) ∈ key
  · rw [if_pos h92]
    rfl
  · rw [if_neg h92]
    rcases h with h | h
    · exact absurd h h92
    · rw [h]
      rfl
set_option maxHeartbeats 4000000 in
theorem oget_any (w : World) (b o n c : Nat) (A : Option Addr) (ks : List Bs) (ps : List (Nat × Nat)) (key : Bs) (h : KvAt w b o false A n c ks ps) (hk : KeyFit ks) :
    Calls Tryz.prog 47 #[.pointer (some ⟨b, o, none⟩), .string (bStr key)] w fun e w' => Found (oIdx ks key) ps e ∧ Upd w w' (KeyC A n b o) := by
  have c0 := h.c0
  have c1 := h.c1
  have hm : c ≤ 9223372036854775807 := h.cm
  have hnc := h.le
  have HU := Aside0.mk (unkeys_any w b o n c A ks ps h hk)
  have HV := Aside0.mk h
  clear h hk
  by_cases h92 : (92 : UInt8) ∈ key
  · obtain ⟨p, r, hpr, hp92⟩ : ∃ p r, key = p ++ 92 :: r ∧ (92 : UInt8) ∉ p := by
      rcases split_at 92 key with h | h
      · exact absurd h92 h
      · exact h
    have HI : Aside0 (∀ w, Calls Tryz.prog 53 #[.string (bStr key), .int .u8 92] w fun e w' => e = .returned (.int .i64 (p.length : Int)) ∧ w = w') := ⟨fun w => by rw [hpr]; exact idx92_at p r w hp92⟩
    have HS : Aside0 (oIdx ks key = (ks.map unesc).findIdx? (· == key)) := ⟨oIdx_slow (.inl h92)⟩
    obtain ⟨t, ht⟩ : ∃ t, t = bStr key := ⟨_, rfl⟩
    rw [← ht] at HI ⊢
    have HT := Aside0.mk ht
    obtain ⟨m, hm2⟩ : ∃ m, m = p.length := ⟨_, rfl⟩
    rw [← hm2] at HI
    clear ht h92 hpr hp92 hm2
    have hneg : decide ((m : Int) < 0) = false := decide_eq_false (by omega)
    go_enter Tryz.func47, Tryz.ntmps47
    go_wp2_with fail
    refine (HI.out _).mono ?_
    rintro e w1 ⟨rfl, rfl⟩
    go_wp2_with fail
    refine HU.out.mono ?_
    rintro e w1 ⟨rfl, hV, hU⟩
    have c0 := hV.c0
    have hfit : Aside0 (KvAt w1 b o true A n c (ks.map unesc) ps) := ⟨hV⟩
    have HUp := Aside0.mk hU
    clear hV hU
    go_wp2
    go_loop [52] (fun sv => ∃ i : Nat, i ≤ n ∧ sv = .int .i64 i ∧ NoKey (ks.map unesc) key i) (fun sv => n - (intOf sv).toNat)
    case atStart => exact ⟨0, Nat.zero_le _, rfl, ⟨fun j k hj => by omega⟩⟩
    case round =>
      obtain ⟨i, hi, rfl, hN⟩ := hrel
      by_cases hlt : i < n
      · have hks : i < (ks.map unesc).length := by rw [hfit.out.kl]; exact hlt
        obtain ⟨g, rfl, hg, hs, q, hq, hp⟩ := hfit.out.keyAt hlt (List.getElem?_eq_getElem hks)
        obtain ⟨ki, hki⟩ : ∃ x, x = (ks.map unesc)[i] := ⟨_, rfl⟩
        rw [← hki] at hs
        by_cases he : ki = key
        · have hd : ((bStr ki).toList == t.toList) = true := by rw [HT.out, bStr_beq, decide_eq_true he]
          have HF : Aside0 (Found (oIdx ks key) ps (.returned (ptr q))) := ⟨by rw [HS.out, hN.hit hks (hki ▸ he)]; exact ⟨q, hq, rfl⟩⟩
          obtain ⟨ti, hti⟩ : ∃ x, x = bStr ki := ⟨_, rfl⟩
          rw [← hti] at hs hd
          obtain ⟨vq, hvq⟩ : ∃ x, x = ptr q := ⟨_, rfl⟩
          rw [← hvq] at hp HF
          have HL := Aside0.mk hvq
          clear hti hN hki he hq hg hvq hks
          go_wp2
          unfold ptr at HL
          rw [HL.out] at HF ⊢
          go_ret
          exact ⟨HF.out, HUp.out⟩
        · have hd : ((bStr ki).toList == t.toList) = false := by rw [HT.out, bStr_beq, decide_eq_false he]
          have HN := Aside0.mk (hN.step hks (hki ▸ he))
          obtain ⟨ti, hti⟩ : ∃ x, x = bStr ki := ⟨_, rfl⟩
          rw [← hti] at hs hd
          clear hti hN hki he hq hg hks hp
          go_wp2
          go_round
          case rel => exact ⟨i + 1, hlt, by go_num, HN.out⟩
          case measure => simp [intOf]; omega
      · obtain rfl : n = i := by omega
        have HF : Aside0 (Found (oIdx ks key) ps (.returned (.pointer none))) := ⟨by
          have e : n = (ks.map unesc).length := hfit.out.kl.symm
          rw [HS.out, NoKey.none (e ▸ hN)]
          rfl⟩
        clear hN
        go_wp2
        go_ret
        exact ⟨HF.out, HUp.out⟩
  · have HI := Aside0.mk (fun w => idx92_no key w h92)
    have H92 := Aside0.mk h92
    obtain ⟨t, ht⟩ : ∃ t, t = bStr key := ⟨_, rfl⟩
    rw [← ht] at HI ⊢
    have HT := Aside0.mk ht
    clear ht h92
    go_enter Tryz.func47, Tryz.ntmps47
    go_wp2_with fail
    refine (HI.out _).mono ?_
    rintro e w1 ⟨rfl, rfl⟩
    go_wp2
    go_loop [27] (fun sv => ∃ i : Nat, i ≤ n ∧ sv = .int .i64 i ∧ NoKey ks key i) (fun sv => n - (intOf sv).toNat)
    case atStart => exact ⟨0, Nat.zero_le _, rfl, ⟨fun j k hj => by omega⟩⟩
    case round =>
      obtain ⟨i, hi, rfl, hN⟩ := hrel
      by_cases hlt : i < n
      · have hks : i < ks.length := by rw [HV.out.kl]; exact hlt
        obtain ⟨g, rfl, hg, hs, q, hq, hp⟩ := HV.out.keyAt hlt (List.getElem?_eq_getElem hks)
        obtain ⟨ki, hki⟩ : ∃ x, x = ks[i] := ⟨_, rfl⟩
        rw [← hki] at hs
        by_cases he : ki = key
        · have hd : ((bStr ki).toList == t.toList) = true := by rw [HT.out, bStr_beq, decide_eq_true he]
          have HF : Aside0 (Found (oIdx ks key) ps (.returned (ptr q))) := ⟨by rw [oIdx_quick H92.out (hN.hit hks (hki ▸ he))]; exact ⟨q, hq, rfl⟩⟩
          obtain ⟨ti, hti⟩ : ∃ x, x = bStr ki := ⟨_, rfl⟩
          rw [← hti] at hs hd
          obtain ⟨vq, hvq⟩ : ∃ x, x = ptr q := ⟨_, rfl⟩
          rw [← hvq] at hp HF
          have HL := Aside0.mk hvq
          clear hti hN hki he hq hg hvq hks
          go_wp2
          unfold ptr at HL
          rw [HL.out] at HF ⊢
          go_ret
          exact ⟨HF.out, Upd.refl _ _⟩
        · have hd : ((bStr ki).toList == t.toList) = false := by rw [HT.out, bStr_beq, decide_eq_false he]
          have HN := Aside0.mk (hN.step hks (hki ▸ he))
          obtain ⟨ti, hti⟩ : ∃ x, x = bStr ki := ⟨_, rfl⟩
          rw [← hti] at hs hd
          clear hti hN hki he hq hg hks hp
          go_wp2
          go_round
          case rel => exact ⟨i + 1, hlt, by go_num, HN.out⟩
          case measure => simp [intOf]; omega
      · obtain rfl : n = i := by omega
        have HS : Aside0 (oIdx ks key = (ks.map unesc).findIdx? (· == key)) := ⟨oIdx_slow (.inr (by
          have e : n = ks.length := HV.out.kl.symm
          exact NoKey.none (e ▸ hN)))⟩
        clear hN
        go_wp2_with fail
        refine HU.out.mono ?_
        rintro e w1 ⟨rfl, hV, hU⟩
        have c0 := hV.c0
        have hfit : Aside0 (KvAt w1 b o true A n c (ks.map unesc) ps) := ⟨hV⟩
        have HUp := Aside0.mk hU
        clear hV hU
        go_wp2
        go_loop [52] (fun sv => ∃ i : Nat, i ≤ n ∧ sv = .int .i64 i ∧ NoKey (ks.map unesc) key i) (fun sv => n - (intOf sv).toNat)
        case atStart => exact ⟨0, Nat.zero_le _, rfl, ⟨fun j k hj => by omega⟩⟩
        case round =>
          obtain ⟨i, hi, rfl, hN⟩ := hrel
          by_cases hlt : i < n
          · have hks : i < (ks.map unesc).length := by rw [hfit.out.kl]; exact hlt
            obtain ⟨g, rfl, hg, hs, q, hq, hp⟩ := hfit.out.keyAt hlt (List.getElem?_eq_getElem hks)
            obtain ⟨ki, hki⟩ : ∃ x, x = (ks.map unesc)[i] := ⟨_, rfl⟩
            rw [← hki] at hs
            by_cases he : ki = key
            · have hd : ((bStr ki).toList == t.toList) = true := by rw [HT.out, bStr_beq, decide_eq_true he]
              have HF : Aside0 (Found (oIdx ks key) ps (.returned (ptr q))) := ⟨by rw [HS.out, hN.hit hks (hki ▸ he)]; exact ⟨q, hq, rfl⟩⟩
              obtain ⟨ti, hti⟩ : ∃ x, x = bStr ki := ⟨_, rfl⟩
              rw [← hti] at hs hd
              obtain ⟨vq, hvq⟩ : ∃ x, x = ptr q := ⟨_, rfl⟩
              rw [← hvq] at hp HF
              have HL := Aside0.mk hvq
              clear hti hN hki he hq hg hvq hks
              go_wp2
              unfold ptr at HL
              rw [HL.out] at HF ⊢
              go_ret
              exact ⟨HF.out, HUp.out⟩
            · have hd : ((bStr ki).toList == t.toList) = false := by rw [HT.out, bStr_beq, decide_eq_false he]
              have HN := Aside0.mk (hN.step hks (hki ▸ he))
              obtain ⟨ti, hti⟩ : ∃ x, x = bStr ki := ⟨_, rfl⟩
              rw [← hti] at hs hd
              clear hti hN hki he hq hg hks hp
              go_wp2
              go_round
              case rel => exact ⟨i + 1, hlt, by go_num, HN.out⟩
              case measure => simp [intOf]; omega
          · obtain rfl : n = i := by omega
            have HF : Aside0 (Found (oIdx ks key) ps (.returned (.pointer none))) := ⟨by
              have e : n = (ks.map unesc).length := hfit.out.kl.symm
              rw [HS.out, NoKey.none (e ▸ hN)]
              rfl⟩
            clear hN
            go_wp2
            go_ret
            exact ⟨HF.out, HUp.out⟩
end Go.Proofs.YtgldcjmdjhghpaaGreatDoor
namespace Go.Proofs.YtgldcjmdjhghpaaGreatDoor
open Go.RowKit Go.Proofs.YtgldcjmdjhghpaaGreatDoorW.PrintWords Go.ChangeShapes Go.WideShapes
set_option linter.unusedVariables false
set_option linter.unusedSimpArgs false
set_option maxRecDepth 100000
theorem find_idx {α : Type} (p : α → Bool) (l : List α) : l.find? p = (l.findIdx? p).bind (fun i => l[i]?) := by
  induction l with
  | nil => rfl
  | cons a l ih =>
    rw [List.find?_cons, List.findIdx?_cons]
    cases h : p a with
    | true => rfl
    | false =>
      show l.find? p = (if false = true then _ else _ : Option Nat).bind _
      rw [if_neg Bool.false_ne_true, ih]
      cases l.findIdx? p <;> rfl
theorem oGet_idx (kvs : List (Bs × JV)) (key : Bs) : oGet kvs key = ((oIdx (kvs.map (·.1)) key).bind fun i => kvs[i]?).map (·.2) := by
  unfold oGet oIdx
  have hc : (key.all noBack = true) ↔ ¬ (92 : UInt8) ∈ key := by
    rw [List.all_eq_true]
    constructor
    · intro h hm
      have := h _ hm
      cases this
    · intro h c hc
      exact bne_iff_ne.2 (fun e => h (e ▸ hc))
  have e1 : (kvs.map (·.1)).findIdx? (· == key) = kvs.findIdx? (fun p => p.1 == key) := by rw [List.findIdx?_map]; rfl
  have e2 : (kvs.map (·.1)).findIdx? (fun k => unesc k == key) = kvs.findIdx? (fun p => unesc p.1 == key) := by rw [List.findIdx?_map]; rfl
  rw [e1, e2, find_idx (fun p : Bs × JV => p.1 == key), find_idx (fun p : Bs × JV => unesc p.1 == key)]
  by_cases h : (92 : UInt8) ∈ key
  · rw [if_neg (fun hh => hc.1 hh h), if_pos h]
  · rw [if_pos (hc.2 h), if_neg h]
    cases hf : kvs.findIdx? (fun p => p.1 == key) with
    | none => rfl
    | some i =>
      have hi : i < kvs.length := by
        rw [List.findIdx?_eq_some_iff_getElem] at hf
        exact hf.1
      simp only [Option.bind_some, List.getElem?_eq_getElem hi, Option.map_some]
theorem vget_any (w : World) (b o n c g : Nat) (A : Option Addr) (ks : List Bs) (ps : List (Nat × Nat)) (key : Bs) (h : KvAt w b o false A n c ks ps) (hk : KeyFit ks) (h4 : w.cell? ⟨b, o + 4, none⟩ = some (.int .i64 1)) (hg : w.cell? ⟨g, 0, none⟩ = some (.string (bStr key))) :
    Calls Tryz.prog 40 #[.pointer (some ⟨b, o, none⟩), .slice (some ⟨g, 0, none⟩) 1 1] w fun e w' => Found (oIdx ks key) ps e ∧ Upd w w' (KeyC A n b o) := by
  have HG := Aside0.mk (oget_any w b o n c A ks ps key h hk)
  obtain ⟨t, ht⟩ : ∃ t, t = bStr key := ⟨_, rfl⟩
  rw [← ht] at HG hg
  obtain ⟨r, hr⟩ : ∃ r, r = oIdx ks key := ⟨_, rfl⟩
  rw [← hr] at HG ⊢
  clear ht hr h hk
  go_enter Tryz.func40, Tryz.ntmps40
  go_wp2
  refine wp_loop_rounds 2 ?_
  rw [rounds_succ]
  go_wp2_with fail
  refine HG.out.mono ?_
  cases r with
  | none =>
    rintro e w1 ⟨he, hU⟩
    obtain rfl : e = .returned (.pointer none) := he
    have HU := Aside0.mk hU
    clear hU
    go_wp2
    go_ret
    exact ⟨rfl, HU.out⟩
  | some i =>
    rintro e w1 ⟨he, hU⟩
    obtain ⟨q, hq, rfl⟩ := he
    have HU := Aside0.mk hU
    have HQ := Aside0.mk hq
    clear hU hq
    unfold ptr
    go_wp2
    rw [rounds_succ]
    go_wp2
    go_ret
    exact ⟨⟨q, HQ.out, rfl⟩, HU.out⟩
/-- What a header gives for a name. -/
def Got (B : Nat) (w' : World) (r : Option JV) (e : Ending) : Prop :=
  match r with
  | some v => ∃ b o, e = .returned (.tuple #[.pointer (some ⟨b, o, none⟩), .nilIface]) ∧ Leaf w' B b o v
  | none => ∃ x, e = .returned (.tuple #[.pointer none, .iface 96 x])
theorem found_cases {kvs : List (Bs × JV)} {key : Bs} {ps : List (Nat × Nat)} {e : Ending} (hp : ps.length = kvs.length) (h : Found (oIdx (kvs.map (·.1)) key) ps e) :
    (oGet kvs key = none ∧ e = .returned (.pointer none)) ∨ ∃ (i : Nat) (q : Nat × Nat) (p : Bs × JV), oGet kvs key = some p.2 ∧ ps[i]? = some q ∧ kvs[i]? = some p ∧ e = .returned (ptr q) := by
  rw [oGet_idx]
  cases hi : oIdx (kvs.map (·.1)) key with
  | none =>
    rw [hi] at h
    exact .inl ⟨rfl, h⟩
  | some i =>
    rw [hi] at h
    obtain ⟨q, hq, he⟩ := h
    have hlt : i < kvs.length := by
      have := (List.getElem?_eq_some_iff.1 hq).1
      omega
    exact .inr ⟨i, q, kvs[i], by simp [List.getElem?_eq_getElem hlt], hq, List.getElem?_eq_getElem hlt, he⟩
theorem hget_tree (w : World) (g B : Nat) (kvs : List (Bs × JV)) (key : Bs) (hH : HdrAt B w g (some (.obj kvs))) (hB : B ≤ w.heap.size) (hk : KeyFit (kvs.map (·.1))) :
    Calls Tryz.prog 31 #[hdrV g, .string (bStr key)] w fun e w' => Got B w' (oGet kvs key) e ∧ Below B w w' := by
  obtain ⟨b, o, hat, hT⟩ := hH
  obtain ⟨al, h4, A, c, ps, hV, hS, hSg, hks⟩ := hT.kvs
  have hblt := hS.2
  obtain ⟨t, ht⟩ : ∃ t, t = bStr key := ⟨_, rfl⟩
  have hb0 : Below w.heap.size w (w.alloc (.cells #[.string t] 9)) := (Below.refl _ _).alloc (Nat.le_refl _) _
  have HV := Aside0.mk (vget_any (w.alloc (.cells #[.string t] 9)) b o kvs.length c w.heap.size A (kvs.map (·.1)) ps key (hV.on hb0) hk ((hb0.cell (p := ⟨b, o + 4, none⟩) hblt).trans h4) (by rw [← ht, World.cell?_alloc_new]; rfl))
  have HEnd : Aside0 (∀ e w', Found (oIdx (kvs.map (·.1)) key) ps e → Upd (w.alloc (.cells #[.string t] 9)) w' (KeyC A kvs.length b o) → Below B w w' ∧ ((oGet kvs key = none ∧ e = .returned (.pointer none)) ∨ ∃ b' o' v, oGet kvs key = some v ∧ e = .returned (.pointer (some ⟨b', o', none⟩)) ∧ Leaf w' B b' o' v)) := ⟨fun e w' hF hU => by
    have hU2 : Upd w w' (KeyC A kvs.length b o) := (Upd.of_below hb0 (fun _ _ => False)).trans hU (fun _ _ _ h => h.elim) (fun _ _ _ h => h)
    refine ⟨hU2.below B hB (fun b' o' hb' hh => ?_), ?_⟩
    · rcases hh with ⟨hn, hA, _⟩ | ⟨rfl, _⟩
      · have := (hSg b' hn hA).1
        omega
      · have := hS.1
        omega
    · rcases found_cases hV.pl hF with h | ⟨i, q, p, h1, h2, h3, h5⟩
      · exact .inl h
      · exact .inr ⟨q.1, q.2, p.2, h1, h5, (hks i q p h2 h3).leaf (fun b o h => h.1) (Calm.key al hV hU2)⟩⟩
  have ht1 := fun (v : Value) (xT : TypeId) (w : World) => ta_one (P := Tryz.prog) Tryz.underlying91 (by simp) v xT w
  have h0 : w.cell? ⟨g, 0, none⟩ = some (.pointer (some ⟨b, o, none⟩)) := by rw [cell_of hat]; rfl
  have h1 : w.cell? ⟨g, 1, none⟩ = some .nilIface := by rw [cell_of hat]; rfl
  obtain ⟨r, hr⟩ : ∃ r, r = oGet kvs key := ⟨_, rfl⟩
  rw [← hr] at HEnd ⊢
  rw [← ht]
  clear hat hT hV hS hSg hks hk ht hb0 hr h4
  unfold hdrV
  go_enter Tryz.func31, Tryz.ntmps31
  go_wp2_with fail
  refine HV.out.mono ?_
  rintro e w1 ⟨hF, hU⟩
  obtain ⟨hb, hc⟩ := HEnd.out e w1 hF hU
  have HB := Aside0.mk hb
  clear hF hU hb
  rcases hc with ⟨rfl, rfl⟩ | ⟨b', o', v, rfl, rfl, hL⟩
  · go_wp2
    go_ret2
    exact ⟨⟨_, rfl⟩, HB.out⟩
  · have HL := Aside0.mk hL
    clear hL
    go_wp2
    go_ret2
    exact ⟨⟨b', o', rfl, HL.out⟩, HB.out⟩
end Go.Proofs.YtgldcjmdjhghpaaGreatDoor
namespace Go.Proofs.YtgldcjmdjhghpaaGreatDoor
open Go.RowKit Go.Proofs.YtgldcjmdjhghpaaGreatDoorW.PrintWords Go.ChangeShapes Go.WideShapes
set_option linter.unusedVariables false
set_option linter.unusedSimpArgs false
set_option maxRecDepth 100000
def fitS : JV → Prop
  | .str raw => Well raw ∧ raw.length ≤ 900000000000
  | _ => True
/-- What the readers may be asked for. -/
def fitV : JV → Prop
  | .str raw => Well raw ∧ raw.length ≤ 900000000000
  | .arr xs => (∀ x ∈ xs, fitS x) ∧ xs.length ≤ 1000000000
  | _ => True
/-- A header that is an object (or none), of which the texts can be read. -/
def FitO (t : Option JV) : Prop := ∀ v, t = some v → ∃ kvs, v = .obj kvs ∧ KeyFit (kvs.map (·.1)) ∧ ∀ p ∈ kvs, fitV p.2
def tGet (t : Option JV) (key : Bs) : Option JV := t.bind fun v => v.get key
theorem oGet_mem {kvs : List (Bs × JV)} {key : Bs} {v : JV} (h : oGet kvs key = some v) : ∃ p ∈ kvs, p.2 = v := by
  rw [oGet_idx] at h
  cases hi : oIdx (kvs.map (·.1)) key with
  | none => rw [hi] at h; cases h
  | some i =>
    rw [hi, Option.bind_some] at h
    cases hk : kvs[i]? with
    | none => rw [hk] at h; cases h
    | some p =>
      rw [hk] at h
      injection h with h
      exact ⟨p, List.mem_of_getElem? hk, h⟩
/-- headerGet, whatever the header. -/
def GotH (B : Nat) (w' : World) (r : Option JV) (e : Ending) : Prop :=
  match r with
  | some v => ∃ b o, e = .returned (.tuple #[.pointer (some ⟨b, o, none⟩), .nilIface]) ∧ Leaf w' B b o v ∧ fitV v
  | none => ∃ T x, e = .returned (.tuple #[.pointer none, .iface T x])
theorem hget_any (w : World) (g B : Nat) (t : Option JV) (key : Bs) (hH : HdrAt B w g t) (hB : B ≤ w.heap.size) (hf : FitO t) :
    Calls Tryz.prog 31 #[hdrV g, .string (bStr key)] w fun e w' => GotH B w' (tGet t key) e ∧ Below B w w' := by
  cases t with
  | none =>
    obtain ⟨k, hat⟩ := hH
    refine (hget_err w g k (bStr key) hat).mono ?_
    rintro e w' ⟨rfl, hb⟩
    exact ⟨⟨_, _, rfl⟩, hb.mono hB⟩
  | some v =>
    obtain ⟨kvs, rfl, hk, hv⟩ := hf v rfl
    refine (hget_tree w g B kvs key hH hB hk).mono ?_
    rintro e w' ⟨hG, hb⟩
    refine ⟨?_, hb⟩
    show GotH B w' (oGet kvs key) e
    cases hr : oGet kvs key with
    | none =>
      rw [hr] at hG
      obtain ⟨x, rfl⟩ := hG
      exact ⟨_, x, rfl⟩
    | some v =>
      rw [hr] at hG
      obtain ⟨b, o, rfl, hL⟩ := hG
      obtain ⟨p, hp, rfl⟩ := oGet_mem hr
      exact ⟨b, o, rfl, hL, hv p hp⟩
def strT (t : Option JV) (key : Bs) : Option Bs :=
  match tGet t key with
  | some (.str raw) => some (unesc raw)
  | _ => none
def boolT (t : Option JV) (key : Bs) : Option Bool :=
  match tGet t key with
  | some .tru => some true
  | some .fls => some false
  | _ => none
theorem hhas_any (w : World) (g B : Nat) (t : Option JV) (key : Bs) (hH : HdrAt B w g t) (hB : B ≤ w.heap.size) (hf : FitO t) :
    Calls Tryz.prog 25 #[hdrV g, .string (bStr key)] w fun e w' => e = .returned (.bool (tGet t key).isSome) ∧ Below B w w' := by
  have HG := Aside0.mk (hget_any w g B t key hH hB hf)
  obtain ⟨r, hr⟩ : ∃ r, r = tGet t key := ⟨_, rfl⟩
  rw [← hr] at HG ⊢
  obtain ⟨k, hk⟩ : ∃ k, k = bStr key := ⟨_, rfl⟩
  rw [← hk] at HG ⊢
  clear hH hf hr hk hB
  go_enter Tryz.func25, Tryz.ntmps25
  go_wp2_with fail
  refine HG.out.mono ?_
  cases r with
  | none =>
    rintro e w1 ⟨⟨T, x, rfl⟩, hb⟩
    have HB := Aside0.mk hb
    clear hb
    go_wp2
    go_ret
    exact ⟨rfl, HB.out⟩
  | some v =>
    rintro e w1 ⟨⟨b, o, rfl, hL⟩, hb⟩
    have HB := Aside0.mk hb
    clear hb hL
    go_wp2
    go_ret
    exact ⟨rfl, HB.out⟩
/-- A text that was asked for, or an error. -/
def RetStr (r : Option Bs) (e : Ending) : Prop :=
  match r with
  | some s => e = .returned (.tuple #[.string (bStr s), .nilIface])
  | none => ∃ T x, e = .returned (.tuple #[.string ByteArray.empty, .iface T x])
def RetBool (r : Option Bool) (e : Ending) : Prop :=
  match r with
  | some s => e = .returned (.tuple #[.bool s, .nilIface])
  | none => ∃ T x, e = .returned (.tuple #[.bool false, .iface T x])
/-- The number of a value's kind, where it is no text. -/
theorem Leaf.kind {w : World} {B b o : Nat} {v : JV} (h : Leaf w B b o v) (hv : ∀ raw, v ≠ .str raw) : ∃ k : Int, (k = 0 ∨ k = 1 ∨ k = 2 ∨ k = 4 ∨ k = 5 ∨ k = 6) ∧ w.cell? ⟨b, o + 4, none⟩ = some (.int .i64 k) := by
  cases h with
  | str => exact absurd rfl (hv _)
  | num _ _ _ h4 => exact ⟨4, by omega, h4⟩
  | tru _ _ h4 => exact ⟨5, by omega, h4⟩
  | fls _ _ h4 => exact ⟨6, by omega, h4⟩
  | nul _ _ h4 => exact ⟨0, by omega, h4⟩
  | arr _ _ h4 => exact ⟨2, by omega, h4⟩
  | obj _ _ h4 => exact ⟨1, by omega, h4⟩
theorem strV_cases (v : JV) : (∃ raw, v = .str raw) ∨ ∀ raw, v ≠ .str raw := by
  cases v with
  | str raw => exact .inl ⟨raw, rfl⟩
  | _ => exact .inr (fun _ h => by cases h)
set_option maxHeartbeats 1000000 in
theorem hstr_any (w : World) (g B : Nat) (t : Option JV) (key : Bs) (hH : HdrAt B w g t) (hB : B ≤ w.heap.size) (hf : FitO t) :
    Calls Tryz.prog 19 #[hdrV g, .string (bStr key)] w fun e w' => RetStr (strT t key) e ∧ Below B w w' := by
  have HG := Aside0.mk (hget_any w g B t key hH hB hf)
  have HSt : Aside0 (∀ r, r = tGet t key → strT t key = match r with | some (.str raw) => some (unesc raw) | _ => none) := ⟨fun r hr => by rw [hr]; rfl⟩
  obtain ⟨r, hr⟩ : ∃ r, r = tGet t key := ⟨_, rfl⟩
  rw [← hr] at HG
  have HS := Aside0.mk (HSt.out r hr)
  obtain ⟨s, hs⟩ : ∃ s, s = strT t key := ⟨_, rfl⟩
  rw [← hs] at HS ⊢
  obtain ⟨k, hk⟩ : ∃ k, k = bStr key := ⟨_, rfl⟩
  rw [← hk] at HG ⊢
  have HB0 := Aside0.mk hB
  clear hH hf hr hk hB HSt hs
  go_enter Tryz.func19, Tryz.ntmps19
  go_wp2_with fail
  refine HG.out.mono ?_
  cases r with
  | none =>
    rintro e w1 ⟨⟨T, x, rfl⟩, hb⟩
    have HB := Aside0.mk hb
    obtain rfl : s = none := HS.out
    clear hb
    go_wp2
    go_ret2
    exact ⟨⟨_, _, rfl⟩, HB.out⟩
  | some v =>
    rintro e w1 ⟨⟨b, o, rfl, hL, hfv⟩, hb⟩
    rcases strV_cases v with ⟨raw, rfl⟩ | hv
    · obtain rfl : s = some (unesc raw) := HS.out
      cases hL with
      | str hB1 hT al hStr =>
        have hl := unesc_len raw
        have HY := Aside0.mk (vbytes_yes w1 b o raw hT hfv.2 (by have := hfv.2; omega) hfv.1 hStr)
        have HB := Aside0.mk (And.intro hb hB1)
        obtain ⟨q, hq⟩ : ∃ q, q = unesc raw := ⟨_, rfl⟩
        rw [← hq] at HY
        obtain ⟨l, hlq⟩ : ∃ l, l = q.length := ⟨_, rfl⟩
        rw [← hlq] at HY
        have HL := Aside0.mk (And.intro hlq hq)
        clear hb hB1 hT al hStr hfv hq hl hlq HS
        go_wp2_with fail
        refine HY.out.mono ?_
        rintro e w2 ⟨g2, cap, rfl, hBuf, hD, hU⟩
        have hgk := kB_string (P := Tryz.prog) cap Tryz.underlying30 Tryz.underlying5 Tryz.underlying9 hBuf.C
        rw [← HL.out.1] at hgk
        obtain ⟨u, hu⟩ : ∃ u, u = bStr q := ⟨_, rfl⟩
        rw [← hu] at hgk
        have HU := Aside0.mk (And.intro hU hu)
        clear hBuf hD hU hu
        go_wp2
        go_ret2
        refine ⟨by show _ = Ending.returned (.tuple #[.string (bStr (unesc raw)), .nilIface]); rw [← HL.out.2, ← HU.out.2]; rfl, HB.out.1.trans (HU.out.1.below B (Nat.le_trans HB0.out HB.out.1.size) (fun b' o' hb' hh => by have := hh.1; have := HB.out.2; omega))⟩
    · obtain ⟨k4, hk4, h4⟩ := hL.kind hv
      have HN := Aside0.mk (vbytes_no w1 b o k4 hk4 h4)
      obtain rfl : s = none := by
        rw [HS.out]
        cases v with
        | str raw => exact absurd rfl (hv raw)
        | _ => rfl
      have HB := Aside0.mk hb
      clear hb hL hfv hv h4 hk4
      go_wp2_with fail
      refine HN.out.mono ?_
      rintro e w2 ⟨g2, rfl, hb2⟩
      have HB2 := Aside0.mk hb2
      clear hb2
      unfold errP
      go_wp2
      go_ret2
      exact ⟨⟨_, _, rfl⟩, HB.out.trans (HB2.out.mono (Nat.le_trans HB0.out HB.out.size))⟩
theorem endB {B : Nat} {w w' : World} (h : Below B w w') (n : Nat) : Below B w (w'.drewN n) := by
  induction n generalizing w' with
  | zero => exact h
  | succ n ih => exact (ih h).drew
/-- What impl.HeadString returns. -/
theorem headString_any (s key : Bs) (w : World) (n c : Nat) (A : Option Addr) (hs : s.length ≤ 900000000000) (hn : n ≤ 900000000000) (hT : kB.C w A n s) (hf : FitO (pTop s)) :
    Calls Tryz.prog 8 #[.slice A n c, .string (bStr key)] w fun e w' => e = .returned (.tuple #[.string (bStr ((strT (pTop s) key).getD [])), .bool (strT (pTop s) key).isSome]) ∧ Below w.heap.size w w' := by
  have HH := Aside0.mk (head_any s w n c A hs hn hT)
  have HS := Aside0.mk (fun (w1 : World) (g : Nat) (h : HdrAt w.heap.size w1 g (pTop s)) (hB : w.heap.size ≤ w1.heap.size) => hstr_any w1 g w.heap.size (pTop s) key h hB hf)
  obtain ⟨r, hr⟩ : ∃ r, r = strT (pTop s) key := ⟨_, rfl⟩
  rw [← hr] at HS ⊢
  obtain ⟨t, ht⟩ : ∃ t, t = pTop s := ⟨_, rfl⟩
  rw [← ht] at HH HS
  obtain ⟨k, hk⟩ : ∃ k, k = bStr key := ⟨_, rfl⟩
  rw [← hk] at HS ⊢
  clear hs hn hT hf hr ht hk
  go_enter Tryz.func8, Tryz.ntmps8
  go_wp2_with fail
  refine HH.out.mono ?_
  rintro e w1 ⟨g, rfl, hb, hd⟩
  have HS1 := Aside0.mk (HS.out w1 g hd hb.size)
  have HB := Aside0.mk hb
  clear hb hd
  go_wp2_with fail
  refine HS1.out.mono ?_
  cases r with
  | none =>
    rintro e w2 ⟨⟨T, x, rfl⟩, hb2⟩
    have HB2 := Aside0.mk hb2
    clear hb2
    go_wp2
    go_quiet (fail)
    go_wp2
    go_ret2
    exact ⟨rfl, endB (HB.out.trans HB2.out) _⟩
  | some q =>
    rintro e w2 ⟨he, hb2⟩
    obtain rfl : e = .returned (.tuple #[.string (bStr q), .nilIface]) := he
    have HB2 := Aside0.mk hb2
    obtain ⟨u, hu⟩ : ∃ u, u = bStr q := ⟨_, rfl⟩
    rw [← hu]
    have HU := Aside0.mk hu
    clear hb2 hu
    go_wp2
    go_quiet (fail)
    go_wp2
    go_ret2
    exact ⟨by show _ = Ending.returned (.tuple #[.string (bStr q), _]); rw [← HU.out]; rfl, endB (HB.out.trans HB2.out) _⟩
theorem headHas_any (s key : Bs) (w : World) (n c : Nat) (A : Option Addr) (hs : s.length ≤ 900000000000) (hn : n ≤ 900000000000) (hT : kB.C w A n s) (hf : FitO (pTop s)) :
    Calls Tryz.prog 13 #[.slice A n c, .string (bStr key)] w fun e w' => e = .returned (.bool (tGet (pTop s) key).isSome) ∧ Below w.heap.size w w' := by
  have HH := Aside0.mk (head_any s w n c A hs hn hT)
  have HS := Aside0.mk (fun (w1 : World) (g : Nat) (h : HdrAt w.heap.size w1 g (pTop s)) (hB : w.heap.size ≤ w1.heap.size) => hhas_any w1 g w.heap.size (pTop s) key h hB hf)
  obtain ⟨r, hr⟩ : ∃ r, r = (tGet (pTop s) key).isSome := ⟨_, rfl⟩
  rw [← hr] at HS ⊢
  obtain ⟨t, ht⟩ : ∃ t, t = pTop s := ⟨_, rfl⟩
  rw [← ht] at HH HS
  obtain ⟨k, hk⟩ : ∃ k, k = bStr key := ⟨_, rfl⟩
  rw [← hk] at HS ⊢
  clear hs hn hT hf hr ht hk
  go_enter Tryz.func13, Tryz.ntmps13
  go_wp2_with fail
  refine HH.out.mono ?_
  rintro e w1 ⟨g, rfl, hb, hd⟩
  have HS1 := Aside0.mk (HS.out w1 g hd hb.size)
  have HB := Aside0.mk hb
  clear hb hd
  go_wp2_with fail
  refine HS1.out.mono ?_
  rintro e w2 ⟨rfl, hb2⟩
  have HB2 := Aside0.mk hb2
  clear hb2
  go_wp2
  go_ret
  exact ⟨rfl, HB.out.trans HB2.out⟩
end Go.Proofs.YtgldcjmdjhghpaaGreatDoor
