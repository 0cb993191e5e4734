/-
  inner/base64: Encode, EncodeToString, EncodedLen: their contracts.
-/
import Derived.Test.YtlncbbmmlhammaaDoorEncode
import Derived.Test.YtlncbbmmlhammaaDoorClone
namespace Go.Proofs.YtlncbbmmlhammaaDoor
open Go.RowKit Go.Proofs.YtlncbbmmlhammaaDoorW.PrintWords Go.Lib
set_option linter.unusedVariables false
set_option linter.unusedSimpArgs false
/-- Two blocks of a list are two. -/
theorem Hold.blk_ne {w0 : World} {B : Nat} {w : World} {L : List Asrt} {g h : Nat} {o p : Obj} (hS : Hold w0 B w L) (i j : Nat) (hi : L[i]? = some (.blk g o)) (hj : L[j]? = some (.blk h p)) (hij : i ≠ j) : g ≠ h := by
  intro e
  subst e
  obtain ⟨F, h1, h2, h3⟩ := hS.own
  exact hij (h3 i j g (h1 i _ hi).1 (h1 j _ hj).1)
theorem putN_list : ∀ (vs : List Value) (cs : Array Value) (off : Nat), off + vs.length ≤ cs.size → (putN cs off vs).toList = cs.toList.take off ++ vs ++ cs.toList.drop (off + vs.length)
  | [], cs, off, h => by simp [putN]
  | v :: r, cs, off, h => by
    have hl : off < cs.toList.length := by simp at h; simp; omega
    show (putN (cs.setIfInBounds off v) (off + 1) r).toList = _
    rw [putN_list r _ _ (by simp at h; rw [Array.size_setIfInBounds]; omega), Array.toList_setIfInBounds]
    have e1 : (cs.toList.set off v).take (off + 1) = cs.toList.take off ++ [v] := by
      rw [List.take_add_one, List.take_set_of_le (Nat.le_refl _), List.getElem?_set_self hl]
      rfl
    have e2 : (cs.toList.set off v).drop (off + 1 + r.length) = cs.toList.drop (off + (v :: r).length) := by
      rw [List.drop_set_of_lt (by omega), List.length_cons]
      congr 1
      omega
    rw [e1, e2]
    simp
set_option maxRecDepth 100000 in
theorem encode_nil (w : World) (p v A : Value) (B : Option Addr) (c : Nat) (hA : A = .slice B 0 c) :
    Calls Tryd.prog 49 #[p, v, A] w fun e w' => e = .returned (.tuple #[]) ∧ w = w' := by
  subst hA
  go_enter Tryd.func49, Tryd.ntmps49
  go_wp2
  (try simp only [Exit.inBlock, Exit.then])
  refine bodyPost_ret (results_none rfl _ _ _) rfl ?_
  exact ⟨rfl, rfl⟩
theorem getEnc_any (w : World) : Calls Tryd.prog 25 #[] w fun e w' => ∃ g, e = .returned (.iface 61 (.pointer (some ⟨g, 0, none⟩))) ∧ Hold w w.heap.size w' [.blk g (.cells (encX true (-1)) 70)] := by
  go_enter Tryd.func25, Tryd.ntmps25
  go_wp2_with fail
  refine (rawURL_any _).mono ?_
  rintro e w1 ⟨g, rfl, hH⟩
  have H1 := Aside0.mk hH
  clear hH
  go_wp2
  go_ret
  exact ⟨_, rfl, H1.out⟩
set_option maxRecDepth 100000 in
set_option maxHeartbeats 2000000 in
theorem encode64_any (w : World) (A : Option Addr) (n c b o : Nat) (xs : List UInt8) (hn : n ≤ 1000000000) (hA : 0 < n → A = some ⟨b, o, none⟩) (hnc : n ≤ c) (hC : kB.C w A n xs) :
    Calls Tryd.prog 21 #[.slice A n c] w fun e w' => ∃ v, e = .returned v ∧ Hold w w.heap.size w' [.row kB 5 v (b64 true xs)] := by
  have hx := hC.1
  have HC := Aside0.mk hC
  have HA := Aside0.mk hA
  clear hC hA
  go_enter Tryd.func21, Tryd.ntmps21
  go_wp2_with fail
  refine (getEnc_any _).mono ?_
  rintro e w1 ⟨g, rfl, hH⟩
  have H1 := Aside0.mk hH
  clear hH
  go_wp2_with fail
  refine (encLen_any w1 true g n hn H1.out).mono ?_
  rintro e w2 ⟨rfl, rfl⟩
  obtain ⟨m, hm⟩ : ∃ m, m = encLen n := ⟨_, rfl⟩
  have hml : m ≤ 2000000000 := by rw [hm]; unfold encLen; omega
  rw [← hm]
  have HM := Aside0.mk hm
  clear hm
  go_upto_region 3 with ((with_reducible refine at_dst (N := 10) rfl ?_); refine Hold.make (enc := bV) (h1 := fun _ => rfl) H1.out 5 rfl rfl 22 (.tmp 9) (.tmp 9) rfl ((m : Int)) rfl rfl Tryd.underlying22 (0 : UInt8) 1 infoB rfl (by omega) (by omega) (by omega) ?_; intro v_ _ H2'; have H2 := Aside0.mk H2'; clear H2' H1)
  rw [Int.toNat_natCast] at H2
  rcases Nat.eq_zero_or_pos n with h0 | h0
  · subst h0
    have hm0 : m = 0 := HM.out
    have hxs : xs = [] := List.eq_nil_of_length_eq_zero hx
    subst hm0 hxs
    go_wp2_with fail
    refine (encode_nil _ _ _ _ A c rfl).mono ?_
    rintro e w3 ⟨rfl, rfl⟩
    go_wp2
    go_ret
    exact ⟨_, rfl, H2.out.pick [0] (by decide) (L' := [.row kB 5 v_ []]) rfl⟩
  · have hA := HA.out h0
    subst hA
    have hm0 : 0 < m := by rw [HM.out]; unfold encLen; omega
    obtain ⟨gd, cd, cs, rfl, hmc, hcm, hcs, _, hB⟩ := H2.out.toBlk 0 rfl (fun e => by have := congrArg List.length e; rw [List.length_replicate] at this; simp at this; omega)
    rw [List.length_replicate] at hmc
    have HB := Aside0.mk ((hB.pick [1, 0] (by decide) (L' := [.blk g (.cells (encX true (-1)) 70), .blk gd (.cells cs 5)]) rfl))
    have hne : g ≠ gd := HB.out.blk_ne 0 1 rfl rfl (by decide)
    clear hB
    rw [List.length_replicate]
    have Hfit : Aside0 (0 + m ≤ cs.size) := ⟨by omega⟩
    have HX := Aside0.mk hx
    go_wp2_with fail
    refine (encode_any (w0 := w) (B := w.heap.size) (L := []) _ true g gd 0 b o n c m cd 5 _ _ xs cs hn (fun _ => rfl) (fun _ => rfl) HM.out Hfit.out hmc hnc hne HB.out (fun w' cs' h => h.C HC.out)).mono ?_
    rintro e w3 ⟨rfl, hH⟩
    have HH := Aside0.mk hH
    clear hH
    go_wp2
    go_ret
    refine ⟨_, rfl, ?_⟩
    have hlb : (b64 true xs).length = m := by rw [b64_len, HX.out, HM.out]
    have h := HH.out.blkRow (enc := bV) (h1 := fun _ => rfl) 1 rfl (n := m) (cap := cd) (xs := b64 true xs) (by rw [putN_size]; exact hcs) hmc hcm (by
      rw [putN_list _ _ _ (by rw [List.length_map]; omega)]
      simp only [List.take_zero, List.nil_append, List.length_map]
      rw [List.take_append_of_le_length (by rw [List.length_map]; omega), List.take_of_length_le (by rw [List.length_map]; omega)]) hlb.symm
    exact h.pick [1] (by decide) (L' := [.row kB 5 (.slice (some ⟨gd, 0, none⟩) m cd) (b64 true xs)]) rfl
end Go.Proofs.YtlncbbmmlhammaaDoor
