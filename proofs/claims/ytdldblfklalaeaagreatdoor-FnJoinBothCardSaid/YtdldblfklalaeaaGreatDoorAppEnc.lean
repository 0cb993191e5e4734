/-
  AppendEncode of encoding/base64 and of inner/base64; impl.EncodedBehind: their contracts.
-/
import Derived.Test.YtdldblfklalaeaaGreatDoorSc
namespace Go.Proofs.YtdldblfklalaeaaGreatDoor
open Go.RowKit Go.Proofs.YtdldblfklalaeaaGreatDoorW.PrintWords Go.Lib
set_option linter.unusedVariables false
set_option linter.unusedSimpArgs false
theorem encLen_pos {n : Nat} (h : 0 < n) : 0 < encLen n := by unfold encLen; omega
set_option maxRecDepth 100000 in
set_option maxHeartbeats 4000000 in
theorem appEnc_any {w0 : World} {B : Nat} {L : List Asrt} (w : World) (url : Bool) (g : Nat) (v : Value) (xs : List UInt8) (A : Option Addr) (n c b o : Nat) (ys : List UInt8) (hn : n ≤ 1000000000) (hx : xs.length ≤ 4000000000)
    (hA : 0 < n → A = some ⟨b, o, none⟩) (hnc : n ≤ c)
    (H : Hold w0 B w (.row kB 5 v xs :: .blk g (.cells (encX url (-1)) 220) :: L)) (hsrc : ∀ w', Hold w0 B w' L → kB.C w' A n ys) :
    Calls Tryz.prog 203 #[.pointer (some ⟨g, 0, none⟩), v, .slice A n c] w fun e w' => ∃ v', e = .returned v' ∧ Hold w0 B w' (.row kB 5 v' (xs ++ b64 url ys) :: .blk g (.cells (encX url (-1)) 220) :: L) := by
  obtain rfl := (hsrc w H.tail.tail).1
  have H1 := Aside0.mk H
  have HA := Aside0.mk hA
  have HS := Aside0.mk hsrc
  have HX := Aside0.mk hx
  obtain ⟨A0, c0, rfl, hc0, _⟩ := H.reads 0 rfl
  clear H hA hsrc hx
  go_enter Tryz.func203, Tryz.ntmps203
  go_wp2_with fail
  refine (encLen_any w url g ys.length hn H1.out.swap).mono ?_
  rintro e w2 ⟨rfl, rfl⟩
  obtain ⟨m, hm⟩ : ∃ m, m = encLen ys.length := ⟨_, rfl⟩
  have hml : m ≤ 2000000000 := by rw [hm]; unfold encLen; omega
  rw [← hm]
  have HM := Aside0.mk hm
  clear hm
  go_wp2_with fail
  refine (grow_any _ m _ xs hml HX.out H1.out).mono ?_
  rintro e w3 ⟨A2, c2, rfl, hc2, hcm, hA2, hH⟩
  have H2 := Aside0.mk hH
  have hx := HX.out
  have hcm' : c2 ≤ 9223372036854775807 := by unfold maxLen at hcm; omega
  clear hH H1 hcm
  rcases Nat.eq_zero_or_pos ys.length with h0 | h0
  · have hys : ys = [] := List.eq_nil_of_length_eq_zero h0
    subst hys
    have hm0 : m = 0 := HM.out
    subst hm0
    have hB0 : Aside0 (xs ++ b64 url [] = xs) := ⟨by simp [b64]⟩
    clear hA2
    go_wp2_with fail
    all_goals
    refine (encode_nil _ _ _ _ A c rfl).mono ?_
    rintro e w4 ⟨rfl, rfl⟩
    go_wp2
    go_ret
    rw [hB0.out]
    first
      | exact ⟨_, rfl, H2.out⟩
      | (have e2 : c2 = xs.length := by omega
         have h2 := H2.out
         rw [e2] at h2
         exact ⟨_, rfl, h2⟩)
  · have hmp : 0 < m := by rw [HM.out]; exact encLen_pos h0
    obtain ⟨gd, rfl⟩ := hA2 (by omega)
    have hA := HA.out h0
    subst hA
    obtain ⟨cs, hsz, hnc2, hcm2, ht, _, hB⟩ := H2.out.rowOpen 0 rfl
    have HB : Aside0 (Hold w0 B w3 (.blk g (.cells (encX url (-1)) 220) :: .blk gd (.cells cs 5) :: L)) := ⟨hB.swap⟩
    have hne : g ≠ gd := HB.out.blk_ne 0 1 rfl rfl (by decide)
    have Hfit : Aside0 (xs.length + m ≤ cs.size) := ⟨by omega⟩
    have HT := Aside0.mk ht
    have HSz := Aside0.mk hsz
    have Hcm := Aside0.mk hcm2
    clear hB ht hsz hcm2 H2
    go_wp2_with fail
    refine (encode_any (w0 := w0) (B := B) (L := L) _ url g gd xs.length b o ys.length c m (c2 - xs.length) 5 _ _ ys cs hn (fun _ => rfl) (fun _ => rfl) HM.out Hfit.out (by omega) hnc hne HB.out (fun w' cs' h => HS.out w' h.tail.tail)).mono ?_
    rintro e w4 ⟨rfl, hH⟩
    have HH := Aside0.mk hH
    clear hH
    go_wp2
    go_ret
    refine ⟨_, rfl, ?_⟩
    have hl : ((b64 url ys).map bV).length = m := by rw [List.length_map, b64_len, HM.out]
    have hfit := Hfit.out
    have hp := putN_list ((b64 url ys).map bV) cs xs.length (by omega)
    have h := HH.out.blkRow (enc := bV) (h1 := fun _ => rfl) 1 rfl (n := xs.length + m) (cap := c2) (xs := xs ++ b64 url ys) (by rw [putN_size]; exact HSz.out) (by have := HSz.out; omega) Hcm.out (by
      rw [hp, HT.out]
      rw [List.take_append_of_le_length (by simp; rw [← hl]; simp), List.take_of_length_le (by simp; rw [← hl]; simp)]
      simp) (by rw [List.length_append, b64_len, HM.out])
    exact Hold.swap h
end Go.Proofs.YtdldblfklalaeaaGreatDoor
