/-
  jwsbb.SplitCompactString; impl.Split, impl.SplitText: their contracts.
-/
import Derived.Test.YtdldblfklalaeaaGreatDoorCut2
namespace Go.Proofs.YtdldblfklalaeaaGreatDoor
open Go.RowKit Go.Proofs.YtdldblfklalaeaaGreatDoorW.PrintWords Go.Lib
set_option linter.unusedVariables false
set_option linter.unusedSimpArgs false
theorem rowCap {w0 w : World} {B : Nat} {L : List Asrt} {e n c : Nat} {A : Option Addr} {xs : List UInt8} (hS : Hold w0 B w (.row kB e (.slice A n c) xs :: L)) : c ≤ 9223372036854775807 := by
  obtain ⟨f, hp, hb⟩ := hS.get 0 rfl
  obtain ⟨h0, inner, ho, hr⟩ := hp
  rcases ho.2 with ⟨hv, hn⟩ | ⟨g, cap, cur, hv, _, hh, hnc, hcm, hcs, htake⟩
  · injection hv with _ _ hc
    omega
  · injection hv with _ _ hc
    unfold maxLen at hcm
    omega
/-- What impl.Split gives: three copies, or nothing. -/
def ISplPost (w : World) (e : Ending) (w' : World) : List (List UInt8) → Prop
  | [x, y, z] => ∃ v1 v2 v3, e = .returned (.tuple #[v1, v2, v3, .bool true]) ∧ Hold w w.heap.size w' [.row kB 5 v3 z, .row kB 5 v2 y, .row kB 5 v1 x]
  | _ => e = .returned (.tuple #[.slice none 0 0, .slice none 0 0, .slice none 0 0, .bool false]) ∧ Hold w w.heap.size w' []
theorem segs3 (L : List (List UInt8)) : (∃ x y z, L = [x, y, z]) ∨ ((∀ w e w', SplPost w e w' L → (∃ t v, e = .returned (.tuple #[.slice none 0 0, .slice none 0 0, .slice none 0 0, .iface t v])) ∧ Below w.heap.size w w') ∧
    (∀ w e w', (e = .returned (.tuple #[.slice none 0 0, .slice none 0 0, .slice none 0 0, .bool false]) ∧ Hold w w.heap.size w' []) → ISplPost w e w' L) ∧ L.length ≠ 3) := by
  match L with
  | [] => exact .inr ⟨fun _ _ _ h => h, fun _ _ _ h => h, by simp⟩
  | [a] => exact .inr ⟨fun _ _ _ h => h, fun _ _ _ h => h, by simp⟩
  | [a, b] => exact .inr ⟨fun _ _ _ h => h, fun _ _ _ h => h, by simp⟩
  | [a, b, c] => exact .inl ⟨a, b, c, rfl⟩
  | a :: b :: c :: d :: r => exact .inr ⟨fun _ _ _ h => h, fun _ _ _ h => h, by simp⟩
theorem segLens {xs : List UInt8} {x y z : List UInt8} (h : segsL xs = [x, y, z]) : x.length ≤ xs.length ∧ y.length ≤ xs.length ∧ z.length ≤ xs.length := by
  have key : ∀ (n : Nat) (xs : List UInt8), xs.length ≤ n → ∀ s ∈ segsL xs, s.length ≤ xs.length := by
    intro n
    induction n with
    | zero =>
      intro xs hn s hs
      obtain rfl := List.eq_nil_of_length_eq_zero (Nat.le_zero.1 hn)
      rw [segsL_none rfl] at hs
      rw [List.mem_singleton.1 hs]
      exact Nat.le_refl _
    | succ n ih =>
      intro xs hn s hs
      cases hd : dotAt xs with
      | none => rw [segsL_none hd] at hs; rw [List.mem_singleton.1 hs]; exact Nat.le_refl _
      | some i =>
        have hi : i < xs.length := by
          unfold dotAt at hd
          rw [List.findIdx?_eq_some_iff_getElem] at hd
          exact hd.1
        rw [segsL_some hd] at hs
        rcases List.mem_cons.1 hs with rfl | hs
        · rw [List.length_take]; omega
        · have := ih (xs.drop (i + 1)) (by rw [List.length_drop]; omega) s hs
          rw [List.length_drop] at this
          omega
  have k := key xs.length xs (Nat.le_refl _)
  rw [h] at k
  exact ⟨k x (by simp), k y (by simp), k z (by simp)⟩
set_option maxRecDepth 100000 in
set_option maxHeartbeats 4000000 in
theorem implSplit_any (w : World) (A : Option Addr) (n c : Nat) (xs : List UInt8) (t : TypeId) (v : Value) (hG : w.cell? ⟨3, 0, none⟩ = some (.iface t v)) (hn : n ≤ 1000000) (hC : kB.C w A n xs) :
    Calls Tryz.prog 70 #[.slice A n c] w fun e w' => ISplPost w e w' (segsL xs) := by
  obtain rfl := hC.1
  obtain ⟨L, hL⟩ : ∃ L, L = segsL xs := ⟨_, rfl⟩
  rw [← hL]
  have HLL := Aside0.mk hL
  have HC := Aside0.mk hC
  have HG := Aside0.mk hG
  clear hL hC hG
  go_enter Tryz.func70, Tryz.ntmps70
  go_wp2_with fail
  refine (bclone_any _ A _ c xs (by omega) HC.out).mono ?_
  rintro e w1 ⟨v1, rfl, hH⟩
  obtain ⟨A1, c1, rfl, hc1, hC1⟩ := hH.reads 0 rfl
  have hcm : c1 ≤ 9223372036854775807 := rowCap hH
  have H1 := Aside0.mk hH
  have HC1 := Aside0.mk hC1
  clear hH hC1
  go_wp2_with fail
  refine (splitC_any _ A1 _ c1 xs t v (pw_cell_below H1.out.below HG.out) hc1 hcm hn HC1.out).mono ?_
  rw [← HLL.out]
  rcases segs3 L with ⟨x, y, z, rfl⟩ | ⟨h1, h2, _⟩
  · have hsl := segLens HLL.out.symm
    have HSl := Aside0.mk hsl
    clear hsl
    rintro e w2 ⟨B1, B2, B3, n1, d1, n2, d2, n3, d3, rfl, k1, k2, k3, hb⟩
    have H2 := Aside0.mk ((H1.out.of_below hb).pick [] (by decide) (L' := []) rfl)
    have hl1 := k1.1
    have hl2 := k2.1
    have hl3 := k3.1
    have K1 := Aside0.mk k1
    have K2 := Aside0.mk k2
    have K3 := Aside0.mk k3
    have HLs := Aside0.mk (And.intro hl1 (And.intro hl2 hl3))
    clear k1 k2 k3 hb hl1 hl2 hl3
    have hN : n1 ≤ 1000000 ∧ n2 ≤ 1000000 ∧ n3 ≤ 1000000 := by
      obtain ⟨a1, a2, a3⟩ := HLs.out
      obtain ⟨b1, b2, b3⟩ := HSl.out
      omega
    obtain ⟨hN1, hN2, hN3⟩ := hN
    go_wp2_with fail
    refine (bclone_any _ B1 n1 d1 x (by omega) K1.out).mono ?_
    rintro e w3 ⟨u1, rfl, hH⟩
    have K2' := Aside0.mk (Kd.C_below K2.out hH.below)
    have K3' := Aside0.mk (Kd.C_below K3.out hH.below)
    have H3 := Aside0.mk (H2.out.app hH)
    clear hH K2 K3
    go_wp2_with fail
    refine (bclone_any _ B2 n2 d2 y (by omega) K2'.out).mono ?_
    rintro e w4 ⟨u2, rfl, hH⟩
    have K3 := Aside0.mk (Kd.C_below K3'.out hH.below)
    have H4 := Aside0.mk (H3.out.app hH)
    clear hH K3' K2'
    go_wp2_with fail
    refine (bclone_any _ B3 n3 d3 z (by omega) K3.out).mono ?_
    rintro e w5 ⟨u3, rfl, hH⟩
    have H5 := Aside0.mk (H4.out.app hH)
    clear hH
    go_wp2
    refine bodyPost_ret (results_tmp4 rfl _ _ _) rfl ?_
    exact ⟨_, _, _, rfl, H5.out⟩
  · have HP := Aside0.mk h1
    have HP2 := Aside0.mk h2
    clear h1 h2
    intro e w2 hp
    obtain ⟨⟨t2, v2, rfl⟩, hb⟩ := HP.out _ _ _ hp
    have H2 := Aside0.mk ((H1.out.of_below hb).pick [] (by decide) (L' := []) rfl)
    clear hp hb
    go_wp2
    refine bodyPost_ret (results_tmp4 rfl _ _ _) rfl ?_
    exact HP2.out _ _ _ ⟨rfl, H2.out⟩
end Go.Proofs.YtdldblfklalaeaaGreatDoor
