/-
  aescbc.pad, through impl.Padded: the walk.
-/
import Derived.Test.YtocjolboglcamaaClone
import Derived.Test.YtocjolboglcamaaB8
import Derived.IntWalk
namespace Go.Proofs.Ytocjolboglcamaa
open Go.RowKit Go.Proofs.YtocjolboglcamaaW.PrintWords
set_option linter.unusedVariables false
set_option linter.unusedSimpArgs false
/-- How many bytes are missing. -/
def padN (n b : Nat) : Nat := b - n % b
theorem padN_pos (n b : Nat) (hb : 0 < b) : 0 < padN n b ∧ padN n b ≤ b := by unfold padN; have := Nat.mod_lt n hb; omega
def padded (xs : List UInt8) (b : Nat) : List UInt8 := xs ++ List.replicate (padN xs.length b) (UInt8.ofNat (padN xs.length b))
def padTo (xs : List UInt8) (p : UInt8) (q k : Nat) : List UInt8 := xs ++ (List.replicate k p ++ List.replicate (q - k) 0)
theorem padTo_start (xs : List UInt8) (p : UInt8) (q : Nat) : List.take 0 (List.replicate (xs.length + q) (0 : UInt8)) ++ List.take xs.length xs ++ List.drop (0 + xs.length) (List.replicate (xs.length + q) 0) = padTo xs p q 0 := by
  simp [padTo]
theorem padTo_length (xs : List UInt8) (p : UInt8) (q k : Nat) (hk : k ≤ q) : (padTo xs p q k).length = xs.length + q := by simp [padTo]; omega
theorem padTo_succ (xs : List UInt8) (p : UInt8) (q k : Nat) (hk : k < q) : padTo xs p q (k + 1) = (padTo xs p q k).set (xs.length + k) p := by
  unfold padTo
  rw [List.set_append_right _ _ (by omega), Nat.add_sub_cancel_left, List.set_append_right _ _ (by simp), List.length_replicate, Nat.sub_self]
  obtain ⟨m, hm⟩ : ∃ m, q - k = m + 1 := ⟨q - k - 1, by omega⟩
  rw [hm, show q - (k + 1) = m from by omega, List.replicate_succ (n := m), List.set_cons_zero, List.replicate_succ', List.append_assoc]
  rfl
theorem padTo_all (xs : List UInt8) (p : UInt8) (q : Nat) : padTo xs p q q = xs ++ List.replicate q p := by simp [padTo]
set_option maxHeartbeats 1000000 in
theorem pad_any (w : World) (A : Option Addr) (n c : Nat) (xs : List UInt8) (b : Nat) (hn : n ≤ 4000) (hb0 : 0 < b) (hb1 : b ≤ 255) (hC : kB.C w A n xs) :
    Calls Try.prog 30 #[.slice A n c, .int .i64 (b : Int)] w fun e w' => ∃ v, e = .returned v ∧ Hold w w.heap.size w' [.row kB 5 v (padded xs b)] := by
  obtain rfl := hC.1
  have hC' := Aside0.mk hC
  clear hC
  have h0 : ((b : Int) == 0) = false := beq_eq_false_iff_ne.2 (by omega)
  obtain ⟨hp0, hp1⟩ := padN_pos xs.length b hb0
  have hw : wrap64 ((b : Int) - (xs.length : Int) % (b : Int)) = (padN xs.length b : Int) := by
    have h1 : (xs.length : Int) % (b : Int) = ((xs.length % b : Nat) : Int) := by omega
    have h2 := Nat.mod_lt xs.length hb0
    unfold padN wrap64
    rw [h1]
    omega
  unfold padded
  generalize padN xs.length b = q at *
  have hq0 : ((q : Int) == 0) = false := beq_eq_false_iff_ne.2 (by omega)
  have H0 := Aside0.mk (Hold.start w)
  have hn0 : Aside0 (0 ≤ (xs.length : Int) + (q : Int)) := ⟨by omega⟩
  have hn1 : Aside0 (((xs.length : Int) + (q : Int)).toNat * 1 ≤ 281474976710656) := ⟨by omega⟩
  go_enter Try.func30, Try.ntmps30
  have hN : Aside0 (((xs.length : Int) + (q : Int)).toNat = xs.length + q) := ⟨by omega⟩
  go_wp2_with (first
    | ((with_reducible refine at_dst (N := 28) rfl ?_); refine Hold.make (enc := bV) (h1 := fun _ => rfl) H0.out 5 rfl rfl 38 (.tmp 27) (.tmp 27) rfl ((xs.length : Int) + (q : Int)) rfl rfl Try.underlying38 (0 : UInt8) 1 infoB rfl (by omega) hn0.out hn1.out ?_; intro v_ _ H1'; rw [hN.out] at H1'; obtain ⟨g, cp, rfl, hle, hgs, hge, hfr⟩ := H1'.form 0 rfl (by rw [List.length_replicate]; omega); rw [List.length_replicate] at H1'; clear hfr hle; have H1 := Aside0.mk H1'; clear H1' H0)
    | ((with_reducible refine at_bi (b := .copy) (xs := #[.tmp 29, .tmp 30]) rfl ?_); refine Hold.copy (enc := bV) (h1 := fun _ => rfl) 0 H1.out rfl rfl (.tmp 29) (.tmp 30) 38 38 rfl Try.underlying38 (by kernel_rfl) (0) (some ⟨g, 0, none⟩) (A) ((xs.length + q)) (cp) (xs.length) (c) rfl rfl (Kd.C_below hC'.out H1.out.below) (fun _ => ⟨g, _, _, rfl, rfl⟩) (by simp) (xs.length) (by omega) ?_; intro _ H2'; have H2 := Aside0.mk H2'; clear H2' H1))
  have hP : bV (UInt8.ofNat q) = .int .u8 (q : Int) := by
    unfold bV
    rw [UInt8.toNat_ofNat', Nat.mod_eq_of_lt (by omega)]
  have HP := Aside0.mk hP
  clear hP hC' hn0 hn1 hN
  generalize hpe : UInt8.ofNat q = p at *
  have HPE := Aside0.mk hpe
  clear hpe
  go_loopw [9] (fun i wr => ∃ k : Nat, k ≤ q ∧ i = .int .i64 ((xs.length + k : Nat) : Int) ∧ Hold w w.heap.size wr [.row kB 5 (.slice (some ⟨g, 0, none⟩) (xs.length + q) cp) (padTo xs p q k)]) (fun i _ => xs.length + q - (intOf i).toNat)
  case atStart => exact ⟨0, Nat.zero_le _, rfl, by have h := H2.out; rw [padTo_start] at h; exact h⟩
  case round =>
    obtain ⟨k, hk, rfl, hR⟩ := hrel
    by_cases hlt : k < q
    · have hlen := padTo_length xs p q k hk
      have e1 := hR.at1 0 rfl (xs.length + k) (by rw [hlen]; omega)
      obtain ⟨g', c', he, _, hg2, _, hfr⟩ := hR.form 0 rfl (by rw [hlen]; omega)
      obtain rfl : g = g' := by injection he with h1; injection h1 with h1; injection h1
      have hf1 := hfr (xs.length + k)
      have HR := Aside0.mk hR
      obtain ⟨u, hu⟩ : ∃ u, wr.cell? ⟨g, xs.length + k, none⟩ = some u := ⟨_, e1⟩
      clear e1 hfr he hlen hR
      go_wp2
      go_roundw
      case measure => simp [intOf]; omega
      case rel =>
        refine ⟨k + 1, hlt, by go_num, ?_⟩
        rw [padTo_succ xs p q k hlt, ← HP.out]
        exact HR.out.setCell1 0 rfl (xs.length + k) (by omega) p
    · obtain rfl : k = q := by omega
      go_wp2
      go_ret
      rw [padTo_all, ← HPE.out] at hR
      exact ⟨_, rfl, hR⟩
end Go.Proofs.Ytocjolboglcamaa
