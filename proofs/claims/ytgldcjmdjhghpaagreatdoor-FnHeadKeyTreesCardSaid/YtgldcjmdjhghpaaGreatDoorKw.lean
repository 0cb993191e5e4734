/-
  spec.HeadRight, laws.headObject: their contracts. Printed by kwgen.py.
-/
import Derived.Test.YtgldcjmdjhghpaaGreatDoorKv
namespace Go.Proofs.YtgldcjmdjhghpaaGreatDoor
open Go.RowKit Go.Proofs.YtgldcjmdjhghpaaGreatDoorW.PrintWords Go.ChangeShapes Go.WideShapes
set_option linter.unusedVariables false
set_option linter.unusedSimpArgs false
set_option maxRecDepth 100000
def RightEnd (x : TrN 60) (e : Ending) : Prop := ∃ b : Bool, e = .returned (.bool b) ∧ (b = true → ∃ n, n ≤ 200 ∧ TGood 60 x n)
set_option maxHeartbeats 2000000 in
theorem hright_any (w : World) (x : TrN 60) (A : Option Addr) (c : Nat) (B : Option Addr) (m d : Nat) (h : TrAt w x A c B m d) (hO : OkT 60 x) (hT : Tabs w) :
    Calls Tryz.prog 16 #[.agg (trCells x A c B m d)] w fun e w' => RightEnd x e ∧ Below w.heap.size w w' := by
  have hu := Tryz.underlying26
  have HAt := Aside0.mk (fun (wz : World) (hb : Below w.heap.size w wz) => h.on hb)
  obtain ⟨kd, is, mi, nu, tx, ns, ks⟩ := x
  obtain ⟨W, hW⟩ : ∃ W, W = w.alloc (.cells #[.int .u8 kd, .bool is, .bool mi, .int .u64 nu, .string tx, .slice A ns.length c, .slice B m d] 26) := ⟨_, rfl⟩
  have hB := BoxT.new w kd is mi nu tx (.slice A ns.length c) (.slice B m d)
  rw [← hW] at hB
  have HW := Aside0.mk hW
  have HB0 : Aside0 (Below w.heap.size w W) := ⟨by rw [hW]; exact (Below.refl _ _).alloc (Nat.le_refl _) _⟩
  obtain ⟨b, hb⟩ : ∃ b, b = w.heap.size := ⟨_, rfl⟩
  rw [← hb] at hB
  have Hb := Aside0.mk hb
  clear hW hb h
  obtain ⟨q0, q1, q2, q3, q4, q5, q6⟩ := hB
  unfold trCells
  have HC := Aside0.mk ((hsize_all 60 1 (by omega)).out W (kd, is, mi, nu, tx, ns, ks) A c B m d (HAt.out _ HB0.out) hO (hT.on HB0.out))
  clear hO hT
  go_enter Tryz.func16, Tryz.ntmps16
  go_wp2_with fail
  rw [← HW.out]
  refine HC.out.mono ?_
  rintro e w1 ⟨⟨n, r, rfl, hn, hg⟩, hb⟩
  have HE := Aside0.mk (And.intro hn hg)
  have HB1 := Aside0.mk (HB0.out.trans (hb.mono HB0.out.size))
  clear hn hg hb
  go_wp2
  go_ret
  exact ⟨⟨r, rfl, fun h => ⟨n, HE.out.1, HE.out.2 h⟩⟩, HB1.out⟩
def ObjEnd (x : TrN 60) (e : Ending) : Prop := ∃ b : Bool, e = .returned (.bool b) ∧ (b = true → x.1 = 5 ∧ ∃ n, n ≤ 200 ∧ TGood 60 x n)
set_option maxHeartbeats 4000000 in
theorem hobj_any (w : World) (x : TrN 60) (A : Option Addr) (c : Nat) (B : Option Addr) (m d : Nat) (h : TrAt w x A c B m d) (hO : OkT 60 x) (hT : Tabs w) (D : Option Addr) (T : List ByteArray) (cT : Nat) (hD : Kd.string.C w D T.length T) :
    Calls Tryz.prog 5 #[.agg (trCells x A c B m d), .slice D T.length cT] w fun e w' => ObjEnd x e ∧ Below w.heap.size w w' := by
  have hu := Tryz.underlying26
  have HAt := Aside0.mk (fun (wz : World) (hb : Below w.heap.size w wz) => h.on hb)
  obtain ⟨kd, is, mi, nu, tx, ns, ks⟩ := x
  obtain ⟨W, hW⟩ : ∃ W, W = w.alloc (.cells #[.int .u8 kd, .bool is, .bool mi, .int .u64 nu, .string tx, .slice A ns.length c, .slice B m d] 26) := ⟨_, rfl⟩
  have hB := BoxT.new w kd is mi nu tx (.slice A ns.length c) (.slice B m d)
  rw [← hW] at hB
  have HW := Aside0.mk hW
  have HB0 : Aside0 (Below w.heap.size w W) := ⟨by rw [hW]; exact (Below.refl _ _).alloc (Nat.le_refl _) _⟩
  obtain ⟨b, hb⟩ : ∃ b, b = w.heap.size := ⟨_, rfl⟩
  rw [← hb] at hB
  have Hb := Aside0.mk hb
  clear hW hb h
  obtain ⟨q0, q1, q2, q3, q4, q5, q6⟩ := hB
  unfold trCells
  have hTl : T.length ≤ 9223372036854775807 := hD.2.1
  have HBx := Aside0.mk (BoxT.mk q0 q1 q2 q3 q4 q5 q6)
  have HTb := Aside0.mk (fun (wz : World) (hb : Below W.heap.size W wz) => (hT.on HB0.out).on hb)
  have HTx := Aside0.mk (fun (wz : World) (hb : Below W.heap.size W wz) => Kd.C_below hD (HB0.out.trans (hb.mono HB0.out.size)))
  have HR := Aside0.mk (fun (wz : World) (hb : Below W.heap.size W wz) => hright_any wz (kd, is, mi, nu, tx, ns, ks) A c B m d (HAt.out _ (HB0.out.trans (hb.mono HB0.out.size))) hO (HTb.out wz hb))
  have HBW : Aside0 (∀ wz, Below W.heap.size W wz → Below w.heap.size w wz) := ⟨fun wz h => HB0.out.trans (h.mono HB0.out.size)⟩
  have HNo : Aside0 (ObjEnd (kd, is, mi, nu, tx, ns, ks) (.returned (.bool false))) := ⟨⟨false, rfl, fun h => by cases h⟩⟩
  clear hD hT hO
  go_enter Tryz.func5, Tryz.ntmps5
  go_wp2_with fail
  rw [← HW.out, ← Hb.out]
  clear q0 q1 q2 q3 q4 q5 q6
  go_loopw [9] (fun i wr => ∃ k : Nat, k ≤ T.length ∧ i = .int .i64 k ∧ Below W.heap.size W wr) (fun i _ => T.length - (intOf i).toNat)
  case atStart => exact ⟨0, Nat.zero_le _, rfl, Below.refl _ _⟩
  case round =>
    obtain ⟨k, hk, rfl, hR⟩ := hrel
    have HRb := Aside0.mk hR
    clear hR
    by_cases hj : k < T.length
    · obtain ⟨a5, hA5, ej⟩ := C1_get (HTx.out wr HRb.out) k hj
      cases hA5
      have hj2 : k + 1 ≤ T.length := hj
      generalize hs : T[k] = s at *
      clear hs
      by_cases h7 : 200 < s.size
      · go_wp2_with fail
        go_ret
        exact ⟨HNo.out, HBW.out _ HRb.out⟩
      · have h7' : s.size ≤ 200 := by omega
        go_wp2_with fail
        refine (valid_any s wr (by omega) (HTb.out _ HRb.out)).mono ?_
        rintro e w5 ⟨rfl, hM⟩
        have HM5 := Aside0.mk (HRb.out.trans (hM.mono HRb.out.size))
        clear hM
        cases hv : Lib.validD s.data.toList with
        | false =>
          clear hv
          go_wp2
          go_ret
          exact ⟨HNo.out, HBW.out _ HM5.out⟩
        | true =>
          clear hv
          go_wp2
          go_roundw
          case rel => exact ⟨k + 1, hj2, by go_num, HM5.out⟩
          case measure => simp [intOf]; omega
    · obtain ⟨k0, k1, k2, k3, k4, k5, k6⟩ := HBx.out.on HRb.out
      by_cases h5 : kd = 5
      · have H5 := Aside0.mk h5
        subst h5
        go_wp2_with fail
        refine (HR.out wr HRb.out).mono ?_
        rintro e w6 ⟨⟨r, rfl, hg⟩, hb⟩
        have HG := Aside0.mk hg
        have HB6 := Aside0.mk ((HBW.out _ HRb.out).trans (hb.mono (HBW.out _ HRb.out).size))
        clear hg hb
        go_wp2
        go_ret
        exact ⟨⟨r, rfl, fun h => ⟨rfl, HG.out h⟩⟩, HB6.out⟩
      · go_wp2_with fail
        go_ret
        exact ⟨HNo.out, HBW.out _ HRb.out⟩
end Go.Proofs.YtgldcjmdjhghpaaGreatDoor
