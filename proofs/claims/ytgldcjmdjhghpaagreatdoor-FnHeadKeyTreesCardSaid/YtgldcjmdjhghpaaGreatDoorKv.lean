/-
  spec.headSize: its contract. Printed by kvgen.py.
-/
import Derived.Test.YtgldcjmdjhghpaaGreatDoorKu
namespace Go.Proofs.YtgldcjmdjhghpaaGreatDoor
open Go.RowKit Go.Proofs.YtgldcjmdjhghpaaGreatDoorW.PrintWords Go.ChangeShapes Go.WideShapes
set_option linter.unusedVariables false
set_option linter.unusedSimpArgs false
set_option maxRecDepth 100000
def kidsL {k : Nat} (x : TrN (k + 1)) : List (TrN k) := x.2.2.2.2.2.2
/-- A tree that is right, of so many nodes, no deeper than k. -/
def TGood : (k : Nat) → TrN k → Nat → Prop
  | 0, _, _ => False
  | k + 1, x, n => x.1 ≤ 5 ∧ (x.1 = 3 → TOk x.2.2.2.2.1) ∧ (x.1 = 5 → (∀ s ∈ x.2.2.2.2.2.1, TOk s) ∧ x.2.2.2.2.2.1.length = (kidsL x).length) ∧ (4 ≤ x.1 → (kidsL x).length ≤ 200) ∧
      (x.1 < 4 → n = 1) ∧ (4 ≤ x.1 → ∃ ns : List Nat, ns.length = (kidsL x).length ∧ (∀ (j : Nat) (c : TrN k) (m : Nat), (kidsL x)[j]? = some c → ns[j]? = some m → TGood k c m) ∧ n = 1 + ns.sum)
theorem TGood.intro {k : Nat} {kd : Int} {is mi : Bool} {nu : Int} {tx : ByteArray} {names : List ByteArray} {ks : List (TrN k)} {n : Nat} (h5 : kd ≤ 5) (h3 : kd = 3 → TOk tx) (h6 : kd = 5 → (∀ s ∈ names, TOk s) ∧ names.length = ks.length) (hl : 4 ≤ kd → ks.length ≤ 200) (h1 : kd < 4 → n = 1)
    (h4 : 4 ≤ kd → ∃ l : List Nat, l.length = ks.length ∧ (∀ (j : Nat) (c : TrN k) (m : Nat), ks[j]? = some c → l[j]? = some m → TGood k c m) ∧ n = 1 + l.sum) : TGood (k + 1) (kd, is, mi, nu, tx, names, ks) n := ⟨h5, h3, h6, hl, h1, h4⟩
theorem TOkTo.all {xs : List ByteArray} (h : TOkTo xs xs.length) : ∀ s ∈ xs, TOk s := fun s hs => by
  obtain ⟨j, hj, rfl⟩ := List.getElem_of_mem hs
  exact h.out j hj hj
/-- What headSize returns. -/
def SzEnd (k : Nat) (x : TrN k) (e : Ending) : Prop := ∃ (n : Nat) (b : Bool), e = .returned (.tuple #[.int .i64 n, .bool b]) ∧ n ≤ 200 ∧ (b = true → TGood k x n)
/-- The kids that have been looked at. -/
structure KidsOk {k : Nat} (ks : List (TrN k)) (j : Nat) (ns : List Nat) : Prop where
  len : ns.length = j
  ok : ∀ (i : Nat) (c : TrN k) (m : Nat), ks[i]? = some c → ns[i]? = some m → TGood k c m
theorem KidsOk.step {k : Nat} {ks : List (TrN k)} {j m : Nat} {ns : List Nat} (h : KidsOk ks j ns) (hj : j < ks.length) (hm : TGood k ks[j] m) : KidsOk ks (j + 1) (ns ++ [m]) where
  len := by rw [List.length_append, h.len]; rfl
  ok i c m' hc hm' := by
    rcases Nat.lt_or_ge i ns.length with h1 | h1
    · rw [List.getElem?_append_left h1] at hm'
      exact h.ok i c m' hc hm'
    · rw [List.getElem?_append_right h1] at hm'
      have h2 : i - ns.length < 1 := (List.getElem?_eq_some_iff.1 hm').1
      obtain rfl : i = j := by have := h.len; omega
      rw [h.len, Nat.sub_self] at hm'
      injection hm' with hm'
      rw [List.getElem?_eq_getElem hj] at hc
      injection hc with hc
      rw [← hc, ← hm']
      exact hm
theorem sz_no (k : Nat) (x : TrN k) : SzEnd k x (.returned (.tuple #[.int .i64 0, .bool false])) := ⟨0, false, rfl, by omega, fun h => by cases h⟩
/-- What a kid is asked. -/
structure KidCall (k dd : Nat) : Prop where
  out : ∀ (w : World) (x : TrN k) (A : Option Addr) (c : Nat) (B : Option Addr) (m d : Nat), TrAt w x A c B m d → OkT k x → Tabs w → Calls Tryz.prog 27 #[.agg (trCells x A c B m d), .int .i64 (dd : Int), .int .i64 200] w fun e w' => SzEnd k x e ∧ Below w.heap.size w w'
set_option maxHeartbeats 4000000 in
theorem hsize_zero : KidCall 0 61 := by
  refine ⟨fun w x A c B m d h hO hT => ?_⟩
  have hu := Tryz.underlying26
  obtain ⟨kd, is, mi, nu, tx, ns, ks⟩ := x
  obtain ⟨hC, hle, HK⟩ := h
  obtain ⟨hk0, hk1⟩ : 0 ≤ kd ∧ kd < 256 := by
    have := hO.1
    unfold WfI at this
    simp [Lit.wf, IntKind.min, IntKind.max, IntKind.bits, IntKind.signed] at this
    omega
  obtain ⟨W, hW⟩ : ∃ W, W = w.alloc (.cells #[.int .u8 kd, .bool is, .bool mi, .int .u64 nu, .string tx, .slice A ns.length c, .slice B m d] 26) := ⟨_, rfl⟩
  have hB := BoxT.new w kd is mi nu tx (.slice A ns.length c) (.slice B m d)
  rw [← hW] at hB
  have HW := Aside0.mk hW
  have HB0 : Aside0 (Below w.heap.size w W) := ⟨by rw [hW]; exact (Below.refl _ _).alloc (Nat.le_refl _) _⟩
  obtain ⟨b, hb⟩ : ∃ b, b = w.heap.size := ⟨_, rfl⟩
  rw [← hb] at hB
  have Hb := Aside0.mk hb
  clear hW hb
  obtain ⟨q0, q1, q2, q3, q4, q5, q6⟩ := hB
  have HN := Aside0.mk (sz_no 0 (kd, is, mi, nu, tx, ns, ks))
  unfold trCells
  by_cases h5 : 5 < kd
  · go_enter Tryz.func27, Tryz.ntmps27
    go_wp2
    go_ret2
    exact ⟨HN.out, HW.out ▸ HB0.out⟩
  · replace h5 : kd ≤ 5 := by omega
    go_enter Tryz.func27, Tryz.ntmps27
    go_wp2
    go_ret2
    exact ⟨HN.out, HW.out ▸ HB0.out⟩
set_option maxHeartbeats 8000000 in
theorem hsize_step (k dd : Nat) (hd : dd ≤ 60) (HI : Aside0 (KidCall k (dd + 1))) : KidCall (k + 1) dd := by
  refine ⟨fun w x A c B m d h hO hT => ?_⟩
  have hu := Tryz.underlying26
  obtain ⟨kd, is, mi, nu, tx, ns, ks0⟩ := x
  obtain ⟨hC, hle, HK⟩ := h
  obtain ⟨hk0, hk1⟩ : 0 ≤ kd ∧ kd < 256 := by
    have := hO.1
    unfold WfI at this
    simp [Lit.wf, IntKind.min, IntKind.max, IntKind.bits, IntKind.signed] at this
    omega
  obtain ⟨W, hW⟩ : ∃ W, W = w.alloc (.cells #[.int .u8 kd, .bool is, .bool mi, .int .u64 nu, .string tx, .slice A ns.length c, .slice B m d] 26) := ⟨_, rfl⟩
  have hB := BoxT.new w kd is mi nu tx (.slice A ns.length c) (.slice B m d)
  rw [← hW] at hB
  have HW := Aside0.mk hW
  have HB0 : Aside0 (Below w.heap.size w W) := ⟨by rw [hW]; exact (Below.refl _ _).alloc (Nat.le_refl _) _⟩
  obtain ⟨b, hb⟩ : ∃ b, b = w.heap.size := ⟨_, rfl⟩
  rw [← hb] at hB
  have Hb := Aside0.mk hb
  clear hW hb
  obtain ⟨ks, rfl⟩ : ∃ l : List (TrN k), l = ks0 := ⟨ks0, rfl⟩
  replace hC : Kd.string.C w A ns.length ns := hC
  replace hle : ns.length ≤ c := hle
  replace HK : m = ks.length ∧ ks.length ≤ d ∧ (kT k).C w B m ks := HK
  obtain ⟨rfl, hmd, hKC⟩ := HK
  have HO : Aside0 (∀ c ∈ ks, OkT k c) := ⟨hO.2.2.2.2.2.2⟩
  have HKx := Aside0.mk (fun (wz : World) (hb : Below W.heap.size W wz) => Kd.C_below hKC (HB0.out.trans (hb.mono HB0.out.size)))
  have HNx := Aside0.mk (fun (wz : World) (hb : Below W.heap.size W wz) => Kd.C_below hC (HB0.out.trans (hb.mono HB0.out.size)))
  have HN := Aside0.mk (sz_no (k + 1) (kd, is, mi, nu, tx, ns, ks))
  have HBW : Aside0 (∀ wz, Below W.heap.size W wz → Below w.heap.size w wz) := ⟨fun wz h => HB0.out.trans (h.mono HB0.out.size)⟩
  have hkl : ks.length ≤ 9223372036854775807 := hKC.2.1
  have hnl : ns.length ≤ 9223372036854775807 := hC.2.1
  clear hKC hC hO
  unfold trCells
  obtain ⟨q0, q1, q2, q3, q4, q5, q6⟩ := hB
  have HBx := Aside0.mk (BoxT.mk q0 q1 q2 q3 q4 q5 q6)
  have HT : Tabs w := hT
  by_cases h5 : 5 < kd
  · go_enter Tryz.func27, Tryz.ntmps27
    go_wp2
    go_ret2
    exact ⟨HN.out, HW.out ▸ HB0.out⟩
  replace h5 : kd ≤ 5 := by omega
  by_cases hm : 200 < ks.length
  · go_enter Tryz.func27, Tryz.ntmps27
    go_wp2
    go_ret2
    exact ⟨HN.out, HW.out ▸ HB0.out⟩
  replace hm : ks.length ≤ 200 := by omega
  rcases (show kd = 0 ∨ kd = 1 ∨ kd = 2 ∨ kd = 3 ∨ kd = 4 ∨ kd = 5 by omega) with rfl | rfl | rfl | rfl | rfl | rfl
  · have HG : Aside0 (TGood (k + 1) (0, is, mi, nu, tx, ns, ks) 1) := ⟨TGood.intro (by decide) (fun h => absurd h (by decide)) (fun h => absurd h (by decide)) (fun h => absurd h (by decide)) (fun _ => rfl) (fun h => absurd h (by decide))⟩
    go_enter Tryz.func27, Tryz.ntmps27
    go_wp2
    refine wp_loop_rounds 1 ?_
    rw [rounds_succ]
    go_wp2
    go_ret2
    exact ⟨⟨1, true, rfl, by omega, fun _ => HG.out⟩, HW.out ▸ HB0.out⟩
  · have HG : Aside0 (TGood (k + 1) (1, is, mi, nu, tx, ns, ks) 1) := ⟨TGood.intro (by decide) (fun h => absurd h (by decide)) (fun h => absurd h (by decide)) (fun h => absurd h (by decide)) (fun _ => rfl) (fun h => absurd h (by decide))⟩
    go_enter Tryz.func27, Tryz.ntmps27
    go_wp2
    refine wp_loop_rounds 1 ?_
    rw [rounds_succ]
    go_wp2
    go_ret2
    exact ⟨⟨1, true, rfl, by omega, fun _ => HG.out⟩, HW.out ▸ HB0.out⟩
  · have HG : Aside0 (TGood (k + 1) (2, is, mi, nu, tx, ns, ks) 1) := ⟨TGood.intro (by decide) (fun h => absurd h (by decide)) (fun h => absurd h (by decide)) (fun h => absurd h (by decide)) (fun _ => rfl) (fun h => absurd h (by decide))⟩
    go_enter Tryz.func27, Tryz.ntmps27
    go_wp2
    refine wp_loop_rounds 1 ?_
    rw [rounds_succ]
    go_wp2
    go_ret2
    exact ⟨⟨1, true, rfl, by omega, fun _ => HG.out⟩, HW.out ▸ HB0.out⟩
  · obtain ⟨W3, hW3⟩ : ∃ W3, W3 = W.alloc (.cells #[.string tx] 9) := ⟨_, rfl⟩
    have hWs : W.heap.size = b + 1 := by rw [HW.out, Hb.out, World.alloc]; simp
    have hb3 : Below W.heap.size W W3 := by rw [hW3]; exact (Below.refl _ _).alloc (Nat.le_refl _) _
    have HTx0 : Kd.string.C W3 (some ⟨b + 1, 0, none⟩) 1 [tx] := by rw [hW3, ← hWs]; exact strOneK W tx
    have HTx : Aside0 (∀ wz, Below W3.heap.size W3 wz → Kd.string.C wz (some ⟨b + 1, 0, none⟩) [tx].length [tx]) := ⟨fun wz h => Kd.C_below HTx0 h⟩
    have HBW3 := Aside0.mk (fun (wz : World) (h : Below W3.heap.size W3 wz) => HBW.out wz (hb3.trans (h.mono hb3.size)))
    replace HBx := Aside0.mk (HBx.out.on hb3)
    obtain ⟨T, hT0⟩ : ∃ T, T = [tx] := ⟨_, rfl⟩
    rw [← hT0] at HTx
    have hTl : T.length = 1 := by rw [hT0]; rfl
    have HTT0 := Aside0.mk hT0
    have HW3 := Aside0.mk hW3
    obtain ⟨AA, hAA⟩ : ∃ AA : Option Addr, AA = some ⟨b + 1, 0, none⟩ := ⟨_, rfl⟩
    rw [← hAA] at HTx
    have HAA := Aside0.mk hAA
    clear HTx0 hb3 hW3 hWs hT0 HBW HKx HNx hAA
    have HBW := HBW3
    clear HBW3
    go_enter Tryz.func27, Tryz.ntmps27
    go_wp2
    rw [← HW.out, ← Hb.out, ← HW3.out, ← HAA.out]
    clear q0 q1 q2 q3 q4 q5 q6
    go_loopw [62] (fun i wr => ∃ k2 : Nat, k2 ≤ T.length ∧ i = .int .i64 k2 ∧ TOkTo T k2 ∧ Below W3.heap.size W3 wr) (fun i _ => T.length - (intOf i).toNat)
    case atStart => exact ⟨0, Nat.zero_le _, rfl, ⟨fun j _ h => absurd h (Nat.not_lt_zero _)⟩, Below.refl _ _⟩
    case round =>
      obtain ⟨k2, hk2, rfl, hS, hR⟩ := hrel
      have HR := Aside0.mk hR
      have HRw := Aside0.mk (HBW.out wr hR)
      clear hR
      by_cases hj : k2 < T.length
      · have hj0 : k2 < 1 := by omega
        have HTk := Aside0.mk (HTx.out wr HR.out)
        obtain ⟨a5, hA5, ej⟩ := C1_get HTk.out k2 hj
        cases hA5
        have HTT := Aside0.mk (fun h => hS.step hj h)
        have HTt := Aside0.mk (fun (wz : World) (hb : Below wr.heap.size wr wz) => strTakeK (Kd.C_below HTk.out hb) k2 hk2)
        clear hS HTk
        have hj2 : k2 + 1 ≤ T.length := hj
        generalize hs : T[k2] = s at *
        clear hs
        by_cases h7 : 200 < s.size
        · clear HTT HTt
          go_wp2_with fail
          go_ret2
          exact ⟨HN.out, HRw.out⟩
        · have h7' : s.size ≤ 200 := by omega
          go_wp2_with fail
          refine (valid_any s wr (by omega) (HT.on HRw.out)).mono ?_
          rintro e w5 ⟨rfl, hM⟩
          have HM5 := Aside0.mk (And.intro hM (hM.mono HR.out.size))
          clear hM
          cases hv : Lib.validD s.data.toList with
          | false =>
            clear hv HTT HTt
            go_wp2
            go_ret2
            exact ⟨HN.out, HRw.out.trans (HM5.out.1.mono HRw.out.size)⟩
          | true =>
            have HT3 := Aside0.mk (HTT.out ⟨h7', hv⟩)
            have HT4 := Aside0.mk (HTt.out w5 HM5.out.1)
            clear hv HTT HTt
            go_wp2_with fail
            refine (sContains_any w5 _ k2 1 (T.take k2) s HT4.out).mono ?_
            rintro e w6 ⟨rfl, n6, hw6⟩
            have HR6 : Aside0 (Below W3.heap.size W3 w6) := ⟨by rw [hw6]; exact endB (HR.out.trans HM5.out.2) n6⟩
            clear hw6 HT4
            cases hb : sMem s (T.take k2) with
            | true =>
              clear hb
              go_wp2
              go_ret2
              exact ⟨HN.out, HBW.out _ HR6.out⟩
            | false =>
              clear hb
              go_wp2
              go_roundw
              case rel => exact ⟨k2 + 1, hj2, by go_num, HT3.out, HR6.out⟩
              case measure => simp [intOf]; omega
      · have HTo : Aside0 (TOkTo T T.length) := ⟨(show k2 = T.length by omega) ▸ hS⟩
        clear hS
        have hj0 : ¬ k2 < 1 := by omega
        obtain ⟨k0, k1, k2, k3, k4, k5, k6⟩ := HBx.out.on HR.out
        have HG : Aside0 (TGood (k + 1) (3, is, mi, nu, tx, ns, ks) 1) := ⟨TGood.intro (by decide) (fun _ => HTo.out.all tx (by rw [HTT0.out]; simp)) (fun h => absurd h (by decide)) (fun h => absurd h (by decide)) (fun _ => rfl) (fun h => absurd h (by decide))⟩
        go_wp2
        go_ret2
        exact ⟨⟨1, true, rfl, by omega, fun _ => HG.out⟩, HRw.out⟩
  · go_enter Tryz.func27, Tryz.ntmps27
    go_wp2
    refine wp_loop_rounds 1 ?_
    rw [rounds_succ]
    go_wp2
    rw [← HW.out, ← Hb.out]
    go_loopw [11, 90] (fun s11 i wr => ∃ (j : Nat) (l : List Nat), j ≤ ks.length ∧ i = .int .i64 j ∧ s11 = .int .i64 ((1 + l.sum : Nat) : Int) ∧ 1 + l.sum ≤ 200 ∧ KidsOk ks j l ∧ Below W.heap.size W wr) (fun _ i _ => ks.length - (intOf i).toNat)
    case atStart => exact ⟨0, [], Nat.zero_le _, rfl, rfl, by simp, ⟨rfl, fun i c m _ h => by simp at h⟩, Below.refl _ _⟩
    case round =>
      obtain ⟨j, l, hj, rfl, rfl, hl, hO2, hRk⟩ := hrel
      have HRk := Aside0.mk hRk
      have HRz := Aside0.mk (HBW.out wr hRk)
      clear hRk
      by_cases hjl : j < ks.length
      · obtain ⟨ad, A9, c9, B9, m9, d9, hB9, hf0⟩ := KidIs.get (HKx.out wr HRk.out) j hjl
        cases hB9
        have HOk := Aside0.mk (fun m h => hO2.step (m := m) hjl h)
        have HAt := Aside0.mk (fun (wz : World) (hb : Below wr.heap.size wr wz) => hf0.at_.on hb)
        have HOT := Aside0.mk (HO.out ks[j] (List.getElem_mem hjl))
        obtain ⟨_, e0, e1, e2, e3, e4, e5, e6⟩ := hf0
        have hj2 : j + 1 ≤ ks.length := hjl
        have hll : l.sum ≤ 199 := by omega
        clear hO2
        obtain ⟨Wk, hWk⟩ : ∃ Wk, Wk = wr.alloc (.cells (trCells ks[j] A9 c9 B9 m9 d9) 26) := ⟨_, rfl⟩
        have HWk : Aside0 (Below wr.heap.size wr Wk ∧ Below W.heap.size W Wk) := ⟨by rw [hWk]; exact ⟨(Below.refl _ _).alloc (Nat.le_refl _) _, HRk.out.alloc HRk.out.size _⟩⟩
        have HWe := Aside0.mk hWk
        clear hWk
        generalize hf : ks[j] = f at *
        clear hf
        obtain ⟨fk, fi, fm, fu, ft, fn, fl⟩ := f
        go_wp2_with fail
        have HCa := Aside0.mk (HI.out.out Wk (fk, fi, fm, fu, ft, fn, fl) A9 c9 B9 m9 d9 (HAt.out _ HWk.out.1) HOT.out (HT.on (HBW.out _ HWk.out.2)))
        rw [HWe.out] at HCa
        refine HCa.out.mono ?_
        rintro e w7 ⟨⟨n7, b7, rfl, hn7, hg7⟩, hb7⟩
        rw [← HWe.out] at hb7
        have HB7 := Aside0.mk (HWk.out.2.trans (hb7.mono HWk.out.2.size))
        have HG7 := Aside0.mk hg7
        clear hb7 hg7 HCa
        cases b7 with
        | false =>
          clear HOk
          go_wp2
          go_ret2
          exact ⟨HN.out, HBW.out _ HB7.out⟩
        | true =>
          by_cases h200 : 200 < 1 + l.sum + n7
          · clear HOk
            go_wp2
            go_ret2
            exact ⟨HN.out, HBW.out _ HB7.out⟩
          · replace h200 : 1 + l.sum + n7 ≤ 200 := by omega
            have HO3 := Aside0.mk (HOk.out n7 (HG7.out rfl))
            clear HOk
            go_wp2
            go_roundw
            case rel => exact ⟨j + 1, l ++ [n7], hj2, by go_num, by simp [List.sum_append]; omega, by simp [List.sum_append]; omega, HO3.out, HB7.out⟩
            case measure => simp [intOf]; omega
      · obtain rfl : j = ks.length := by omega
        have HEnd : Aside0 (TGood (k + 1) (4, is, mi, nu, tx, ns, ks) (1 + l.sum)) := ⟨TGood.intro (by decide) (fun h => absurd h (by decide)) (fun h => absurd h (by decide)) (fun _ => hm) (fun h => absurd h (by decide)) (fun _ => ⟨l, hO2.len, hO2.ok, rfl⟩)⟩
        clear hO2
        go_wp2
        go_ret2
        exact ⟨⟨_, true, rfl, hl, fun _ => HEnd.out⟩, HRz.out⟩
  · by_cases hnm : ks.length = ns.length
    · have HTx := HNx
      rw [hnm] at q6 HW HBx
      clear HNx
      go_enter Tryz.func27, Tryz.ntmps27
      go_wp2
      rw [← HW.out, ← Hb.out]
      clear q0 q1 q2 q3 q4 q5 q6
      go_loopw [62] (fun i wr => ∃ k2 : Nat, k2 ≤ ns.length ∧ i = .int .i64 k2 ∧ TOkTo ns k2 ∧ Below W.heap.size W wr) (fun i _ => ns.length - (intOf i).toNat)
      case atStart => exact ⟨0, Nat.zero_le _, rfl, ⟨fun j _ h => absurd h (Nat.not_lt_zero _)⟩, Below.refl _ _⟩
      case round =>
        obtain ⟨k2, hk2, rfl, hS, hR⟩ := hrel
        have HR := Aside0.mk hR
        have HRw := Aside0.mk (HBW.out wr hR)
        clear hR
        by_cases hj : k2 < ns.length
        · skip
          have HTk := Aside0.mk (HTx.out wr HR.out)
          obtain ⟨a5, hA5, ej⟩ := C1_get HTk.out k2 hj
          cases hA5
          have HTT := Aside0.mk (fun h => hS.step hj h)
          have HTt := Aside0.mk (fun (wz : World) (hb : Below wr.heap.size wr wz) => strTakeK (Kd.C_below HTk.out hb) k2 hk2)
          clear hS HTk
          have hj2 : k2 + 1 ≤ ns.length := hj
          generalize hs : ns[k2] = s at *
          clear hs
          by_cases h7 : 200 < s.size
          · clear HTT HTt
            go_wp2_with fail
            go_ret2
            exact ⟨HN.out, HRw.out⟩
          · have h7' : s.size ≤ 200 := by omega
            go_wp2_with fail
            refine (valid_any s wr (by omega) (HT.on HRw.out)).mono ?_
            rintro e w5 ⟨rfl, hM⟩
            have HM5 := Aside0.mk (And.intro hM (hM.mono HR.out.size))
            clear hM
            cases hv : Lib.validD s.data.toList with
            | false =>
              clear hv HTT HTt
              go_wp2
              go_ret2
              exact ⟨HN.out, HRw.out.trans (HM5.out.1.mono HRw.out.size)⟩
            | true =>
              have HT3 := Aside0.mk (HTT.out ⟨h7', hv⟩)
              have HT4 := Aside0.mk (HTt.out w5 HM5.out.1)
              clear hv HTT HTt
              go_wp2_with fail
              refine (sContains_any w5 _ k2 c (ns.take k2) s HT4.out).mono ?_
              rintro e w6 ⟨rfl, n6, hw6⟩
              have HR6 : Aside0 (Below W.heap.size W w6) := ⟨by rw [hw6]; exact endB (HR.out.trans HM5.out.2) n6⟩
              clear hw6 HT4
              cases hb : sMem s (ns.take k2) with
              | true =>
                clear hb
                go_wp2
                go_ret2
                exact ⟨HN.out, HBW.out _ HR6.out⟩
              | false =>
                clear hb
                go_wp2
                go_roundw
                case rel => exact ⟨k2 + 1, hj2, by go_num, HT3.out, HR6.out⟩
                case measure => simp [intOf]; omega
        · have HTo : Aside0 (TOkTo ns ns.length) := ⟨(show k2 = ns.length by omega) ▸ hS⟩
          clear hS
          skip
          obtain ⟨k0, k1, k2, k3, k4, k5, k6⟩ := HBx.out.on HR.out
          go_wp2
          go_loopw [11, 90] (fun s11 i wr => ∃ (j : Nat) (l : List Nat), j ≤ ks.length ∧ i = .int .i64 j ∧ s11 = .int .i64 ((1 + l.sum : Nat) : Int) ∧ 1 + l.sum ≤ 200 ∧ KidsOk ks j l ∧ Below W.heap.size W wr) (fun _ i _ => ks.length - (intOf i).toNat)
          case atStart => exact ⟨0, [], Nat.zero_le _, rfl, rfl, by simp, ⟨rfl, fun i c m _ h => by simp at h⟩, HR.out⟩
          case round =>
            obtain ⟨j, l, hj, rfl, rfl, hl, hO2, hRk⟩ := hrel
            have HRk := Aside0.mk hRk
            have HRz := Aside0.mk (HBW.out wr hRk)
            clear hRk
            by_cases hjl : j < ks.length
            · obtain ⟨ad, A9, c9, B9, m9, d9, hB9, hf0⟩ := KidIs.get (HKx.out wr HRk.out) j hjl
              cases hB9
              have HOk := Aside0.mk (fun m h => hO2.step (m := m) hjl h)
              have HAt := Aside0.mk (fun (wz : World) (hb : Below wr.heap.size wr wz) => hf0.at_.on hb)
              have HOT := Aside0.mk (HO.out ks[j] (List.getElem_mem hjl))
              obtain ⟨_, e0, e1, e2, e3, e4, e5, e6⟩ := hf0
              have hj2 : j + 1 ≤ ks.length := hjl
              have hll : l.sum ≤ 199 := by omega
              clear hO2
              obtain ⟨Wk, hWk⟩ : ∃ Wk, Wk = wr.alloc (.cells (trCells ks[j] A9 c9 B9 m9 d9) 26) := ⟨_, rfl⟩
              have HWk : Aside0 (Below wr.heap.size wr Wk ∧ Below W.heap.size W Wk) := ⟨by rw [hWk]; exact ⟨(Below.refl _ _).alloc (Nat.le_refl _) _, HRk.out.alloc HRk.out.size _⟩⟩
              have HWe := Aside0.mk hWk
              clear hWk
              generalize hf : ks[j] = f at *
              clear hf
              obtain ⟨fk, fi, fm, fu, ft, fn, fl⟩ := f
              go_wp2_with fail
              have HCa := Aside0.mk (HI.out.out Wk (fk, fi, fm, fu, ft, fn, fl) A9 c9 B9 m9 d9 (HAt.out _ HWk.out.1) HOT.out (HT.on (HBW.out _ HWk.out.2)))
              rw [HWe.out] at HCa
              refine HCa.out.mono ?_
              rintro e w7 ⟨⟨n7, b7, rfl, hn7, hg7⟩, hb7⟩
              rw [← HWe.out] at hb7
              have HB7 := Aside0.mk (HWk.out.2.trans (hb7.mono HWk.out.2.size))
              have HG7 := Aside0.mk hg7
              clear hb7 hg7 HCa
              cases b7 with
              | false =>
                clear HOk
                go_wp2
                go_ret2
                exact ⟨HN.out, HBW.out _ HB7.out⟩
              | true =>
                by_cases h200 : 200 < 1 + l.sum + n7
                · clear HOk
                  go_wp2
                  go_ret2
                  exact ⟨HN.out, HBW.out _ HB7.out⟩
                · replace h200 : 1 + l.sum + n7 ≤ 200 := by omega
                  have HO3 := Aside0.mk (HOk.out n7 (HG7.out rfl))
                  clear HOk
                  go_wp2
                  go_roundw
                  case rel => exact ⟨j + 1, l ++ [n7], hj2, by go_num, by simp [List.sum_append]; omega, by simp [List.sum_append]; omega, HO3.out, HB7.out⟩
                  case measure => simp [intOf]; omega
            · obtain rfl : j = ks.length := by omega
              have HEnd : Aside0 (TGood (k + 1) (5, is, mi, nu, tx, ns, ks) (1 + l.sum)) := ⟨TGood.intro (by decide) (fun h => absurd h (by decide)) (fun _ => ⟨HTo.out.all, hnm.symm⟩) (fun _ => hm) (fun h => absurd h (by decide)) (fun _ => ⟨l, hO2.len, hO2.ok, rfl⟩)⟩
              clear hO2
              go_wp2
              go_ret2
              exact ⟨⟨_, true, rfl, hl, fun _ => HEnd.out⟩, HRz.out⟩
    · have hne : (((ns.length : Nat) : Int) != ((ks.length : Nat) : Int)) = true := by simp; omega
      go_enter Tryz.func27, Tryz.ntmps27
      go_wp2
      go_ret2
      exact ⟨HN.out, HW.out ▸ HB0.out⟩
theorem hsize_all : ∀ (k dd : Nat), dd + k = 61 → KidCall k dd
  | 0, dd, h => by
    obtain rfl : dd = 61 := by omega
    exact hsize_zero
  | k + 1, dd, h => hsize_step k dd (by omega) ⟨hsize_all k (dd + 1) (by omega)⟩
end Go.Proofs.YtgldcjmdjhghpaaGreatDoor
