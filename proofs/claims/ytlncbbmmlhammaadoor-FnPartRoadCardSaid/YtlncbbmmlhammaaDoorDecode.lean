/-
  encoding/base64: Decode on letters and signs of padding: its contract. (Printed by decgen.py.)
-/
import Derived.Test.YtlncbbmmlhammaaDoorDecSt
import Derived.BigQuiet
import Derived.Deep.CutBlock
namespace Go.Proofs.YtlncbbmmlhammaaDoor
open Go.RowKit Go.Proofs.YtlncbbmmlhammaaDoorW.PrintWords Go.Lib
set_option linter.unusedVariables false
set_option linter.unusedSimpArgs false
set_option maxRecDepth 100000 in
set_option maxHeartbeats 40000000 in
theorem decode_any {w0 : World} {B : Nat} {L : List Asrt} (w : World) (url raw : Bool) (g gd b o c m cap t : Nat) (A D : Option Addr) (ts : List UInt8) (cs : Array Value) (hn : ts.length ≤ 1000000000)
    (hA : 0 < ts.length → A = some ⟨b, o, none⟩) (hlc : ts.length ≤ c) (hm : m = decLen (padOf raw) ts.length) (hD : 0 < m → D = some ⟨gd, 0, none⟩) (hmc : m ≤ cap) (hfit : m ≤ cs.size) (hne : g ≠ gd)
    (H : Hold w0 B w (.blk g (.cells (encX url (padOf raw)) 70) :: .blk gd (.cells cs t) :: L))
    (hsrc : ∀ w' cs', Hold w0 B w' (.blk g (.cells (encX url (padOf raw)) 70) :: .blk gd (.cells cs' t) :: L) → kB.C w' A ts.length ts) (hok : ∀ k ∈ ts, okC url raw k = true) :
    Calls Tryd.prog 47 #[.pointer (some ⟨g, 0, none⟩), .slice D m cap, .slice A ts.length c] w fun e w' => DPost w0 B L url raw g gd t cs e w' (decAll url raw ts) := by
  have hml : m ≤ 1000000000 := by rw [hm]; unfold decLen; split <;> omega
  have HH := Aside0.mk H
  rcases Nat.eq_zero_or_pos ts.length with h0 | h0
  · have hts : ts = [] := List.eq_nil_of_length_eq_zero h0
    subst hts
    clear hsrc hok hD hA H hm
    go_enter Tryd.func47, Tryd.ntmps47
    go_wp2
    go_ret2
    exact ⟨rfl, cs, Wrote.refl cs, HH.out⟩
  · have hA' := hA h0
    subst hA'
    have HRg := Aside0.mk H.rangeD
    have HSz := Aside0.mk (sizeD url)
    have HSR := Aside0.mk hsrc
    have HOk := Aside0.mk hok
    have HM := Aside0.mk hm
    have HD := Aside0.mk hD
    have HFit := Aside0.mk hfit
    have hu79 := Tryd.underlying70
    clear hA hsrc hok H hm hD hfit
    go_enter Tryd.func47, Tryd.ntmps47
    go_upto_block 0 with ((with_reducible refine at_dst (N := 24) rfl ?_); refine wpList_load_mid rfl 68 (.tmp 23) rfl g 64 rfl ((decX url).map bV) _ HRg.out Tryd.underlying68 rfl HSz.out ?_)
    go_cut [6, 7, 8, 9, 10, 11, 12] from 25 (fun s6 s7 s8 s9 s10 s11 s12 wc => ∃ (si n : Nat), s6 = .int .i64 n ∧ s7 = .nilIface ∧ s8 = .int .i64 si ∧ DSt w0 B L url raw g gd t m ts cs si n wc)
    case first =>
      go_wp2_with fail
      go_loopw [6, 7, 8] (fun v6 v7 v8 wr => ∃ (si n : Nat), v6 = .int .i64 n ∧ v7 = .nilIface ∧ v8 = .int .i64 si ∧ DSt w0 B L url raw g gd t m ts cs si n wr) (fun _ _ v8 _ => ts.length - (intOf v8).toNat)
      case atStart => exact ⟨0, 0, rfl, rfl, rfl, ⟨by omega, fun _ => ⟨rfl, rfl⟩, by omega, [], cs, rfl, Wrote.refl cs, by simp, HH.out⟩⟩
      case round =>
        obtain ⟨si, n, rfl, rfl, rfl, hS⟩ := hrel
        have HS := Aside0.mk hS
        have hle := hS.le
        have hnm := hS.nm
        clear hS
        by_cases hlt : 8 ≤ ts.length - si ∧ 8 ≤ m - n
        · obtain ⟨hl1, hl2⟩ := hlt
          have q1_ : (8 : Int) ≤ (ts.length : Int) - (si : Int) := by omega
          have q2_ : (8 : Int) ≤ (m : Int) - (n : Int) := by omega
          have hD := HD.out (by omega)
          subst hD
          obtain ⟨done, cs', hd, hW, hA, hH⟩ := HS.out.ex
          have hC := HSR.out wr cs' hH
          have hal := HS.out.al (by omega)
          obtain ⟨x0, hx0⟩ : ∃ x, x = ts[si + 0]'(by omega) := ⟨_, rfl⟩
          have e0 : wr.cell? ⟨b, o + si + 0, none⟩ = some (.int .u8 (x0.toNat : Int)) := by
            rw [hx0, Nat.add_assoc]
            exact cell_of_C hC (si + 0) (by omega)
          obtain ⟨x1, hx1⟩ : ∃ x, x = ts[si + 1]'(by omega) := ⟨_, rfl⟩
          have e1 : wr.cell? ⟨b, o + si + 1, none⟩ = some (.int .u8 (x1.toNat : Int)) := by
            rw [hx1, Nat.add_assoc]
            exact cell_of_C hC (si + 1) (by omega)
          obtain ⟨x2, hx2⟩ : ∃ x, x = ts[si + 2]'(by omega) := ⟨_, rfl⟩
          have e2 : wr.cell? ⟨b, o + si + 2, none⟩ = some (.int .u8 (x2.toNat : Int)) := by
            rw [hx2, Nat.add_assoc]
            exact cell_of_C hC (si + 2) (by omega)
          obtain ⟨x3, hx3⟩ : ∃ x, x = ts[si + 3]'(by omega) := ⟨_, rfl⟩
          have e3 : wr.cell? ⟨b, o + si + 3, none⟩ = some (.int .u8 (x3.toNat : Int)) := by
            rw [hx3, Nat.add_assoc]
            exact cell_of_C hC (si + 3) (by omega)
          obtain ⟨x4, hx4⟩ : ∃ x, x = ts[si + 4]'(by omega) := ⟨_, rfl⟩
          have e4 : wr.cell? ⟨b, o + si + 4, none⟩ = some (.int .u8 (x4.toNat : Int)) := by
            rw [hx4, Nat.add_assoc]
            exact cell_of_C hC (si + 4) (by omega)
          obtain ⟨x5, hx5⟩ : ∃ x, x = ts[si + 5]'(by omega) := ⟨_, rfl⟩
          have e5 : wr.cell? ⟨b, o + si + 5, none⟩ = some (.int .u8 (x5.toNat : Int)) := by
            rw [hx5, Nat.add_assoc]
            exact cell_of_C hC (si + 5) (by omega)
          obtain ⟨x6, hx6⟩ : ∃ x, x = ts[si + 6]'(by omega) := ⟨_, rfl⟩
          have e6 : wr.cell? ⟨b, o + si + 6, none⟩ = some (.int .u8 (x6.toNat : Int)) := by
            rw [hx6, Nat.add_assoc]
            exact cell_of_C hC (si + 6) (by omega)
          obtain ⟨x7, hx7⟩ : ∃ x, x = ts[si + 7]'(by omega) := ⟨_, rfl⟩
          have e7 : wr.cell? ⟨b, o + si + 7, none⟩ = some (.int .u8 (x7.toNat : Int)) := by
            rw [hx7, Nat.add_assoc]
            exact cell_of_C hC (si + 7) (by omega)
          rw [Nat.add_zero] at e0
          have d0 := hH.dcell x0
          obtain ⟨q0, hq0⟩ : ∃ q, q = dX url x0 := ⟨_, rfl⟩
          rw [← hq0] at d0
          have b0 : (x0.toNat : Int) < 256 := by have := x0.toNat_lt; omega
          have d1 := hH.dcell x1
          obtain ⟨q1, hq1⟩ : ∃ q, q = dX url x1 := ⟨_, rfl⟩
          rw [← hq1] at d1
          have b1 : (x1.toNat : Int) < 256 := by have := x1.toNat_lt; omega
          have d2 := hH.dcell x2
          obtain ⟨q2, hq2⟩ : ∃ q, q = dX url x2 := ⟨_, rfl⟩
          rw [← hq2] at d2
          have b2 : (x2.toNat : Int) < 256 := by have := x2.toNat_lt; omega
          have d3 := hH.dcell x3
          obtain ⟨q3, hq3⟩ : ∃ q, q = dX url x3 := ⟨_, rfl⟩
          rw [← hq3] at d3
          have b3 : (x3.toNat : Int) < 256 := by have := x3.toNat_lt; omega
          have d4 := hH.dcell x4
          obtain ⟨q4, hq4⟩ : ∃ q, q = dX url x4 := ⟨_, rfl⟩
          rw [← hq4] at d4
          have b4 : (x4.toNat : Int) < 256 := by have := x4.toNat_lt; omega
          have d5 := hH.dcell x5
          obtain ⟨q5, hq5⟩ : ∃ q, q = dX url x5 := ⟨_, rfl⟩
          rw [← hq5] at d5
          have b5 : (x5.toNat : Int) < 256 := by have := x5.toNat_lt; omega
          have d6 := hH.dcell x6
          obtain ⟨q6, hq6⟩ : ∃ q, q = dX url x6 := ⟨_, rfl⟩
          rw [← hq6] at d6
          have b6 : (x6.toNat : Int) < 256 := by have := x6.toNat_lt; omega
          have d7 := hH.dcell x7
          obtain ⟨q7, hq7⟩ : ∃ q, q = dX url x7 := ⟨_, rfl⟩
          rw [← hq7] at d7
          have b7 : (x7.toNat : Int) < 256 := by have := x7.toNat_lt; omega
          have HX : Aside0 (ts[si + 0]? = some x0 ∧ ts[si + 1]? = some x1 ∧ ts[si + 2]? = some x2 ∧ ts[si + 3]? = some x3 ∧ ts[si + 4]? = some x4 ∧ ts[si + 5]? = some x5 ∧ ts[si + 6]? = some x6 ∧ ts[si + 7]? = some x7) := ⟨⟨by rw [hx0]; exact List.getElem?_eq_getElem _, by rw [hx1]; exact List.getElem?_eq_getElem _, by rw [hx2]; exact List.getElem?_eq_getElem _, by rw [hx3]; exact List.getElem?_eq_getElem _, by rw [hx4]; exact List.getElem?_eq_getElem _, by rw [hx5]; exact List.getElem?_eq_getElem _, by rw [hx6]; exact List.getElem?_eq_getElem _, by rw [hx7]; exact List.getElem?_eq_getElem _⟩⟩
          have HQ : Aside0 (q0 = dX url x0 ∧ q1 = dX url x1 ∧ q2 = dX url x2 ∧ q3 = dX url x3 ∧ q4 = dX url x4 ∧ q5 = dX url x5 ∧ q6 = dX url x6 ∧ q7 = dX url x7) := ⟨⟨hq0, hq1, hq2, hq3, hq4, hq5, hq6, hq7⟩⟩
          have HE := Aside0.mk (And.intro hd (And.intro hW (And.intro hA (And.intro hH hal))))
          clear hd hW hA hH hC hal hx0 hx1 hx2 hx3 hx4 hx5 hx6 hx7 hq0 hq1 hq2 hq3 hq4 hq5 hq6 hq7
          by_cases hv : ∃ q ∈ [q0, q1, q2, q3, q4, q5, q6, q7], q = 255
          · as_aux_lemma =>
            have HA64 : Aside0 (∀ w', Calls Tryd.prog 53 #[.int .u8 (q0.toNat : Int), .int .u8 (q1.toNat : Int), .int .u8 (q2.toNat : Int), .int .u8 (q3.toNat : Int), .int .u8 (q4.toNat : Int), .int .u8 (q5.toNat : Int), .int .u8 (q6.toNat : Int), .int .u8 (q7.toNat : Int)] w' fun e w2 => e = .returned (.tuple #[.int .u64 0, .bool false]) ∧ w2 = w') := ⟨fun w' => (asm64_no w' q0 q1 q2 q3 q4 q5 q6 q7 hv).mono (fun e w2 h => ⟨h.1, h.2.symm⟩)⟩
            clear hv
            go_wp2
            refine wp_region_quiet_lit (by kernel_rfl) (by kernel_rfl) ?_
            (try dsimp only [List.append])
            repeat (go_big_quiet_step (first | (go_at_call 53; refine Calls.quiet_of_same (HA64.out _))))
            refine wpQuiet_nil ?_
            intro wq hw'
            obtain ⟨nq, hw''⟩ := hw'
            subst hw''
            obtain ⟨wq, hwq⟩ : ∃ wq, wq = wr.drewN nq := ⟨_, rfl⟩
            have HWQ : Aside0 (∀ {L'}, Hold w0 B wr L' → Hold w0 B wq L') := ⟨fun h => by rw [hwq]; exact h.drewN nq⟩
            rw [← hwq]
            clear hwq e0 e1 e2 e3 e4 e5 e6 e7 d0 d1 d2 d3 d4 d5 d6 d7 b0 b1 b2 b3 b4 b5 b6 b7
            obtain ⟨done, cs', hd, hW, hA, hH⟩ := HS.out.ex
            have hal := HS.out.al (by omega)
            have hcs : cs'.size = cs.size := hW.size
            have hfit := HFit.out
            have hmm := HM.out
            have hQ := fun (ml cp : Nat) (D' : Option Addr) (e0 : ml = m - n) (h : 0 < ml → D' = some ⟨gd, n, none⟩) => quantS_any (w0 := w0) (B := B) (L := L) wq url raw g gd n b o ts.length c ml cp t si D' ts cs' hn h (by omega) hne (HWQ.out hH) (HSR.out _ _ (HWQ.out hH)) HOk.out (by omega) (fun h4 => by rw [e0, hmm]; unfold decLen; split <;> omega) (fun hr => by subst hr; rw [e0, hmm]; unfold decLen padOf; simp only [if_true]; omega)
            have hstep : ∀ bs k cs2 w', decStep url raw (ts.drop si) = some (bs, k) → Wrote cs' cs2 n bs → Hold w0 B w' (.blk g (.cells (encX url (padOf raw)) 70) :: .blk gd (.cells cs2 t) :: L) → DSt w0 B L url raw g gd t m ts cs (si + k) (n + bs.length) w' := fun bs k cs2 w' h1 h2 h3 => DSt.step hmm (by omega) hal hd hW hA h1 h2 h3
            have hnone : decStep url raw (ts.drop si) = none → decAll url raw ts = none := fun h => by
              have hne0 : ts.drop si ≠ [] := by
                intro e0
                have := congrArg List.length e0
                rw [List.length_drop] at this
                simp at this
                omega
              rw [hA, decAll_step _ _ _ hne0, h]
              rfl
            have HQ2 := Aside0.mk hQ
            have HSt := Aside0.mk hstep
            have HNo := Aside0.mk hnone
            clear hd hW hA hH hal hcs hfit hmm hQ hstep hnone
            go_wp2_with fail
            refine (HQ2.out (m - n) _ _ rfl (fun _ => rfl)).mono ?_
            cases hds : decStep url raw (ts.drop si) with
            | none =>
              have HN0 := Aside0.mk (HNo.out hds)
              clear hds
              rintro e w2 ⟨⟨s, k, t', v, rfl⟩, cs2, _, hH2⟩
              have HH2 := Aside0.mk hH2
              clear hH2
              go_wp2
              go_ret2
              rw [HN0.out]
              exact ⟨⟨_, _, _, rfl⟩, cs2, HH2.out⟩
            | some q =>
              obtain ⟨bs, k⟩ := q
              obtain ⟨f1, f0, f2, f3, f4⟩ := decStep_facts hds
              rw [List.length_drop] at f1
              rintro e w2 ⟨rfl, cs2, hW2, hH2⟩
              have HD2 := Aside0.mk (HSt.out bs k cs2 w2 hds hW2 hH2)
              have hk4 : k ≤ ts.length := by omega
              obtain ⟨bl, hbl⟩ : ∃ bl, bl = bs.length := ⟨_, rfl⟩
              obtain ⟨s2, hs2⟩ : ∃ s2, s2 = si + k := ⟨_, rfl⟩
              simp only []
              rw [← hbl] at f4 ⊢
              rw [← hs2]
              have HB := Aside0.mk (And.intro hbl hs2)
              have hsl : s2 ≤ 1000000000 := by omega
              have hdec : ts.length - s2 < ts.length - si := by omega
              have HDc := Aside0.mk hdec
              clear hds hW2 hH2 f1 f0 f2 f3 hk4 hbl hs2 hdec
              go_wp2
              obtain ⟨e1, e2⟩ := HB.out
              refine ⟨⟨s2, n + bl, ?_, rfl, rfl, ?_⟩, ?_⟩
              · first | rfl | (rw [Int.natCast_add]; rfl) | (rw [Nat.zero_add])
              · rw [e1, e2]; exact HD2.out
              · have := HDc.out; simpa [intOf] using this
          · as_aux_lemma =>
            have hv' : q0 ≠ 255 ∧ q1 ≠ 255 ∧ q2 ≠ 255 ∧ q3 ≠ 255 ∧ q4 ≠ 255 ∧ q5 ≠ 255 ∧ q6 ≠ 255 ∧ q7 ≠ 255 := ⟨fun h => hv ⟨q0, by simp, h⟩, fun h => hv ⟨q1, by simp, h⟩, fun h => hv ⟨q2, by simp, h⟩, fun h => hv ⟨q3, by simp, h⟩, fun h => hv ⟨q4, by simp, h⟩, fun h => hv ⟨q5, by simp, h⟩, fun h => hv ⟨q6, by simp, h⟩, fun h => hv ⟨q7, by simp, h⟩⟩
            obtain ⟨v0, v1, v2, v3, v4, v5, v6, v7⟩ := hv'
            obtain ⟨z0, z1, z2, z3, z4, z5, z6, z7⟩ := HQ.out
            have u0_ : q0.toNat < 64 := by rw [z0]; exact dX_lt url x0 (by rw [← z0]; exact v0)
            have u1_ : q1.toNat < 64 := by rw [z1]; exact dX_lt url x1 (by rw [← z1]; exact v1)
            have u2_ : q2.toNat < 64 := by rw [z2]; exact dX_lt url x2 (by rw [← z2]; exact v2)
            have u3_ : q3.toNat < 64 := by rw [z3]; exact dX_lt url x3 (by rw [← z3]; exact v3)
            have u4_ : q4.toNat < 64 := by rw [z4]; exact dX_lt url x4 (by rw [← z4]; exact v4)
            have u5_ : q5.toNat < 64 := by rw [z5]; exact dX_lt url x5 (by rw [← z5]; exact v5)
            have u6_ : q6.toNat < 64 := by rw [z6]; exact dX_lt url x6 (by rw [← z6]; exact v6)
            have u7_ : q7.toNat < 64 := by rw [z7]; exact dX_lt url x7 (by rw [← z7]; exact v7)
            obtain ⟨V, hV⟩ : ∃ V : Nat, V = (n24 q0 q1 q2 q3 * 1099511627776 + n24 q4 q5 q6 q7 * 65536) := ⟨_, rfl⟩
            have HA64 : Aside0 (∀ w', Calls Tryd.prog 53 #[.int .u8 (q0.toNat : Int), .int .u8 (q1.toNat : Int), .int .u8 (q2.toNat : Int), .int .u8 (q3.toNat : Int), .int .u8 (q4.toNat : Int), .int .u8 (q5.toNat : Int), .int .u8 (q6.toNat : Int), .int .u8 (q7.toNat : Int)] w' fun e w2 => e = .returned (.tuple #[.int .u64 (V : Int), .bool true]) ∧ w2 = w') := ⟨fun w' => by
              rw [hV]
              exact (asm64_ok w' q0 q1 q2 q3 q4 q5 q6 q7 u0_ u1_ u2_ u3_ u4_ u5_ u6_ u7_).mono (fun e w2 h => ⟨h.1, h.2.symm⟩)⟩
            have HVb : Aside0 ((be8 V).take 6 = [byA q0 q1, byB q1 q2, byC q2 q3, byA q4 q5, byB q5 q6, byC q6 q7].map bV) := ⟨by
              obtain ⟨a0, a1, a2, a3⟩ := by24 q0 q1 q2 q3 u0_ u1_ u2_ u3_
              obtain ⟨c0, c1, c2, c3⟩ := by24 q4 q5 q6 q7 u4_ u5_ u6_ u7_
              rw [hV, be8_bytes _ _ a0 c0, a1, a2, a3, c1, c2, c3]
              rfl⟩
            have HVv : Aside0 (dX url x0 ≠ 255 ∧ dX url x1 ≠ 255 ∧ dX url x2 ≠ 255 ∧ dX url x3 ≠ 255 ∧ dX url x4 ≠ 255 ∧ dX url x5 ≠ 255 ∧ dX url x6 ≠ 255 ∧ dX url x7 ≠ 255) := ⟨⟨by rw [← z0]; exact v0, by rw [← z1]; exact v1, by rw [← z2]; exact v2, by rw [← z3]; exact v3, by rw [← z4]; exact v4, by rw [← z5]; exact v5, by rw [← z6]; exact v6, by rw [← z7]; exact v7⟩⟩
            clear hv hV v0 v1 v2 v3 v4 v5 v6 v7 z0 z1 z2 z3 z4 z5 z6 z7 u0_ u1_ u2_ u3_ u4_ u5_ u6_ u7_
            go_wp2
            refine wp_region_quiet_lit (by kernel_rfl) (by kernel_rfl) ?_
            (try dsimp only [List.append])
            repeat (go_big_quiet_step (first | (go_at_call 53; refine Calls.quiet_of_same (HA64.out _))))
            refine wpQuiet_nil ?_
            intro wq hw'
            obtain ⟨nq, hw''⟩ := hw'
            subst hw''
            obtain ⟨wq, hwq⟩ : ∃ wq, wq = wr.drewN nq := ⟨_, rfl⟩
            have HWQ : Aside0 (∀ {L'}, Hold w0 B wr L' → Hold w0 B wq L') := ⟨fun h => by rw [hwq]; exact h.drewN nq⟩
            rw [← hwq]
            clear hwq e0 e1 e2 e3 e4 e5 e6 e7 d0 d1 d2 d3 d4 d5 d6 d7 b0 b1 b2 b3 b4 b5 b6 b7
            obtain ⟨hd, hW, hA, hH, hal⟩ := HE.out
            have hcs : cs'.size = cs.size := hW.size
            have hfit := HFit.out
            have hsz : n + 8 ≤ cs'.size := by omega
            have HP := Aside0.mk (fun (cp : Nat) => bput64_any (w0 := w0) (B := B) wq gd n (m - n) cp t V cs' (by omega) hsz (HWQ.out hH).swap)
            have HSz2 := Aside0.mk hsz
            clear hd hW hA hH hal hcs hfit hsz
            go_wp2_with fail
            refine (HP.out _).mono ?_
            rintro e w2 ⟨rfl, hH2⟩
            have HH2 := Aside0.mk hH2.swap
            clear hH2
            go_wp2
            refine ⟨⟨si + 8, n + 6, ?_, rfl, ?_, ?_⟩, ?_⟩
            · first | rfl | (rw [Int.natCast_add]; rfl)
            · first | rfl | (rw [Int.natCast_add]; rfl)
            · obtain ⟨hd, hW, hA, hH, hal⟩ := HE.out
              obtain ⟨g0, g1, g2, g3, g4, g5, g6, g7⟩ := HX.out
              obtain ⟨z0, z1, z2, z3, z4, z5, z6, z7⟩ := HQ.out
              obtain ⟨v0, v1, v2, v3, v4, v5, v6, v7⟩ := HVv.out
              have hWp : Wrote cs' (putN cs' n (be8 V)) n [byA q0 q1, byB q1 q2, byC q2 q3, byA q4 q5, byB q5 q6, byC q6 q7] := wrote_put cs' n (be8 V) _ 8 HVb.out rfl HSz2.out
              refine DSt.adv (bs := [byA q0 q1, byB q1 q2, byC q2 q3, byA q4 q5, byB q5 q6, byC q6 q7]) (k := 8) hal hd hW hA (by omega) (by simp) (by simp only [List.length_cons, List.length_nil]; omega) ?_ hWp HH2.out
              rw [Nat.add_zero] at g0
              have hdrop : ts.drop si = x0 :: x1 :: x2 :: x3 :: x4 :: x5 :: x6 :: x7 :: ts.drop (si + 8) := by rw [drop_at g0, drop_at g1, drop_at g2, drop_at g3, drop_at g4, drop_at g5, drop_at g6, drop_at g7]
              rw [hdrop, decAll4 v0 v1 v2 v3, decAll4 v4 v5 v6 v7, z0, z1, z2, z3, z4, z5, z6, z7]
              (try (cases decAll url raw (ts.drop (si + 8)) <;> rfl))
            · simp [intOf]; omega
        · have q1_ : ¬ ((8 : Int) ≤ (ts.length : Int) - (si : Int)) ∨ ((8 : Int) ≤ (ts.length : Int) - (si : Int) ∧ ¬ ((8 : Int) ≤ (m : Int) - (n : Int))) := by
            rcases Nat.lt_or_ge (ts.length - si) 8 with h | h
            · exact .inl (by omega)
            · exact .inr (by omega)
          rcases q1_ with q1_ | ⟨q1_, q2_⟩
          all_goals
            go_wp2
            go_meet
            case rel => exact ⟨si, n, rfl, rfl, rfl, HS.out⟩
    case rest =>
      obtain ⟨si, n, rfl, rfl, rfl, hS⟩ := hcut
      have HS := Aside0.mk hS
      have hle := hS.le
      have hnm := hS.nm
      clear hS
      go_upto_block 2 with fail
      go_cut [6, 7, 8, 13, 14, 15, 16] from 25 (fun s6 s7 s8 s13 s14 s15 s16 wc => ∃ (si n : Nat), s6 = .int .i64 n ∧ s7 = .nilIface ∧ s8 = .int .i64 si ∧ DSt w0 B L url raw g gd t m ts cs si n wc)
      case first =>
        go_wp2_with fail
        go_loopw [6, 7, 8] (fun v6 v7 v8 wr => ∃ (si n : Nat), v6 = .int .i64 n ∧ v7 = .nilIface ∧ v8 = .int .i64 si ∧ DSt w0 B L url raw g gd t m ts cs si n wr) (fun _ _ v8 _ => ts.length - (intOf v8).toNat)
        case atStart => exact ⟨si, n, rfl, rfl, rfl, HS.out⟩
        case round =>
          clear HS hle hnm
          obtain ⟨si, n, rfl, rfl, rfl, hS⟩ := hrel
          have HS := Aside0.mk hS
          have hle := hS.le
          have hnm := hS.nm
          clear hS
          by_cases hlt : 4 ≤ ts.length - si ∧ 4 ≤ m - n
          · obtain ⟨hl1, hl2⟩ := hlt
            have q1_ : (4 : Int) ≤ (ts.length : Int) - (si : Int) := by omega
            have q2_ : (4 : Int) ≤ (m : Int) - (n : Int) := by omega
            have hD := HD.out (by omega)
            subst hD
            obtain ⟨done, cs', hd, hW, hA, hH⟩ := HS.out.ex
            have hC := HSR.out wr cs' hH
            have hal := HS.out.al (by omega)
            obtain ⟨x0, hx0⟩ : ∃ x, x = ts[si + 0]'(by omega) := ⟨_, rfl⟩
            have e0 : wr.cell? ⟨b, o + si + 0, none⟩ = some (.int .u8 (x0.toNat : Int)) := by
              rw [hx0, Nat.add_assoc]
              exact cell_of_C hC (si + 0) (by omega)
            obtain ⟨x1, hx1⟩ : ∃ x, x = ts[si + 1]'(by omega) := ⟨_, rfl⟩
            have e1 : wr.cell? ⟨b, o + si + 1, none⟩ = some (.int .u8 (x1.toNat : Int)) := by
              rw [hx1, Nat.add_assoc]
              exact cell_of_C hC (si + 1) (by omega)
            obtain ⟨x2, hx2⟩ : ∃ x, x = ts[si + 2]'(by omega) := ⟨_, rfl⟩
            have e2 : wr.cell? ⟨b, o + si + 2, none⟩ = some (.int .u8 (x2.toNat : Int)) := by
              rw [hx2, Nat.add_assoc]
              exact cell_of_C hC (si + 2) (by omega)
            obtain ⟨x3, hx3⟩ : ∃ x, x = ts[si + 3]'(by omega) := ⟨_, rfl⟩
            have e3 : wr.cell? ⟨b, o + si + 3, none⟩ = some (.int .u8 (x3.toNat : Int)) := by
              rw [hx3, Nat.add_assoc]
              exact cell_of_C hC (si + 3) (by omega)
            rw [Nat.add_zero] at e0
            have d0 := hH.dcell x0
            obtain ⟨q0, hq0⟩ : ∃ q, q = dX url x0 := ⟨_, rfl⟩
            rw [← hq0] at d0
            have b0 : (x0.toNat : Int) < 256 := by have := x0.toNat_lt; omega
            have d1 := hH.dcell x1
            obtain ⟨q1, hq1⟩ : ∃ q, q = dX url x1 := ⟨_, rfl⟩
            rw [← hq1] at d1
            have b1 : (x1.toNat : Int) < 256 := by have := x1.toNat_lt; omega
            have d2 := hH.dcell x2
            obtain ⟨q2, hq2⟩ : ∃ q, q = dX url x2 := ⟨_, rfl⟩
            rw [← hq2] at d2
            have b2 : (x2.toNat : Int) < 256 := by have := x2.toNat_lt; omega
            have d3 := hH.dcell x3
            obtain ⟨q3, hq3⟩ : ∃ q, q = dX url x3 := ⟨_, rfl⟩
            rw [← hq3] at d3
            have b3 : (x3.toNat : Int) < 256 := by have := x3.toNat_lt; omega
            have HX : Aside0 (ts[si + 0]? = some x0 ∧ ts[si + 1]? = some x1 ∧ ts[si + 2]? = some x2 ∧ ts[si + 3]? = some x3) := ⟨⟨by rw [hx0]; exact List.getElem?_eq_getElem _, by rw [hx1]; exact List.getElem?_eq_getElem _, by rw [hx2]; exact List.getElem?_eq_getElem _, by rw [hx3]; exact List.getElem?_eq_getElem _⟩⟩
            have HQ : Aside0 (q0 = dX url x0 ∧ q1 = dX url x1 ∧ q2 = dX url x2 ∧ q3 = dX url x3) := ⟨⟨hq0, hq1, hq2, hq3⟩⟩
            have HE := Aside0.mk (And.intro hd (And.intro hW (And.intro hA (And.intro hH hal))))
            clear hd hW hA hH hC hal hx0 hx1 hx2 hx3 hq0 hq1 hq2 hq3
            by_cases hv : ∃ q ∈ [q0, q1, q2, q3], q = 255
            · as_aux_lemma =>
              have HA64 : Aside0 (∀ w', Calls Tryd.prog 56 #[.int .u8 (q0.toNat : Int), .int .u8 (q1.toNat : Int), .int .u8 (q2.toNat : Int), .int .u8 (q3.toNat : Int)] w' fun e w2 => e = .returned (.tuple #[.int .u32 0, .bool false]) ∧ w2 = w') := ⟨fun w' => (asm32_no w' q0 q1 q2 q3 hv).mono (fun e w2 h => ⟨h.1, h.2.symm⟩)⟩
              clear hv
              go_wp2
              refine wp_region_quiet_lit (by kernel_rfl) (by kernel_rfl) ?_
              repeat (go_big_quiet_step (first | (go_at_call 56; refine Calls.quiet_of_same (HA64.out _))))
              refine wpQuiet_nil ?_
              intro wq hw'
              obtain ⟨nq, hw''⟩ := hw'
              subst hw''
              obtain ⟨wq, hwq⟩ : ∃ wq, wq = wr.drewN nq := ⟨_, rfl⟩
              have HWQ : Aside0 (∀ {L'}, Hold w0 B wr L' → Hold w0 B wq L') := ⟨fun h => by rw [hwq]; exact h.drewN nq⟩
              rw [← hwq]
              clear hwq e0 e1 e2 e3 d0 d1 d2 d3 b0 b1 b2 b3
              obtain ⟨done, cs', hd, hW, hA, hH⟩ := HS.out.ex
              have hal := HS.out.al (by omega)
              have hcs : cs'.size = cs.size := hW.size
              have hfit := HFit.out
              have hmm := HM.out
              have hQ := fun (ml cp : Nat) (D' : Option Addr) (e0 : ml = m - n) (h : 0 < ml → D' = some ⟨gd, n, none⟩) => quantS_any (w0 := w0) (B := B) (L := L) wq url raw g gd n b o ts.length c ml cp t si D' ts cs' hn h (by omega) hne (HWQ.out hH) (HSR.out _ _ (HWQ.out hH)) HOk.out (by omega) (fun h4 => by rw [e0, hmm]; unfold decLen; split <;> omega) (fun hr => by subst hr; rw [e0, hmm]; unfold decLen padOf; simp only [if_true]; omega)
              have hstep : ∀ bs k cs2 w', decStep url raw (ts.drop si) = some (bs, k) → Wrote cs' cs2 n bs → Hold w0 B w' (.blk g (.cells (encX url (padOf raw)) 70) :: .blk gd (.cells cs2 t) :: L) → DSt w0 B L url raw g gd t m ts cs (si + k) (n + bs.length) w' := fun bs k cs2 w' h1 h2 h3 => DSt.step hmm (by omega) hal hd hW hA h1 h2 h3
              have hnone : decStep url raw (ts.drop si) = none → decAll url raw ts = none := fun h => by
                have hne0 : ts.drop si ≠ [] := by
                  intro e0
                  have := congrArg List.length e0
                  rw [List.length_drop] at this
                  simp at this
                  omega
                rw [hA, decAll_step _ _ _ hne0, h]
                rfl
              have HQ2 := Aside0.mk hQ
              have HSt := Aside0.mk hstep
              have HNo := Aside0.mk hnone
              clear hd hW hA hH hal hcs hfit hmm hQ hstep hnone
              go_wp2_with fail
              refine (HQ2.out (m - n) _ _ rfl (fun _ => rfl)).mono ?_
              cases hds : decStep url raw (ts.drop si) with
              | none =>
                have HN0 := Aside0.mk (HNo.out hds)
                clear hds
                rintro e w2 ⟨⟨s, k, t', v, rfl⟩, cs2, _, hH2⟩
                have HH2 := Aside0.mk hH2
                clear hH2
                go_wp2
                go_ret2
                rw [HN0.out]
                exact ⟨⟨_, _, _, rfl⟩, cs2, HH2.out⟩
              | some q =>
                obtain ⟨bs, k⟩ := q
                obtain ⟨f1, f0, f2, f3, f4⟩ := decStep_facts hds
                rw [List.length_drop] at f1
                rintro e w2 ⟨rfl, cs2, hW2, hH2⟩
                have HD2 := Aside0.mk (HSt.out bs k cs2 w2 hds hW2 hH2)
                have hk4 : k ≤ ts.length := by omega
                obtain ⟨bl, hbl⟩ : ∃ bl, bl = bs.length := ⟨_, rfl⟩
                obtain ⟨s2, hs2⟩ : ∃ s2, s2 = si + k := ⟨_, rfl⟩
                simp only []
                rw [← hbl] at f4 ⊢
                rw [← hs2]
                have HB := Aside0.mk (And.intro hbl hs2)
                have hsl : s2 ≤ 1000000000 := by omega
                have hdec : ts.length - s2 < ts.length - si := by omega
                have HDc := Aside0.mk hdec
                clear hds hW2 hH2 f1 f0 f2 f3 hk4 hbl hs2 hdec
                go_wp2
                obtain ⟨e1, e2⟩ := HB.out
                refine ⟨⟨s2, n + bl, ?_, rfl, rfl, ?_⟩, ?_⟩
                · first | rfl | (rw [Int.natCast_add]; rfl) | (rw [Nat.zero_add])
                · rw [e1, e2]; exact HD2.out
                · have := HDc.out; simpa [intOf] using this
            · as_aux_lemma =>
              have hv' : q0 ≠ 255 ∧ q1 ≠ 255 ∧ q2 ≠ 255 ∧ q3 ≠ 255 := ⟨fun h => hv ⟨q0, by simp, h⟩, fun h => hv ⟨q1, by simp, h⟩, fun h => hv ⟨q2, by simp, h⟩, fun h => hv ⟨q3, by simp, h⟩⟩
              obtain ⟨v0, v1, v2, v3⟩ := hv'
              obtain ⟨z0, z1, z2, z3⟩ := HQ.out
              have u0_ : q0.toNat < 64 := by rw [z0]; exact dX_lt url x0 (by rw [← z0]; exact v0)
              have u1_ : q1.toNat < 64 := by rw [z1]; exact dX_lt url x1 (by rw [← z1]; exact v1)
              have u2_ : q2.toNat < 64 := by rw [z2]; exact dX_lt url x2 (by rw [← z2]; exact v2)
              have u3_ : q3.toNat < 64 := by rw [z3]; exact dX_lt url x3 (by rw [← z3]; exact v3)
              obtain ⟨V, hV⟩ : ∃ V : Nat, V = (n24 q0 q1 q2 q3 * 256) := ⟨_, rfl⟩
              have HA64 : Aside0 (∀ w', Calls Tryd.prog 56 #[.int .u8 (q0.toNat : Int), .int .u8 (q1.toNat : Int), .int .u8 (q2.toNat : Int), .int .u8 (q3.toNat : Int)] w' fun e w2 => e = .returned (.tuple #[.int .u32 (V : Int), .bool true]) ∧ w2 = w') := ⟨fun w' => by
                rw [hV]
                exact (asm32_ok w' q0 q1 q2 q3 u0_ u1_ u2_ u3_).mono (fun e w2 h => ⟨h.1, h.2.symm⟩)⟩
              have HVb : Aside0 ((be4 V).take 3 = [byA q0 q1, byB q1 q2, byC q2 q3].map bV) := ⟨by
                obtain ⟨a0, a1, a2, a3⟩ := by24 q0 q1 q2 q3 u0_ u1_ u2_ u3_
                rw [hV, be4_bytes _ a0, a1, a2, a3]
                rfl⟩
              have HVv : Aside0 (dX url x0 ≠ 255 ∧ dX url x1 ≠ 255 ∧ dX url x2 ≠ 255 ∧ dX url x3 ≠ 255) := ⟨⟨by rw [← z0]; exact v0, by rw [← z1]; exact v1, by rw [← z2]; exact v2, by rw [← z3]; exact v3⟩⟩
              clear hv hV v0 v1 v2 v3 z0 z1 z2 z3 u0_ u1_ u2_ u3_
              go_wp2
              refine wp_region_quiet_lit (by kernel_rfl) (by kernel_rfl) ?_
              repeat (go_big_quiet_step (first | (go_at_call 56; refine Calls.quiet_of_same (HA64.out _))))
              refine wpQuiet_nil ?_
              intro wq hw'
              obtain ⟨nq, hw''⟩ := hw'
              subst hw''
              obtain ⟨wq, hwq⟩ : ∃ wq, wq = wr.drewN nq := ⟨_, rfl⟩
              have HWQ : Aside0 (∀ {L'}, Hold w0 B wr L' → Hold w0 B wq L') := ⟨fun h => by rw [hwq]; exact h.drewN nq⟩
              rw [← hwq]
              clear hwq e0 e1 e2 e3 d0 d1 d2 d3 b0 b1 b2 b3
              obtain ⟨hd, hW, hA, hH, hal⟩ := HE.out
              have hcs : cs'.size = cs.size := hW.size
              have hfit := HFit.out
              have hsz : n + 4 ≤ cs'.size := by omega
              have HP := Aside0.mk (fun (cp : Nat) => put32_any (w0 := w0) (B := B) wq gd n (m - n) cp t V cs' (by omega) hsz (HWQ.out hH).swap)
              have HSz2 := Aside0.mk hsz
              clear hd hW hA hH hal hcs hfit hsz
              go_wp2_with fail
              refine (HP.out _).mono ?_
              rintro e w2 ⟨rfl, hH2⟩
              have HH2 := Aside0.mk hH2.swap
              clear hH2
              go_wp2
              refine ⟨⟨si + 4, n + 3, ?_, rfl, ?_, ?_⟩, ?_⟩
              · first | rfl | (rw [Int.natCast_add]; rfl)
              · first | rfl | (rw [Int.natCast_add]; rfl)
              · obtain ⟨hd, hW, hA, hH, hal⟩ := HE.out
                obtain ⟨g0, g1, g2, g3⟩ := HX.out
                obtain ⟨z0, z1, z2, z3⟩ := HQ.out
                obtain ⟨v0, v1, v2, v3⟩ := HVv.out
                have hWp : Wrote cs' (putN cs' n (be4 V)) n [byA q0 q1, byB q1 q2, byC q2 q3] := wrote_put cs' n (be4 V) _ 4 HVb.out rfl HSz2.out
                refine DSt.adv (bs := [byA q0 q1, byB q1 q2, byC q2 q3]) (k := 4) hal hd hW hA (by omega) (by simp) (by simp only [List.length_cons, List.length_nil]; omega) ?_ hWp HH2.out
                rw [Nat.add_zero] at g0
                have hdrop : ts.drop si = x0 :: x1 :: x2 :: x3 :: ts.drop (si + 4) := by rw [drop_at g0, drop_at g1, drop_at g2, drop_at g3]
                rw [hdrop, decAll4 v0 v1 v2 v3, z0, z1, z2, z3]
                (try (cases decAll url raw (ts.drop (si + 4)) <;> rfl))
              · simp [intOf]; omega
          · have q1_ : ¬ ((4 : Int) ≤ (ts.length : Int) - (si : Int)) ∨ ((4 : Int) ≤ (ts.length : Int) - (si : Int) ∧ ¬ ((4 : Int) ≤ (m : Int) - (n : Int))) := by
              rcases Nat.lt_or_ge (ts.length - si) 4 with h | h
              · exact .inl (by omega)
              · exact .inr (by omega)
            rcases q1_ with q1_ | ⟨q1_, q2_⟩
            all_goals
              go_wp2
              go_meet
              case rel => exact ⟨si, n, rfl, rfl, rfl, HS.out⟩
      case rest =>
        clear HS hle hnm
        obtain ⟨si, n, rfl, rfl, rfl, hS⟩ := hcut
        have HS := Aside0.mk hS
        have hle := hS.le
        have hnm := hS.nm
        clear hS
        go_wp2_with fail
        go_loopw [6, 7, 8] (fun v6 v7 v8 wr => ∃ (si n : Nat), v6 = .int .i64 n ∧ v7 = .nilIface ∧ v8 = .int .i64 si ∧ DSt w0 B L url raw g gd t m ts cs si n wr) (fun _ _ v8 _ => ts.length - (intOf v8).toNat)
        case atStart => exact ⟨si, n, rfl, rfl, rfl, HS.out⟩
        case round =>
          clear HS hle hnm
          obtain ⟨si, n, rfl, rfl, rfl, hS⟩ := hrel
          have HS := Aside0.mk hS
          have hle := hS.le
          have hnm := hS.nm
          clear hS
          by_cases hlt : si < ts.length
          · have q1_ : (si : Int) < (ts.length : Int) := by omega
            obtain ⟨wq, hwq⟩ : ∃ wq, wq = wr := ⟨_, rfl⟩
            have HWQ : Aside0 (∀ {L'}, Hold w0 B wr L' → Hold w0 B wq L') := ⟨fun h => by rw [hwq]; exact h⟩
            rw [← hwq]
            clear hwq
            obtain ⟨done, cs', hd, hW, hA, hH⟩ := HS.out.ex
            have hal := HS.out.al (by omega)
            have hcs : cs'.size = cs.size := hW.size
            have hfit := HFit.out
            have hmm := HM.out
            have hQ := fun (ml cp : Nat) (D' : Option Addr) (e0 : ml = m - n) (h : 0 < ml → D' = some ⟨gd, n, none⟩) => quantS_any (w0 := w0) (B := B) (L := L) wq url raw g gd n b o ts.length c ml cp t si D' ts cs' hn h (by omega) hne (HWQ.out hH) (HSR.out _ _ (HWQ.out hH)) HOk.out (by omega) (fun h4 => by rw [e0, hmm]; unfold decLen; split <;> omega) (fun hr => by subst hr; rw [e0, hmm]; unfold decLen padOf; simp only [if_true]; omega)
            have hstep : ∀ bs k cs2 w', decStep url raw (ts.drop si) = some (bs, k) → Wrote cs' cs2 n bs → Hold w0 B w' (.blk g (.cells (encX url (padOf raw)) 70) :: .blk gd (.cells cs2 t) :: L) → DSt w0 B L url raw g gd t m ts cs (si + k) (n + bs.length) w' := fun bs k cs2 w' h1 h2 h3 => DSt.step hmm (by omega) hal hd hW hA h1 h2 h3
            have hnone : decStep url raw (ts.drop si) = none → decAll url raw ts = none := fun h => by
              have hne0 : ts.drop si ≠ [] := by
                intro e0
                have := congrArg List.length e0
                rw [List.length_drop] at this
                simp at this
                omega
              rw [hA, decAll_step _ _ _ hne0, h]
              rfl
            have HQ2 := Aside0.mk hQ
            have HSt := Aside0.mk hstep
            have HNo := Aside0.mk hnone
            clear hd hW hA hH hal hcs hfit hmm hQ hstep hnone
            rcases Nat.eq_zero_or_pos m with hm0 | hm0
            · have hn0 : n = 0 := by omega
              subst hm0
              subst hn0
              rcases Nat.eq_zero_or_pos cap with hc0 | hc0
              · subst hc0
                rcases D with _ | ad
                all_goals
                  go_wp2_with fail
                  refine (HQ2.out 0 _ _ rfl (fun h => absurd h (by omega))).mono ?_
                  cases hds : decStep url raw (ts.drop si) with
                  | none =>
                    have HN0 := Aside0.mk (HNo.out hds)
                    clear hds
                    rintro e w2 ⟨⟨s, k, t', v, rfl⟩, cs2, _, hH2⟩
                    have HH2 := Aside0.mk hH2
                    clear hH2
                    go_wp2
                    go_ret2
                    rw [HN0.out]
                    exact ⟨⟨_, _, _, rfl⟩, cs2, HH2.out⟩
                  | some q =>
                    obtain ⟨bs, k⟩ := q
                    obtain ⟨f1, f0, f2, f3, f4⟩ := decStep_facts hds
                    rw [List.length_drop] at f1
                    rintro e w2 ⟨rfl, cs2, hW2, hH2⟩
                    have HD2 := Aside0.mk (HSt.out bs k cs2 w2 hds hW2 hH2)
                    have hk4 : k ≤ ts.length := by omega
                    obtain ⟨bl, hbl⟩ : ∃ bl, bl = bs.length := ⟨_, rfl⟩
                    obtain ⟨s2, hs2⟩ : ∃ s2, s2 = si + k := ⟨_, rfl⟩
                    simp only []
                    rw [← hbl] at f4 ⊢
                    rw [← hs2]
                    have HB := Aside0.mk (And.intro hbl hs2)
                    have hsl : s2 ≤ 1000000000 := by omega
                    have hdec : ts.length - s2 < ts.length - si := by omega
                    have HDc := Aside0.mk hdec
                    clear hds hW2 hH2 f1 f0 f2 f3 hk4 hbl hs2 hdec
                    go_wp2
                    obtain ⟨e1, e2⟩ := HB.out
                    refine ⟨⟨s2, 0 + bl, ?_, rfl, rfl, ?_⟩, ?_⟩
                    · first | rfl | (rw [Int.natCast_add]; rfl) | (rw [Nat.zero_add])
                    · rw [e1, e2]; exact HD2.out
                    · have := HDc.out; simpa [intOf] using this
              · have hcne : ¬ cap = 0 := by omega
                rcases D with _ | ad
                all_goals
                  go_wp2_with fail
                  refine (HQ2.out 0 _ _ rfl (fun h => absurd h (by omega))).mono ?_
                  cases hds : decStep url raw (ts.drop si) with
                  | none =>
                    have HN0 := Aside0.mk (HNo.out hds)
                    clear hds
                    rintro e w2 ⟨⟨s, k, t', v, rfl⟩, cs2, _, hH2⟩
                    have HH2 := Aside0.mk hH2
                    clear hH2
                    go_wp2
                    go_ret2
                    rw [HN0.out]
                    exact ⟨⟨_, _, _, rfl⟩, cs2, HH2.out⟩
                  | some q =>
                    obtain ⟨bs, k⟩ := q
                    obtain ⟨f1, f0, f2, f3, f4⟩ := decStep_facts hds
                    rw [List.length_drop] at f1
                    rintro e w2 ⟨rfl, cs2, hW2, hH2⟩
                    have HD2 := Aside0.mk (HSt.out bs k cs2 w2 hds hW2 hH2)
                    have hk4 : k ≤ ts.length := by omega
                    obtain ⟨bl, hbl⟩ : ∃ bl, bl = bs.length := ⟨_, rfl⟩
                    obtain ⟨s2, hs2⟩ : ∃ s2, s2 = si + k := ⟨_, rfl⟩
                    simp only []
                    rw [← hbl] at f4 ⊢
                    rw [← hs2]
                    have HB := Aside0.mk (And.intro hbl hs2)
                    have hsl : s2 ≤ 1000000000 := by omega
                    have hdec : ts.length - s2 < ts.length - si := by omega
                    have HDc := Aside0.mk hdec
                    clear hds hW2 hH2 f1 f0 f2 f3 hk4 hbl hs2 hdec
                    go_wp2
                    obtain ⟨e1, e2⟩ := HB.out
                    refine ⟨⟨s2, 0 + bl, ?_, rfl, rfl, ?_⟩, ?_⟩
                    · first | rfl | (rw [Int.natCast_add]; rfl) | (rw [Nat.zero_add])
                    · rw [e1, e2]; exact HD2.out
                    · have := HDc.out; simpa [intOf] using this
            · have hD := HD.out hm0
              subst hD
              rcases Nat.lt_or_ge n cap with hnc | hnc
              · have hcne : ¬ cap = n := by omega
                go_wp2_with fail
                refine (HQ2.out (m - n) _ _ rfl (fun _ => rfl)).mono ?_
                cases hds : decStep url raw (ts.drop si) with
                | none =>
                  have HN0 := Aside0.mk (HNo.out hds)
                  clear hds
                  rintro e w2 ⟨⟨s, k, t', v, rfl⟩, cs2, _, hH2⟩
                  have HH2 := Aside0.mk hH2
                  clear hH2
                  go_wp2
                  go_ret2
                  rw [HN0.out]
                  exact ⟨⟨_, _, _, rfl⟩, cs2, HH2.out⟩
                | some q =>
                  obtain ⟨bs, k⟩ := q
                  obtain ⟨f1, f0, f2, f3, f4⟩ := decStep_facts hds
                  rw [List.length_drop] at f1
                  rintro e w2 ⟨rfl, cs2, hW2, hH2⟩
                  have HD2 := Aside0.mk (HSt.out bs k cs2 w2 hds hW2 hH2)
                  have hk4 : k ≤ ts.length := by omega
                  obtain ⟨bl, hbl⟩ : ∃ bl, bl = bs.length := ⟨_, rfl⟩
                  obtain ⟨s2, hs2⟩ : ∃ s2, s2 = si + k := ⟨_, rfl⟩
                  simp only []
                  rw [← hbl] at f4 ⊢
                  rw [← hs2]
                  have HB := Aside0.mk (And.intro hbl hs2)
                  have hsl : s2 ≤ 1000000000 := by omega
                  have hdec : ts.length - s2 < ts.length - si := by omega
                  have HDc := Aside0.mk hdec
                  clear hds hW2 hH2 f1 f0 f2 f3 hk4 hbl hs2 hdec
                  go_wp2
                  obtain ⟨e1, e2⟩ := HB.out
                  refine ⟨⟨s2, n + bl, ?_, rfl, rfl, ?_⟩, ?_⟩
                  · first | rfl | (rw [Int.natCast_add]; rfl) | (rw [Nat.zero_add])
                  · rw [e1, e2]; exact HD2.out
                  · have := HDc.out; simpa [intOf] using this
              · obtain rfl : n = cap := by omega
                go_wp2_with fail
                refine (HQ2.out 0 _ _ (by omega) (fun h => absurd h (by omega))).mono ?_
                cases hds : decStep url raw (ts.drop si) with
                | none =>
                  have HN0 := Aside0.mk (HNo.out hds)
                  clear hds
                  rintro e w2 ⟨⟨s, k, t', v, rfl⟩, cs2, _, hH2⟩
                  have HH2 := Aside0.mk hH2
                  clear hH2
                  go_wp2
                  go_ret2
                  rw [HN0.out]
                  exact ⟨⟨_, _, _, rfl⟩, cs2, HH2.out⟩
                | some q =>
                  obtain ⟨bs, k⟩ := q
                  obtain ⟨f1, f0, f2, f3, f4⟩ := decStep_facts hds
                  rw [List.length_drop] at f1
                  rintro e w2 ⟨rfl, cs2, hW2, hH2⟩
                  have HD2 := Aside0.mk (HSt.out bs k cs2 w2 hds hW2 hH2)
                  have hk4 : k ≤ ts.length := by omega
                  obtain ⟨bl, hbl⟩ : ∃ bl, bl = bs.length := ⟨_, rfl⟩
                  obtain ⟨s2, hs2⟩ : ∃ s2, s2 = si + k := ⟨_, rfl⟩
                  simp only []
                  rw [← hbl] at f4 ⊢
                  rw [← hs2]
                  have HB := Aside0.mk (And.intro hbl hs2)
                  have hsl : s2 ≤ 1000000000 := by omega
                  have hdec : ts.length - s2 < ts.length - si := by omega
                  have HDc := Aside0.mk hdec
                  clear hds hW2 hH2 f1 f0 f2 f3 hk4 hbl hs2 hdec
                  go_wp2
                  obtain ⟨e1, e2⟩ := HB.out
                  refine ⟨⟨s2, n + bl, ?_, rfl, rfl, ?_⟩, ?_⟩
                  · first | rfl | (rw [Int.natCast_add]; rfl) | (rw [Nat.zero_add])
                  · rw [e1, e2]; exact HD2.out
                  · have := HDc.out; simpa [intOf] using this
          · have hsi : si = ts.length := by omega
            have q1_ : ¬ ((si : Int) < (ts.length : Int)) := by omega
            obtain ⟨done, cs', hd, hW, hA, hH⟩ := HS.out.ex
            have hA2 : decAll url raw ts = some done := by
              rw [hA, hsi, List.drop_length]
              simp [decAll]
            have HE := Aside0.mk (And.intro hA2 (And.intro hd (And.intro hW hH)))
            clear hA hA2 hW hH hd
            go_wp2
            go_ret2
            obtain ⟨hA2, hd, hW, hH⟩ := HE.out
            rw [hA2]
            exact ⟨by rw [← hd] <;> rfl, cs', hW, hH⟩
end Go.Proofs.YtlncbbmmlhammaaDoor
