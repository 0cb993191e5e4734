/-
  spec's headStyle.tree at a node with kids: its contract. Printed by kqgen.py.
-/
import Derived.Test.YtgldcjmdjhghpaaGreatDoorKo
import Derived.Deep.DeepCutAuto
import Derived.Deep.CutBlock
namespace Go.Proofs.YtgldcjmdjhghpaaGreatDoor
open Go.RowKit Go.Proofs.YtgldcjmdjhghpaaGreatDoorW.PrintWords Go.ChangeShapes Go.WideShapes
set_option linter.unusedVariables false
set_option linter.unusedSimpArgs false
set_option maxRecDepth 100000
def tr6X (x0 x1 : Nat) (k : Nat) : Nat := match k with | 0 => x0 | _ => x1
def tr6Val (g : Nat) (sg s0 s1 a32 : ByteArray) (d : Nat) : Value :=
  match d with
  | 28 => .string sg
  | 29 => .string s0
  | 30 => .pointer (some ⟨g, 0, none⟩)
  | 31 => .string s1
  | 32 => .string a32
  | 6 => .string a32
  | _ => undef
def tr6Rd (i : Nat) : List (Nat × Nat) :=
  match i with
  | _ => []
def tr6Dp (i : Nat) : List (Nat × Nat) :=
  match i with
  | 1 => [(0, 28)]
  | 3 => [(2, 30)]
  | 4 => [(1, 29), (3, 31)]
  | 5 => [(4, 32)]
  | _ => []
set_option maxHeartbeats 4000000 in
theorem tree_4 (k : Nat) (HT : Aside0 (TreeCall k)) (w0 w : World) (is mi : Bool) (nu : Int) (tx : ByteArray) (ns : List ByteArray) (ks : List (TrN k)) (A : Option Addr) (c : Nat) (B : Option Addr) (d n g y : Nat)
    (hA : Kd.string.C w0 A ns.length ns) (hB : (kT k).C w0 B ks.length ks) (hO : ∀ x ∈ ks, OkT k x) (hg : TGood (k + 1) (4, is, mi, nu, tx, ns, ks) n) (hl : (trF (k + 1) (4, is, mi, nu, tx, ns, ks) y).1.length ≤ 5000000000) (hb0 : Below w0.heap.size w0 w) (hgw : w0.heap.size ≤ g) (hS : StyAt w g y) (hy : y < 18446744073709551616) :
    Calls Tryz.prog 18 #[.pointer (some ⟨g, 0, none⟩), .agg #[.int .u8 4, .bool is, .bool mi, .int .u64 nu, .string tx, .slice A ns.length c, .slice B ks.length d]] w fun e w' => e = .returned (.string (bStr (trF (k + 1) (4, is, mi, nu, tx, ns, ks) y).1)) ∧ Sty w g (trF (k + 1) (4, is, mi, nu, tx, ns, ks) y).2 w' := by
  have hu := Tryz.underlying26
  obtain ⟨T, hT⟩ : ∃ T, T = trF (k + 1) (4, is, mi, nu, tx, ns, ks) y := ⟨_, rfl⟩
  rw [← hT] at hl ⊢
  obtain ⟨W, hW⟩ : ∃ W, W = w.alloc (.cells #[.int .u8 4, .bool is, .bool mi, .int .u64 nu, .string tx, .slice A ns.length c, .slice B ks.length d] 26) := ⟨_, rfl⟩
  have hBx := BoxT.new w 4 is mi nu tx (.slice A ns.length c) (.slice B ks.length d)
  rw [← hW] at hBx
  have hbW1 := hb0
  have hbW : Below w.heap.size w W := by rw [hW]; exact (Below.refl _ _).alloc (Nat.le_refl _) _
  have hbW0 : Below w0.heap.size w0 W := hb0.trans (hbW.mono hb0.size)
  obtain ⟨b, hb⟩ : ∃ b, b = w.heap.size := ⟨_, rfl⟩
  rw [← hb] at hBx
  have hbg : b ≠ g := by have := blkT_lt hS.ty; omega
  obtain ⟨y1, hy1⟩ : ∃ t, t = (blk y).2 := ⟨_, rfl⟩
  obtain ⟨s1, hs1⟩ : ∃ t, t = bStr (blk y).1 := ⟨_, rfl⟩
  have z1 : s1.size ≤ 65537 := by rw [hs1, bStr_size]; exact blk_len _
  have HC : Aside0 (∀ wc, Sty W g y wc → Calls Tryz.prog 17 #[.pointer (some ⟨g, 0, none⟩)] wc fun e w' => e = .returned (.string s1) ∧ Sty wc g y1 w') := ⟨fun wc h => by
    rw [hs1, hy1]
    exact blank_any wc g y h.1 hy⟩
  have H0 : Aside0 (Sty W g y W.drew) := ⟨(Sty.refl (hS.on hbW)).on (Below.refl _ _).drew⟩
  have HBx := Aside0.mk (And.intro hBx hbg)
  obtain ⟨q0, q1, q2, q3, q4, q5, q6⟩ := hBx
  have HW := Aside0.mk hW
  have Hb := Aside0.mk hb
  obtain ⟨sg, hsg⟩ : ∃ t : ByteArray, t = ⟨#[91, 93]⟩ := ⟨_, rfl⟩
  obtain ⟨s0, hs0⟩ : ∃ t : ByteArray, t = ⟨#[91]⟩ := ⟨_, rfl⟩
  have HSl : Aside0 (sg.extract 0 1 = s0 ∧ sg.size = 2) := ⟨by rw [hsg, hs0]; rfl, by rw [hsg]; rfl⟩
  obtain ⟨a32, c32⟩ : ∃ t, s0 ++ s1 = t := ⟨_, rfl⟩
  have z0 : s0.size ≤ 1 := by rw [hs0]; exact Nat.le_refl 1
  have HEq := Aside0.mk (And.intro hs0 (And.intro hs1 hy1))
  have HSg := Aside0.mk hsg
  have HSr : Aside0 (sg.extract 1 2 = ⟨#[93]⟩ ∧ sg.size = 2) := ⟨by rw [hsg]; rfl, by rw [hsg]; rfl⟩
  have HBW := Aside0.mk hbW
  have hks : ks.length ≤ 9223372036854775807 := hB.2.1
  have HStart : Aside0 (∀ wz, Sty W g y1 wz → SeqRel (kidF (trF k)) ks 93 T W g (.string a32) (.int .i64 0) wz) := ⟨fun wz hS => ⟨0, y1, 91 :: (blk y).1, rfl, Nat.zero_le _, by
      rw [← c32, hs0, hs1]
      show Value.string (bStr [91] ++ _) = _
      rw [bStr_app]
      rfl, by
      rw [hT, hy1]
      rfl, by
      rw [hT, hy1]
      rfl, by rw [hy1]; exact blk_lt _ hy, hS⟩⟩
  clear hW hb hsg hs0 hs1 hy1
  go_enter Tryz.func18, Tryz.ntmps18
  go_upto_region 6 with (fail)
  rw [← HW.out, ← Hb.out, ← HSg.out]
  clear q0 q1 q2 q3 q4 q5 q6
  go_cut [6] from 28 to 32 (fun x6 wx => x6 = .string a32 ∧ Sty W g y1 wx)
  case first =>
    rename_i J K1 hJ hK1
    refine wp_region_any (by kernel_rfl) ?_
    change wpAny _ _ _ _ _ _ _ (World.drew _)
    refine region_chain _ _ [28, 29, 30, 31, 32, 6] (tr6Val g sg s0 s1 a32) tr6Dp tr6Rd [3] (fun k wx => Sty W g (tr6X y y1 k) wx) (by kernel_rfl) (by kernel_rfl) (by kernel_rfl) (by kernel_rfl) ?_ ?_ ?_
    case' refine_1 => exact H0.out
    refine StepsC.quiet (by decide) (fun k a wc hI hc hp hr K hK => ?_) ?_
    · -- slot 28
      have q5 : a.tmps[5]?.getD undef = .string sg := ev_get (hc 5 (by decide))
      have HI := Aside0.mk hI
      clear hp hc hr hI
      go_simp
      exact hK _ HI.out
    refine StepsC.quiet (by decide) (fun k a wc hI hc hp hr K hK => ?_) ?_
    · -- slot 29
      have q28 : a.tmps[28]?.getD undef = .string sg := ev_get (hp (0, 28) (by simp [tr6Dp]))
      have HI := Aside0.mk hI
      clear hp hc hr hI
      obtain ⟨hsl, hsz⟩ := HSl.out
      go_simp
      exact hK _ HI.out
    refine StepsC.quiet (by decide) (fun k a wc hI hc hp hr K hK => ?_) ?_
    · -- slot 30
      have q0 : a.tmps[0]?.getD undef = .pointer (some ⟨g, 0, none⟩) := ev_get (hc 0 (by decide))
      have HI := Aside0.mk hI
      clear hp hc hr hI
      go_simp
      exact hK _ HI.out
    refine StepsC.call 0 rfl (fun a wc hI hc hp hr K hK => ?_) ?_
    · -- slot 31
      have q30 : a.tmps[30]?.getD undef = .pointer (some ⟨g, 0, none⟩) := ev_get (hp (2, 30) (by simp [tr6Dp]))
      have HI := Aside0.mk hI
      clear hp hc hr hI
      go_simp
      refine (HC.out _ HI.out).mono ?_
      rintro e w2 ⟨rfl, hS⟩
      exact hK _ (HI.out.trans hS)
    refine StepsC.quiet (by decide) (fun k a wc hI hc hp hr K hK => ?_) ?_
    · -- slot 32
      have q29 : a.tmps[29]?.getD undef = .string s0 := ev_get (hp (1, 29) (by simp [tr6Dp]))
      have q31 : a.tmps[31]?.getD undef = .string s1 := ev_get (hp (3, 31) (by simp [tr6Dp]))
      have HI := Aside0.mk hI
      clear hp hc hr hI
      have hz : (9223372036854775807 < s0.size + s1.size) = False := eq_false (by omega)
      go_simp
      exact hK _ HI.out
    refine StepsC.quiet (by decide) (fun k a wc hI hc hp hr K hK => ?_) ?_
    · -- slot 6
      have q32 : a.tmps[32]?.getD undef = .string a32 := ev_get (hp (4, 32) (by simp [tr6Dp]))
      have HI := Aside0.mk hI
      clear hp hc hr hI
      go_simp
      exact hK _ HI.out
    exact StepsC.nil _
    · intro wz hI
      exact hK1 _ _ (Met.intro (hJ _ _ ⟨(.string a32), (.string sg), (.string s0), (.pointer (some ⟨g, 0, none⟩)), (.string s1), (.string a32), ⟨rfl, hI⟩, by kernel_rfl⟩))
  case rest =>
    obtain ⟨rfl, hSx⟩ := hcut
    have HSt := Aside0.mk hSx
    clear hSx
    obtain ⟨k0, k1, k2, k3, k4, k5, k6⟩ := HBx.out.1.sty HSt.out HBx.out.2
    go_upto_region 8 with (fail)
    clear k0 k1 k2 k3 k4 k5 k6
    go_loopw [6, 36] (fun s6 s36 wr => SeqRel (kidF (trF k)) ks 93 T W g s6 s36 wr) (fun _ s36 _ => ks.length - (intOf s36).toNat)
    case atStart => exact HStart.out _ HSt.out
    case round =>
      obtain ⟨i, y, acc, rfl, hi, rfl, h1, h2, hy, hS⟩ := hrel.out
      clear hrel
      have hbw : Below w0.heap.size w0 wr := hS.below hbW0 hgw
      have hal : acc.length ≤ 5000000000 := by have := congrArg List.length h1; simp only [List.length_append] at this; omega
      obtain ⟨tt, htt⟩ : ∃ t, t = bStr acc := ⟨_, rfl⟩
      have hts : tt.size ≤ 5000000000 := by rw [htt, bStr_size]; exact hal
      have HRd := Aside0.mk (And.intro hS (And.intro hy hbw))
      by_cases hlt : i < ks.length
      · obtain ⟨ad, A9, c9, B9, m9, d9, hB9, hf0⟩ := KidIs.get hB i hlt
        cases hB9
        have HNew := Aside0.mk (fun (wz : World) (hz : Sty W g (kidF (trF k) ks[i] (cmF i y).2).2 wz) (v : Value) (hv : v = .string (bStr (acc ++ ((cmF i y).1 ++ (kidF (trF k) ks[i] (cmF i y).2).1)))) => SeqRel.step hlt h1 h2 (kidF_lt (trF_lt k) _ _ (cmF_lt i y hy)) hz hv)
        have hln : (kidF (trF k) ks[i] (cmF i y).2).1.length ≤ 5000000000 := SeqRel.len hlt h1 hl
        obtain ⟨f, hff⟩ : ∃ f, f = ks[i] := ⟨_, rfl⟩
        have hfO : OkT k f := by rw [hff]; exact hO _ (List.getElem_mem hlt)
        have hfG : ∃ n', TGood k f n' := by
          obtain ⟨_, _, _, _, _, g4⟩ := hg
          obtain ⟨l4, e4, e5, _⟩ := g4 (show (4 : Int) ≤ 4 by decide)
          have hil : i < l4.length := by rw [e4]; exact hlt
          exact ⟨_, by rw [hff]; exact e5 i _ _ (List.getElem?_eq_getElem hlt) (List.getElem?_eq_getElem hil)⟩
        obtain ⟨n', hfG⟩ := hfG
        rw [← hff] at HNew hln hf0
        have hf := hf0.on hbw
        have HF0 := Aside0.mk hf0.at_
        obtain ⟨_, e0, e1, e2, e3, e4, e5, e6⟩ := hf
        obtain ⟨yc, hyc⟩ : ∃ t, t = (cmF i y).2 := ⟨_, rfl⟩
        obtain ⟨cc, hcc⟩ : ∃ t, t = (cmF i y).1 := ⟨_, rfl⟩
        have hycl : yc < 18446744073709551616 := by rw [hyc]; exact cmF_lt i y hy
        have hccl : cc.length ≤ 65538 := by rw [hcc]; exact cmF_len i y
        rw [← hyc, ← hcc] at HNew
        rw [← hyc] at hln
        obtain ⟨t6, ht6⟩ : ∃ t, t = tt ++ bStr cc := ⟨_, rfl⟩
        have ht6s : t6.size ≤ 5000100000 := by rw [ht6, ByteArray.size_append, bStr_size]; omega
        have HCm : Aside0 ((i = 0 → cc = [] ∧ yc = y) ∧ (i ≠ 0 → cc = 44 :: (blk y).1 ∧ yc = (blk y).2)) := ⟨by
          unfold cmF at hcc hyc
          exact ⟨fun h0 => by rw [if_pos h0] at hcc hyc; exact ⟨hcc, hyc⟩, fun h0 => by rw [if_neg h0] at hcc hyc; exact ⟨hcc, hyc⟩⟩⟩
        have HTT := Aside0.mk (And.intro ht6 htt)
        obtain ⟨b9, hb9⟩ : ∃ b, b = wr.heap.size := ⟨_, rfl⟩
        obtain ⟨Wk, hWk⟩ : ∃ Wk, Wk = wr.alloc (.cells (trCells f A9 c9 B9 m9 d9) 26) := ⟨_, rfl⟩
        have hbk : Below wr.heap.size wr Wk := by rw [hWk]; exact (Below.refl _ _).alloc (Nat.le_refl _) _
        have HSk : Aside0 (Sty W g y Wk) := ⟨hS.on hbk⟩
        have HSk2 : Aside0 (Sty Wk g y Wk) := ⟨Sty.refl HSk.out.1⟩
        have hbwk : Below w0.heap.size w0 Wk := hbw.trans (hbk.mono hbw.size)
        have h9g : b9 ≠ g := by have := blkT_lt hS.1.ty; omega
        obtain ⟨fk, fi, fm, fu, ft, fn, fl⟩ := f
        replace hWk : Wk = wr.alloc (.cells #[.int .u8 fk, .bool fi, .bool fm, .int .u64 fu, .string ft, .slice A9 fn.length c9, .slice B9 m9 d9] 26) := hWk
        have HBk : Aside0 (BoxT Wk b9 fk fi fm fu ft (.slice A9 fn.length c9) (.slice B9 m9 d9) ∧ b9 ≠ g) := ⟨by rw [hWk, hb9]; exact BoxT.new wr _ _ _ _ _ _ _, h9g⟩
        have HWk := Aside0.mk (And.intro hWk hb9)
        have HFO := Aside0.mk (And.intro hfO hfG)
        have hlt2 : i + 1 ≤ ks.length := hlt
        have hlk : (trF k (fk, fi, fm, fu, ft, fn, fl) yc).1.length ≤ 5000000000 := by
          unfold kidF at hln
          simp only [List.length_append] at hln
          omega
        obtain ⟨yk, hyk⟩ : ∃ t, t = (trF k (fk, fi, fm, fu, ft, fn, fl) yc).2 := ⟨_, rfl⟩
        obtain ⟨s70, hs70⟩ : ∃ t, t = bStr (trF k (fk, fi, fm, fu, ft, fn, fl) yc).1 := ⟨_, rfl⟩
        obtain ⟨y72, hy72⟩ : ∃ t, t = (blk yk).2 := ⟨_, rfl⟩
        obtain ⟨s72, hs72⟩ : ∃ t, t = bStr (blk yk).1 := ⟨_, rfl⟩
        have z70 : s70.size ≤ 5000000000 := by rw [hs70, bStr_size]; exact hlk
        have z72 : s72.size ≤ 65537 := by rw [hs72, bStr_size]; exact blk_len _
        have hykl : yk < 18446744073709551616 := by rw [hyk]; exact trF_lt k _ _ hycl
        obtain ⟨a73, c73⟩ : ∃ t, s70 ++ s72 = t := ⟨_, rfl⟩
        obtain ⟨a74, c74⟩ : ∃ t, t6 ++ a73 = t := ⟨_, rfl⟩
        have z73 : a73.size ≤ 5000100000 := by rw [← c73, ByteArray.size_append]; omega
        have HC14 : Aside0 ((∀ wc, Sty Wk g yc wc → Calls Tryz.prog 18 #[.pointer (some ⟨g, 0, none⟩), .agg #[.int .u8 fk, .bool fi, .bool fm, .int .u64 fu, .string ft, .slice A9 fn.length c9, .slice B9 m9 d9]] wc fun e w' => e = .returned (.string s70) ∧ Sty wc g yk w') ∧ ∀ wc, Sty Wk g yk wc → Calls Tryz.prog 17 #[.pointer (some ⟨g, 0, none⟩)] wc fun e w' => e = .returned (.string s72) ∧ Sty wc g y72 w') := ⟨fun wc h => by
          rw [hs70, hyk]
          exact HT.out.out w0 wc _ A9 c9 B9 m9 d9 n' g yc hf0.at_ hfO hfG hlk (h.below hbwk hgw) hgw h.1 hycl, fun wc h => by
          rw [hs72, hy72]
          exact blank_any wc g yk h.1 hykl⟩
        have HNw : Aside0 (∀ wz, Sty Wk g y72 wz → SeqRel (kidF (trF k)) ks 93 T W g (.string a74) (.int .i64 ((i + 1 : Nat) : Int)) wz) := ⟨fun wz h => HNew.out wz (by
          rw [hy72, hyk] at h; exact HSk.out.trans h) (.string a74) (by
          rw [← c74, ← c73, ht6, htt, hs70, hs72, hyk]; unfold kidF; simp only [bStr_app, List.append_assoc])⟩
        rw [← htt]
        clear h1 h2 hyc hcc htt ht6 hWk hb9 hbk h9g hfO hfG hff hf0 hS hbw hal hbwk hln  hyk hs70 hy72 hs72 hykl hlk HNew
        go_upto_block 1 with (fail)
        go_cut [6] from 41 to 74 (fun x6 wx => x6 = .string a74 ∧ Sty Wk g y72 wx)
        case first =>
         rename_i J9 K9 hJ9 hK9
         go_upto_if 42 with (fail)
         rw [← HWk.out.1, ← HWk.out.2]
         go_cut [6] from 41 to 47 (fun x6 wx => x6 = .string t6 ∧ Sty Wk g yc wx)
         case first =>
          by_cases h0 : i = 0
          · subst h0
            obtain ⟨rfl, rfl⟩ := HCm.out.1 rfl
            have hTT : t6 = tt := by rw [HTT.out.1]; exact ByteArray.append_empty
            have HE := HSk2
            go_wp2
            go_meet
            exact ⟨by rw [hTT], HE.out⟩
          · obtain ⟨rfl, rfl⟩ := HCm.out.2 h0
            have hi0 : 0 < i := by omega
            have HB4 := Aside0.mk (blank_any _ _ _ HSk.out.1 HRd.out.2.1)
            obtain ⟨sc, hsc⟩ : ∃ t, t = bStr (blk y).1 := ⟨_, rfl⟩
            have zc : sc.size ≤ 65537 := by rw [hsc, bStr_size]; exact blk_len _
            have hsz2 : ((⟨#[44]⟩ : ByteArray) ++ sc).size ≤ 65538 := by rw [ByteArray.size_append]; show 1 + _ ≤ _; omega
            have hTT : Aside0 (t6 = tt ++ ((⟨#[44]⟩ : ByteArray) ++ sc)) := ⟨by rw [HTT.out.1, hsc]; show _ = tt ++ (bStr [44] ++ _); rw [bStr_app]; rfl⟩
            rw [← hsc] at HB4
            clear hsc h0
            go_wp2_with fail
            refine HB4.out.mono ?_
            rintro e w2 ⟨rfl, hS2⟩
            have HW2 := Aside0.mk hS2
            clear hS2
            go_wp2
            go_meet
            exact ⟨by rw [hTT.out], HW2.out⟩
         case rest =>
          obtain ⟨rfl, hSx⟩ := hcut
          have HS6 := Aside0.mk hSx
          clear hSx
          obtain ⟨k0, k1, k2, k3, k4, k5, k6⟩ := HBx.out.1.sty (HSk.out.trans HS6.out) HBx.out.2
          obtain ⟨j0, j1, j2, j3, j4, j5, j6⟩ := HBk.out.1.sty HS6.out HBk.out.2
          go_wp2_with fail
          refine (HC14.out.1 _ HS6.out).mono ?_
          rintro e w7 ⟨rfl, hS7⟩
          have HS7 := Aside0.mk (HS6.out.trans hS7)
          clear hS7
          go_wp2_with fail
          refine (HC14.out.2 _ HS7.out).mono ?_
          rintro e w8 ⟨rfl, hS8⟩
          have HS8 := Aside0.mk (HS7.out.trans hS8)
          clear hS8
          go_wp2
          go_meet
          exact ⟨rfl, HS8.out⟩
        case rest =>
          obtain ⟨rfl, hS7⟩ := hcut
          have HZ := Aside0.mk (HNw.out _ hS7)
          clear hS7
          go_wp2
          go_roundw
          case rel => exact HZ.out
          case measure => simp [intOf]; omega
      · obtain rfl : i = ks.length := by omega
        rw [List.drop_of_length_le (by omega), seqF_nil] at h1 h2
        have HR : Aside0 (bStr acc ++ (⟨#[93]⟩ : ByteArray) = bStr T.1 ∧ Sty W g T.2 wr) := ⟨by
          rw [← h1]
          show _ ++ bStr [93] = _
          rw [bStr_app]
          rfl, by rw [← h2]; exact hS⟩
        rw [← htt] at HR ⊢
        clear h1 h2 hy hS hbw htt hal
        obtain ⟨hsl, hsz⟩ := HSr.out
        go_wp2
        go_ret
        exact ⟨by rw [← HR.out.1]; rfl, Sty.pre HBW.out HR.out.2⟩
set_option maxHeartbeats 4000000 in
theorem tree_5 (k : Nat) (HT : Aside0 (TreeCall k)) (w0 w : World) (is mi : Bool) (nu : Int) (tx : ByteArray) (ns : List ByteArray) (ks : List (TrN k)) (A : Option Addr) (c : Nat) (B : Option Addr) (d n g y : Nat)
    (hA : Kd.string.C w0 A ns.length ns) (hB : (kT k).C w0 B ks.length ks) (hO : ∀ x ∈ ks, OkT k x) (hg : TGood (k + 1) (5, is, mi, nu, tx, ns, ks) n) (hl : (trF (k + 1) (5, is, mi, nu, tx, ns, ks) y).1.length ≤ 5000000000) (hb0 : Below w0.heap.size w0 w) (hgw : w0.heap.size ≤ g) (hS : StyAt w g y) (hy : y < 18446744073709551616) :
    Calls Tryz.prog 18 #[.pointer (some ⟨g, 0, none⟩), .agg #[.int .u8 5, .bool is, .bool mi, .int .u64 nu, .string tx, .slice A ns.length c, .slice B ks.length d]] w fun e w' => e = .returned (.string (bStr (trF (k + 1) (5, is, mi, nu, tx, ns, ks) y).1)) ∧ Sty w g (trF (k + 1) (5, is, mi, nu, tx, ns, ks) y).2 w' := by
  have hu := Tryz.underlying26
  obtain ⟨T, hT⟩ : ∃ T, T = trF (k + 1) (5, is, mi, nu, tx, ns, ks) y := ⟨_, rfl⟩
  rw [← hT] at hl ⊢
  obtain ⟨W, hW⟩ : ∃ W, W = w.alloc (.cells #[.int .u8 5, .bool is, .bool mi, .int .u64 nu, .string tx, .slice A ns.length c, .slice B ks.length d] 26) := ⟨_, rfl⟩
  have hBx := BoxT.new w 5 is mi nu tx (.slice A ns.length c) (.slice B ks.length d)
  rw [← hW] at hBx
  have hbW1 := hb0
  have hbW : Below w.heap.size w W := by rw [hW]; exact (Below.refl _ _).alloc (Nat.le_refl _) _
  have hbW0 : Below w0.heap.size w0 W := hb0.trans (hbW.mono hb0.size)
  obtain ⟨b, hb⟩ : ∃ b, b = w.heap.size := ⟨_, rfl⟩
  rw [← hb] at hBx
  have hbg : b ≠ g := by have := blkT_lt hS.ty; omega
  obtain ⟨y1, hy1⟩ : ∃ t, t = (blk y).2 := ⟨_, rfl⟩
  obtain ⟨s1, hs1⟩ : ∃ t, t = bStr (blk y).1 := ⟨_, rfl⟩
  have z1 : s1.size ≤ 65537 := by rw [hs1, bStr_size]; exact blk_len _
  have HC : Aside0 (∀ wc, Sty W g y wc → Calls Tryz.prog 17 #[.pointer (some ⟨g, 0, none⟩)] wc fun e w' => e = .returned (.string s1) ∧ Sty wc g y1 w') := ⟨fun wc h => by
    rw [hs1, hy1]
    exact blank_any wc g y h.1 hy⟩
  have H0 : Aside0 (Sty W g y W.drew) := ⟨(Sty.refl (hS.on hbW)).on (Below.refl _ _).drew⟩
  have HBx := Aside0.mk (And.intro hBx hbg)
  obtain ⟨q0, q1, q2, q3, q4, q5, q6⟩ := hBx
  have HW := Aside0.mk hW
  have Hb := Aside0.mk hb
  obtain ⟨sg, hsg⟩ : ∃ t : ByteArray, t = ⟨#[123, 125]⟩ := ⟨_, rfl⟩
  obtain ⟨s0, hs0⟩ : ∃ t : ByteArray, t = ⟨#[123]⟩ := ⟨_, rfl⟩
  have HSl : Aside0 (sg.extract 0 1 = s0 ∧ sg.size = 2) := ⟨by rw [hsg, hs0]; rfl, by rw [hsg]; rfl⟩
  obtain ⟨a32, c32⟩ : ∃ t, s0 ++ s1 = t := ⟨_, rfl⟩
  have z0 : s0.size ≤ 1 := by rw [hs0]; exact Nat.le_refl 1
  have HEq := Aside0.mk (And.intro hs0 (And.intro hs1 hy1))
  have HSg := Aside0.mk hsg
  have HSr : Aside0 (sg.extract 1 2 = ⟨#[125]⟩ ∧ sg.size = 2) := ⟨by rw [hsg]; rfl, by rw [hsg]; rfl⟩
  have HBW := Aside0.mk hbW
  have hks : ks.length ≤ 9223372036854775807 := hB.2.1
  have HStart : Aside0 (∀ wz, Sty W g y1 wz → SeqRel (memF (trF k)) (ns.zip ks) 125 T W g (.string a32) (.int .i64 0) wz) := ⟨fun wz hS => ⟨0, y1, 123 :: (blk y).1, rfl, Nat.zero_le _, by
      rw [← c32, hs0, hs1]
      show Value.string (bStr [123] ++ _) = _
      rw [bStr_app]
      rfl, by
      rw [hT, hy1]
      rfl, by
      rw [hT, hy1]
      rfl, by rw [hy1]; exact blk_lt _ hy, hS⟩⟩
  have HGn : Aside0 (ns.length = ks.length ∧ ∀ s ∈ ns, TOk s) := ⟨(hg.2.2.1 rfl).2, (hg.2.2.1 rfl).1⟩
  clear hW hb hsg hs0 hs1 hy1
  go_enter Tryz.func18, Tryz.ntmps18
  go_upto_region 6 with (fail)
  rw [← HW.out, ← Hb.out, ← HSg.out]
  clear q0 q1 q2 q3 q4 q5 q6
  go_cut [6] from 28 to 32 (fun x6 wx => x6 = .string a32 ∧ Sty W g y1 wx)
  case first =>
    rename_i J K1 hJ hK1
    refine wp_region_any (by kernel_rfl) ?_
    change wpAny _ _ _ _ _ _ _ (World.drew _)
    refine region_chain _ _ [28, 29, 30, 31, 32, 6] (tr6Val g sg s0 s1 a32) tr6Dp tr6Rd [3] (fun k wx => Sty W g (tr6X y y1 k) wx) (by kernel_rfl) (by kernel_rfl) (by kernel_rfl) (by kernel_rfl) ?_ ?_ ?_
    case' refine_1 => exact H0.out
    refine StepsC.quiet (by decide) (fun k a wc hI hc hp hr K hK => ?_) ?_
    · -- slot 28
      have q5 : a.tmps[5]?.getD undef = .string sg := ev_get (hc 5 (by decide))
      have HI := Aside0.mk hI
      clear hp hc hr hI
      go_simp
      exact hK _ HI.out
    refine StepsC.quiet (by decide) (fun k a wc hI hc hp hr K hK => ?_) ?_
    · -- slot 29
      have q28 : a.tmps[28]?.getD undef = .string sg := ev_get (hp (0, 28) (by simp [tr6Dp]))
      have HI := Aside0.mk hI
      clear hp hc hr hI
      obtain ⟨hsl, hsz⟩ := HSl.out
      go_simp
      exact hK _ HI.out
    refine StepsC.quiet (by decide) (fun k a wc hI hc hp hr K hK => ?_) ?_
    · -- slot 30
      have q0 : a.tmps[0]?.getD undef = .pointer (some ⟨g, 0, none⟩) := ev_get (hc 0 (by decide))
      have HI := Aside0.mk hI
      clear hp hc hr hI
      go_simp
      exact hK _ HI.out
    refine StepsC.call 0 rfl (fun a wc hI hc hp hr K hK => ?_) ?_
    · -- slot 31
      have q30 : a.tmps[30]?.getD undef = .pointer (some ⟨g, 0, none⟩) := ev_get (hp (2, 30) (by simp [tr6Dp]))
      have HI := Aside0.mk hI
      clear hp hc hr hI
      go_simp
      refine (HC.out _ HI.out).mono ?_
      rintro e w2 ⟨rfl, hS⟩
      exact hK _ (HI.out.trans hS)
    refine StepsC.quiet (by decide) (fun k a wc hI hc hp hr K hK => ?_) ?_
    · -- slot 32
      have q29 : a.tmps[29]?.getD undef = .string s0 := ev_get (hp (1, 29) (by simp [tr6Dp]))
      have q31 : a.tmps[31]?.getD undef = .string s1 := ev_get (hp (3, 31) (by simp [tr6Dp]))
      have HI := Aside0.mk hI
      clear hp hc hr hI
      have hz : (9223372036854775807 < s0.size + s1.size) = False := eq_false (by omega)
      go_simp
      exact hK _ HI.out
    refine StepsC.quiet (by decide) (fun k a wc hI hc hp hr K hK => ?_) ?_
    · -- slot 6
      have q32 : a.tmps[32]?.getD undef = .string a32 := ev_get (hp (4, 32) (by simp [tr6Dp]))
      have HI := Aside0.mk hI
      clear hp hc hr hI
      go_simp
      exact hK _ HI.out
    exact StepsC.nil _
    · intro wz hI
      exact hK1 _ _ (Met.intro (hJ _ _ ⟨(.string a32), (.string sg), (.string s0), (.pointer (some ⟨g, 0, none⟩)), (.string s1), (.string a32), ⟨rfl, hI⟩, by kernel_rfl⟩))
  case rest =>
    obtain ⟨rfl, hSx⟩ := hcut
    have HSt := Aside0.mk hSx
    clear hSx
    obtain ⟨k0, k1, k2, k3, k4, k5, k6⟩ := HBx.out.1.sty HSt.out HBx.out.2
    go_upto_region 8 with (fail)
    clear k0 k1 k2 k3 k4 k5 k6
    go_loopw [6, 36] (fun s6 s36 wr => SeqRel (memF (trF k)) (ns.zip ks) 125 T W g s6 s36 wr) (fun _ s36 _ => ks.length - (intOf s36).toNat)
    case atStart => exact HStart.out _ HSt.out
    case round =>
      obtain ⟨i, y, acc, rfl, hi, rfl, h1, h2, hy, hS⟩ := hrel.out
      clear hrel
      have hbw : Below w0.heap.size w0 wr := hS.below hbW0 hgw
      have hal : acc.length ≤ 5000000000 := by have := congrArg List.length h1; simp only [List.length_append] at this; omega
      obtain ⟨tt, htt⟩ : ∃ t, t = bStr acc := ⟨_, rfl⟩
      have hts : tt.size ≤ 5000000000 := by rw [htt, bStr_size]; exact hal
      have HRd := Aside0.mk (And.intro hS (And.intro hy hbw))
      rw [List.length_zip, HGn.out.1, Nat.min_self] at hi
      by_cases hlt : i < ks.length
      · obtain ⟨ad, A9, c9, B9, m9, d9, hB9, hf0⟩ := KidIs.get hB i hlt
        cases hB9
        have hzl : i < (ns.zip ks).length := by rw [List.length_zip, HGn.out.1, Nat.min_self]; exact hlt
        have hin : i < ns.length := by rw [HGn.out.1]; exact hlt
        have hze : (ns.zip ks)[i] = (ns[i], ks[i]) := List.getElem_zip
        have HNew := Aside0.mk (fun (wz : World) (hz : Sty W g (memF (trF k) (ns[i], ks[i]) (cmF i y).2).2 wz) (v : Value) (hv : v = .string (bStr (acc ++ ((cmF i y).1 ++ (memF (trF k) (ns[i], ks[i]) (cmF i y).2).1)))) => SeqRel.step (v := v) hzl h1 h2 (memF_lt (trF_lt k) _ _ (cmF_lt i y hy)) (by rw [hze]; exact hz) (by rw [hze]; exact hv))
        have hln : (memF (trF k) (ns[i], ks[i]) (cmF i y).2).1.length ≤ 5000000000 := by have := SeqRel.len hzl h1 hl; rw [hze] at this; exact this
        obtain ⟨nm, hnm⟩ : ∃ t, t = ns[i] := ⟨_, rfl⟩
        have hnO : TOk nm := by rw [hnm]; exact HGn.out.2 _ (List.getElem_mem hin)
        obtain ⟨a1, rfl, ec⟩ := C1_get hA i hin
        rw [← hnm] at HNew hln ec
        clear hnm hze hzl
        obtain ⟨f, hff⟩ : ∃ f, f = ks[i] := ⟨_, rfl⟩
        have hfO : OkT k f := by rw [hff]; exact hO _ (List.getElem_mem hlt)
        have hfG : ∃ n', TGood k f n' := by
          obtain ⟨_, _, _, _, _, g4⟩ := hg
          obtain ⟨l4, e4, e5, _⟩ := g4 (show (4 : Int) ≤ 5 by decide)
          have hil : i < l4.length := by rw [e4]; exact hlt
          exact ⟨_, by rw [hff]; exact e5 i _ _ (List.getElem?_eq_getElem hlt) (List.getElem?_eq_getElem hil)⟩
        obtain ⟨n', hfG⟩ := hfG
        rw [← hff] at HNew hln hf0
        have hf := hf0.on hbw
        have HF0 := Aside0.mk hf0.at_
        obtain ⟨_, e0, e1, e2, e3, e4, e5, e6⟩ := hf
        obtain ⟨yc, hyc⟩ : ∃ t, t = (cmF i y).2 := ⟨_, rfl⟩
        obtain ⟨cc, hcc⟩ : ∃ t, t = (cmF i y).1 := ⟨_, rfl⟩
        have hycl : yc < 18446744073709551616 := by rw [hyc]; exact cmF_lt i y hy
        have hccl : cc.length ≤ 65538 := by rw [hcc]; exact cmF_len i y
        rw [← hyc, ← hcc] at HNew
        rw [← hyc] at hln
        obtain ⟨t6, ht6⟩ : ∃ t, t = tt ++ bStr cc := ⟨_, rfl⟩
        have ht6s : t6.size ≤ 5000100000 := by rw [ht6, ByteArray.size_append, bStr_size]; omega
        have HCm : Aside0 ((i = 0 → cc = [] ∧ yc = y) ∧ (i ≠ 0 → cc = 44 :: (blk y).1 ∧ yc = (blk y).2)) := ⟨by
          unfold cmF at hcc hyc
          exact ⟨fun h0 => by rw [if_pos h0] at hcc hyc; exact ⟨hcc, hyc⟩, fun h0 => by rw [if_neg h0] at hcc hyc; exact ⟨hcc, hyc⟩⟩⟩
        have HTT := Aside0.mk (And.intro ht6 htt)
        obtain ⟨b9, hb9⟩ : ∃ b, b = wr.heap.size := ⟨_, rfl⟩
        obtain ⟨Wk, hWk⟩ : ∃ Wk, Wk = wr.alloc (.cells (trCells f A9 c9 B9 m9 d9) 26) := ⟨_, rfl⟩
        have hbk : Below wr.heap.size wr Wk := by rw [hWk]; exact (Below.refl _ _).alloc (Nat.le_refl _) _
        have HSk : Aside0 (Sty W g y Wk) := ⟨hS.on hbk⟩
        have HSk2 : Aside0 (Sty Wk g y Wk) := ⟨Sty.refl HSk.out.1⟩
        have hbwk : Below w0.heap.size w0 Wk := hbw.trans (hbk.mono hbw.size)
        have h9g : b9 ≠ g := by have := blkT_lt hS.1.ty; omega
        obtain ⟨fk, fi, fm, fu, ft, fn, fl⟩ := f
        replace hWk : Wk = wr.alloc (.cells #[.int .u8 fk, .bool fi, .bool fm, .int .u64 fu, .string ft, .slice A9 fn.length c9, .slice B9 m9 d9] 26) := hWk
        have HBk : Aside0 (BoxT Wk b9 fk fi fm fu ft (.slice A9 fn.length c9) (.slice B9 m9 d9) ∧ b9 ≠ g) := ⟨by rw [hWk, hb9]; exact BoxT.new wr _ _ _ _ _ _ _, h9g⟩
        have HWk := Aside0.mk (And.intro hWk hb9)
        have HFO := Aside0.mk (And.intro hfO hfG)
        have hlt2 : i + 1 ≤ ks.length := hlt
        obtain ⟨y58, hy58⟩ : ∃ t, t = (quoF nm yc).2 := ⟨_, rfl⟩
        obtain ⟨s58, hs58⟩ : ∃ t, t = bStr (quoF nm yc).1 := ⟨_, rfl⟩
        obtain ⟨y60, hy60⟩ : ∃ t, t = (blk y58).2 := ⟨_, rfl⟩
        obtain ⟨s60, hs60⟩ : ∃ t, t = bStr (blk y58).1 := ⟨_, rfl⟩
        obtain ⟨yp, hyp⟩ : ∃ t, t = (blk y60).2 := ⟨_, rfl⟩
        obtain ⟨s64, hs64⟩ : ∃ t, t = bStr (blk y60).1 := ⟨_, rfl⟩
        have hlk : (trF k (fk, fi, fm, fu, ft, fn, fl) yp).1.length ≤ 5000000000 := by
          rw [hyp, hy60, hy58]
          unfold memF kidF at hln
          simp only [List.length_append, List.length_cons] at hln
          omega
        have l58 : y58 < 18446744073709551616 := by rw [hy58]; exact quoF_lt _ _ hycl
        have l60 : y60 < 18446744073709551616 := by rw [hy60]; exact blk_lt _ l58
        have hypl : yp < 18446744073709551616 := by rw [hyp]; exact blk_lt _ l60
        have z58 : s58.size ≤ 2402 := by rw [hs58, bStr_size]; exact quoF_len hnO _
        have z60 : s60.size ≤ 65537 := by rw [hs60, bStr_size]; exact blk_len _
        have z64 : s64.size ≤ 65537 := by rw [hs64, bStr_size]; exact blk_len _
        obtain ⟨a61, c61⟩ : ∃ t, s58 ++ s60 = t := ⟨_, rfl⟩
        obtain ⟨a62, c62⟩ : ∃ t, a61 ++ (⟨#[58]⟩ : ByteArray) = t := ⟨_, rfl⟩
        obtain ⟨a65, c65⟩ : ∃ t, a62 ++ s64 = t := ⟨_, rfl⟩
        obtain ⟨t66, c66⟩ : ∃ t, t6 ++ a65 = t := ⟨_, rfl⟩
        have z61 : a61.size ≤ 70000 := by rw [← c61, ByteArray.size_append]; omega
        have z62 : a62.size ≤ 70001 := by rw [← c62, ByteArray.size_append]; show _ + 1 ≤ _; omega
        have z65 : a65.size ≤ 140000 := by rw [← c65, ByteArray.size_append]; omega
        have z66 : t66.size ≤ 5000300000 := by rw [← c66, ByteArray.size_append]; omega
        have HC13 : Aside0 ((∀ wc, Sty Wk g yc wc → Calls Tryz.prog 30 #[.pointer (some ⟨g, 0, none⟩), .string nm] wc fun e w' => e = .returned (.string s58) ∧ Sty wc g y58 w') ∧
            (∀ wc, Sty Wk g y58 wc → Calls Tryz.prog 17 #[.pointer (some ⟨g, 0, none⟩)] wc fun e w' => e = .returned (.string s60) ∧ Sty wc g y60 w') ∧
            ∀ wc, Sty Wk g y60 wc → Calls Tryz.prog 17 #[.pointer (some ⟨g, 0, none⟩)] wc fun e w' => e = .returned (.string s64) ∧ Sty wc g yp w') := ⟨fun wc h => by rw [hs58, hy58]; exact quote_any wc g yc nm hnO h.1 hycl, fun wc h => by rw [hs60, hy60]; exact blank_any wc g y58 h.1 l58, fun wc h => by rw [hs64, hyp]; exact blank_any wc g y60 h.1 l60⟩
        have HN5 : Aside0 ((∀ (wc : World) (yy : Nat), Sty Wk g yy wc → wc.cell? ⟨b, 5, none⟩ = some (.slice (some a1) ns.length c)) ∧ ∀ (wc : World) (yy : Nat), Sty Wk g yy wc → wc.cell? (a1.add i) = some (.string nm)) := ⟨fun wc yy h => (HBx.out.1.sty (HSk.out.trans h) HBx.out.2).c5, fun wc yy h => ((h.below hbwk hgw).cell (cell_lt ec)).trans ec⟩
        obtain ⟨yk, hyk⟩ : ∃ t, t = (trF k (fk, fi, fm, fu, ft, fn, fl) yp).2 := ⟨_, rfl⟩
        obtain ⟨s70, hs70⟩ : ∃ t, t = bStr (trF k (fk, fi, fm, fu, ft, fn, fl) yp).1 := ⟨_, rfl⟩
        obtain ⟨y72, hy72⟩ : ∃ t, t = (blk yk).2 := ⟨_, rfl⟩
        obtain ⟨s72, hs72⟩ : ∃ t, t = bStr (blk yk).1 := ⟨_, rfl⟩
        have z70 : s70.size ≤ 5000000000 := by rw [hs70, bStr_size]; exact hlk
        have z72 : s72.size ≤ 65537 := by rw [hs72, bStr_size]; exact blk_len _
        have hykl : yk < 18446744073709551616 := by rw [hyk]; exact trF_lt k _ _ hypl
        obtain ⟨a73, c73⟩ : ∃ t, s70 ++ s72 = t := ⟨_, rfl⟩
        obtain ⟨a74, c74⟩ : ∃ t, t66 ++ a73 = t := ⟨_, rfl⟩
        have z73 : a73.size ≤ 5000100000 := by rw [← c73, ByteArray.size_append]; omega
        have HC14 : Aside0 ((∀ wc, Sty Wk g yp wc → Calls Tryz.prog 18 #[.pointer (some ⟨g, 0, none⟩), .agg #[.int .u8 fk, .bool fi, .bool fm, .int .u64 fu, .string ft, .slice A9 fn.length c9, .slice B9 m9 d9]] wc fun e w' => e = .returned (.string s70) ∧ Sty wc g yk w') ∧ ∀ wc, Sty Wk g yk wc → Calls Tryz.prog 17 #[.pointer (some ⟨g, 0, none⟩)] wc fun e w' => e = .returned (.string s72) ∧ Sty wc g y72 w') := ⟨fun wc h => by
          rw [hs70, hyk]
          exact HT.out.out w0 wc _ A9 c9 B9 m9 d9 n' g yp hf0.at_ hfO hfG hlk (h.below hbwk hgw) hgw h.1 hypl, fun wc h => by
          rw [hs72, hy72]
          exact blank_any wc g yk h.1 hykl⟩
        have HNw : Aside0 (∀ wz, Sty Wk g y72 wz → SeqRel (memF (trF k)) (ns.zip ks) 125 T W g (.string a74) (.int .i64 ((i + 1 : Nat) : Int)) wz) := ⟨fun wz h => HNew.out wz (by
          rw [hy72, hyk, hyp, hy60, hy58] at h; exact HSk.out.trans h) (.string a74) (by
          rw [← c74, ← c73, ← c66, ← c65, ← c62, ← c61, ht6, htt, hs70, hs72, hs58, hs60, hs64, hyk, hyp, hy60, hy58]; show Value.string (bStr acc ++ bStr cc ++ (bStr _ ++ bStr _ ++ bStr [58] ++ bStr _) ++ _) = _; unfold memF kidF; simp only [bStr_app, List.append_assoc, List.cons_append, List.nil_append])⟩
        rw [← htt]
        clear h1 h2 hyc hcc htt ht6 hWk hb9 hbk h9g hfO hfG hff hf0 hS hbw hal hbwk hln hy58 hs58 hy60 hs60 hyp hs64 l58 l60 hnO ec hyk hs70 hy72 hs72 hykl hlk HNew hypl
        go_upto_block 1 with (fail)
        go_cut [6] from 41 to 74 (fun x6 wx => x6 = .string a74 ∧ Sty Wk g y72 wx)
        case first =>
         rename_i J9 K9 hJ9 hK9
         go_upto_if 42 with (fail)
         rw [← HWk.out.1, ← HWk.out.2]
         go_cut [6] from 41 to 47 (fun x6 wx => x6 = .string t6 ∧ Sty Wk g yc wx)
         case first =>
          by_cases h0 : i = 0
          · subst h0
            obtain ⟨rfl, rfl⟩ := HCm.out.1 rfl
            have hTT : t6 = tt := by rw [HTT.out.1]; exact ByteArray.append_empty
            have HE := HSk2
            go_wp2
            go_meet
            exact ⟨by rw [hTT], HE.out⟩
          · obtain ⟨rfl, rfl⟩ := HCm.out.2 h0
            have hi0 : 0 < i := by omega
            have HB4 := Aside0.mk (blank_any _ _ _ HSk.out.1 HRd.out.2.1)
            obtain ⟨sc, hsc⟩ : ∃ t, t = bStr (blk y).1 := ⟨_, rfl⟩
            have zc : sc.size ≤ 65537 := by rw [hsc, bStr_size]; exact blk_len _
            have hsz2 : ((⟨#[44]⟩ : ByteArray) ++ sc).size ≤ 65538 := by rw [ByteArray.size_append]; show 1 + _ ≤ _; omega
            have hTT : Aside0 (t6 = tt ++ ((⟨#[44]⟩ : ByteArray) ++ sc)) := ⟨by rw [HTT.out.1, hsc]; show _ = tt ++ (bStr [44] ++ _); rw [bStr_app]; rfl⟩
            rw [← hsc] at HB4
            clear hsc h0
            go_wp2_with fail
            refine HB4.out.mono ?_
            rintro e w2 ⟨rfl, hS2⟩
            have HW2 := Aside0.mk hS2
            clear hS2
            go_wp2
            go_meet
            exact ⟨by rw [hTT.out], HW2.out⟩
         case rest =>
          obtain ⟨rfl, hSx⟩ := hcut
          have HS5 := Aside0.mk hSx
          clear hSx
          obtain ⟨k0, k1, k2, k3, k4, k5, k6⟩ := HBx.out.1.sty (HSk.out.trans HS5.out) HBx.out.2
          have kc := HN5.out.2 _ _ HS5.out
          go_wp2_with fail
          refine (HC13.out.1 _ HS5.out).mono ?_
          rintro e wa ⟨rfl, hSa⟩
          have HSa := Aside0.mk (HS5.out.trans hSa)
          clear hSa k0 k1 k2 k3 k4 k5 k6 kc
          go_wp2_with fail
          refine (HC13.out.2.1 _ HSa.out).mono ?_
          rintro e wb ⟨rfl, hSb⟩
          have HSb := Aside0.mk (HSa.out.trans hSb)
          clear hSb
          go_wp2_with fail
          refine (HC13.out.2.2 _ HSb.out).mono ?_
          rintro e wc ⟨rfl, hSc⟩
          have HS6 := Aside0.mk (HSb.out.trans hSc)
          clear hSc
          obtain ⟨j0, j1, j2, j3, j4, j5, j6⟩ := HBk.out.1.sty HS6.out HBk.out.2
          go_wp2_with fail
          refine (HC14.out.1 _ HS6.out).mono ?_
          rintro e w7 ⟨rfl, hS7⟩
          have HS7 := Aside0.mk (HS6.out.trans hS7)
          clear hS7
          go_wp2_with fail
          refine (HC14.out.2 _ HS7.out).mono ?_
          rintro e w8 ⟨rfl, hS8⟩
          have HS8 := Aside0.mk (HS7.out.trans hS8)
          clear hS8
          go_wp2
          go_meet
          exact ⟨rfl, HS8.out⟩
        case rest =>
          obtain ⟨rfl, hS7⟩ := hcut
          have HZ := Aside0.mk (HNw.out _ hS7)
          clear hS7
          go_wp2
          go_roundw
          case rel => exact HZ.out
          case measure => simp [intOf]; omega
      · obtain rfl : i = ks.length := by omega
        rw [List.drop_of_length_le (by rw [List.length_zip]; omega), seqF_nil] at h1 h2
        have HR : Aside0 (bStr acc ++ (⟨#[125]⟩ : ByteArray) = bStr T.1 ∧ Sty W g T.2 wr) := ⟨by
          rw [← h1]
          show _ ++ bStr [125] = _
          rw [bStr_app]
          rfl, by rw [← h2]; exact hS⟩
        rw [← htt] at HR ⊢
        clear h1 h2 hy hS hbw htt hal
        obtain ⟨hsl, hsz⟩ := HSr.out
        go_wp2
        go_ret
        exact ⟨by rw [← HR.out.1]; rfl, Sty.pre HBW.out HR.out.2⟩
theorem treeCall_zero : TreeCall 0 := ⟨fun _ _ _ _ _ _ _ _ _ _ _ _ _ hg => hg.elim⟩
theorem treeCall_succ (k : Nat) (HT : TreeCall k) : TreeCall (k + 1) := ⟨fun w0 w x A c B m d n g y hTr hO hg hl hb hgw hS hy => by
  obtain ⟨kd, is, mi, nu, tx, ns, ks⟩ := x
  obtain ⟨hA, hle, hm, hd, hK⟩ := hTr
  have hw := wf_int hO.1 hO.2.2.2.1
  have g5 := hg.1
  have g3 := hg.2.1
  by_cases h4 : kd < 4
  · have e : trF (k + 1) (kd, is, mi, nu, tx, ns, ks) y = valF (leafF kd is mi nu tx) y := by
      unfold trF
      exact if_pos h4
    rw [e]
    exact tree_leaf w g y kd is mi nu tx _ _ hS hy hw.1 h4 hw.2 g3
  · have hO2 : AllOk (OkT k) (show List (TrN k) from ks) := hO.2.2.2.2.2.2
    have g5b : kd ≤ 5 := g5
    have hm2 : m = List.length (show List (TrN k) from ks) := hm
    subst hm2
    rcases (show kd = 4 ∨ kd = 5 by omega) with rfl | rfl
    · exact tree_4 k ⟨HT⟩ w0 w is mi nu tx ns ks A c B d n g y hA hK hO2 hg hl hb hgw hS hy
    · exact tree_5 k ⟨HT⟩ w0 w is mi nu tx ns ks A c B d n g y hA hK hO2 hg hl hb hgw hS hy⟩
theorem treeCall_any : ∀ k, TreeCall k
  | 0 => treeCall_zero
  | k + 1 => treeCall_succ k (treeCall_any k)
end Go.Proofs.YtgldcjmdjhghpaaGreatDoor
