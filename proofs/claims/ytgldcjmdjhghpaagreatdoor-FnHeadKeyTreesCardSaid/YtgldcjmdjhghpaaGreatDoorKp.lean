/-
  What spec's headStyle.tree is asked; spec.HeadPrint: its contract. Printed by kpgen.py.
-/
import Derived.Test.YtgldcjmdjhghpaaGreatDoorKy
namespace Go.Proofs.YtgldcjmdjhghpaaGreatDoor
open Go.RowKit Go.Proofs.YtgldcjmdjhghpaaGreatDoorW.PrintWords Go.ChangeShapes Go.WideShapes
set_option linter.unusedVariables false
set_option linter.unusedSimpArgs false
set_option maxRecDepth 100000
/-- What headStyle.tree makes of a right tree that lay in memory ahead of the style. -/
structure TreeCall (k : Nat) : Prop where
  out : ∀ (w0 w : World) (x : TrN k) (A : Option Addr) (c : Nat) (B : Option Addr) (m d n g y : Nat), TrAt w0 x A c B m d → OkT k x → TGood k x n → (trF k x y).1.length ≤ 5000000000 → Below w0.heap.size w0 w → w0.heap.size ≤ g → StyAt w g y → y < 18446744073709551616 →
    Calls Tryz.prog 18 #[.pointer (some ⟨g, 0, none⟩), .agg (trCells x A c B m d)] w fun e w' => e = .returned (.string (bStr (trF k x y).1)) ∧ Sty w g (trF k x y).2 w'
theorem Sty.below {w0 w w1 : World} {g y : Nat} (hb : Below w0.heap.size w0 w) (hg : w0.heap.size ≤ g) (h : Sty w g y w1) : Below w0.heap.size w0 w1 := hb.trans (h.2.below w0.heap.size hb.size (fun b o hb hh => by have := hh.1; omega))
def hprX (x0 x1 x2 x3 : Nat) (k : Nat) : Nat := match k with | 0 => x0 | 1 => x1 | 2 => x2 | _ => x3
def hprVal (g : Nat) (cs : Array Value) (s1 s2 s3 a14 a17 : ByteArray) (d : Nat) : Value :=
  match d with
  | 9 => .pointer (some ⟨g, 0, none⟩)
  | 10 => .string s1
  | 11 => .pointer (some ⟨g, 0, none⟩)
  | 12 => .agg cs
  | 13 => .string s2
  | 14 => .string a14
  | 15 => .pointer (some ⟨g, 0, none⟩)
  | 16 => .string s3
  | 17 => .string a17
  | 4 => .string a17
  | _ => undef
def hprRd (i : Nat) : List (Nat × Nat) :=
  match i with
  | _ => []
def hprDp (i : Nat) : List (Nat × Nat) :=
  match i with
  | 1 => [(0, 9)]
  | 4 => [(2, 11), (3, 12)]
  | 5 => [(1, 10), (4, 13)]
  | 7 => [(6, 15)]
  | 8 => [(5, 14), (7, 16)]
  | 9 => [(8, 17)]
  | _ => []
set_option maxHeartbeats 4000000 in
theorem hprint_any (HT : Aside0 (TreeCall 60)) (w : World) (x : TrN 60) (A : Option Addr) (c : Nat) (B : Option Addr) (m dd n y : Nat) (h : TrAt w x A c B m dd) (hO : OkT 60 x) (hg : TGood 60 x n) (hn : n ≤ 200) (hy : y < 18446744073709551616) :
    Calls Tryz.prog 7 #[.agg (trCells x A c B m dd), .int .u64 (y : Int)] w fun e w' => e = .returned (.string (bStr (prF x y))) ∧ Below w.heap.size w w' := by
  have hu := Tryz.underlying26
  have hlen := prF_len hO hg hn y
  have hty := trF_lt 60 x (blk y).2 (blk_lt _ hy)
  obtain ⟨W1, hW1⟩ : ∃ W, W = w.alloc (.cells (trCells x A c B m dd) 26) := ⟨_, rfl⟩
  obtain ⟨W, hW⟩ : ∃ W, W = W1.alloc (.cells #[.int .u64 (y : Int)] 43) := ⟨_, rfl⟩
  have hb1 : Below w.heap.size w W1 := by rw [hW1]; exact (Below.refl _ _).alloc (Nat.le_refl _) _
  have hb2 : Below w.heap.size w W := by rw [hW]; exact hb1.alloc hb1.size _
  obtain ⟨b, hbb⟩ : ∃ b, b = w.heap.size := ⟨_, rfl⟩
  obtain ⟨g, hgg⟩ : ∃ g, g = b + 1 := ⟨_, rfl⟩
  have hW1s : W1.heap.size = g := by rw [hW1, hgg, hbb, World.alloc]; simp
  have hS : StyAt W g y := ⟨⟨_, by rw [hW, ← hW1s]; exact blk_new W1 _⟩, by rw [hW, ← hW1s, World.cell?_alloc_new]; rfl⟩
  obtain ⟨y1, hy1⟩ : ∃ t, t = (blk y).2 := ⟨_, rfl⟩
  obtain ⟨y2, hy2⟩ : ∃ t, t = (trF 60 x y1).2 := ⟨_, rfl⟩
  obtain ⟨y3, hy3⟩ : ∃ t, t = (blk y2).2 := ⟨_, rfl⟩
  rw [← hy1] at hty
  rw [← hy2] at hty
  have hy1l : y1 < 18446744073709551616 := by rw [hy1]; exact blk_lt _ hy
  obtain ⟨s1, hs1⟩ : ∃ t, t = bStr (blk y).1 := ⟨_, rfl⟩
  obtain ⟨s2, hs2⟩ : ∃ t, t = bStr (trF 60 x y1).1 := ⟨_, rfl⟩
  obtain ⟨s3, hs3⟩ : ∃ t, t = bStr (blk y2).1 := ⟨_, rfl⟩
  obtain ⟨a14, h14⟩ : ∃ t, t = s1 ++ s2 := ⟨_, rfl⟩
  obtain ⟨a17, h17⟩ : ∃ t, t = a14 ++ s3 := ⟨_, rfl⟩
  have e17 : a17 = bStr (prF x y) := by
    rw [h17, h14, hs1, hs2, hs3, hy2, hy1]
    unfold prF
    simp only [bStr_app]
  have l17 : a17.size ≤ 5000000000 := by rw [e17, bStr_size]; exact hlen
  have l14 : s1.size + s2.size + s3.size ≤ 5000000000 := by rw [h17, h14, ByteArray.size_append, ByteArray.size_append] at l17; exact l17
  have l14b : a14.size + s3.size ≤ 5000000000 := by rw [h14, ByteArray.size_append]; exact l14
  have c14 : s1 ++ s2 = a14 := h14.symm
  have c17 : a14 ++ s3 = a17 := h17.symm
  have hgw : w.heap.size ≤ g := by omega
  have l2 : (trF 60 x y1).1.length ≤ 5000000000 := by have := l14; rw [hs2, bStr_size] at this; omega
  have HC : Aside0 ((∀ wc, Sty W g y wc → Calls Tryz.prog 17 #[.pointer (some ⟨g, 0, none⟩)] wc fun e w' => e = .returned (.string s1) ∧ Sty wc g y1 w') ∧ (∀ wc, Sty W g y1 wc → Calls Tryz.prog 18 #[.pointer (some ⟨g, 0, none⟩), .agg (trCells x A c B m dd)] wc fun e w' => e = .returned (.string s2) ∧ Sty wc g y2 w') ∧ ∀ wc, Sty W g y2 wc → Calls Tryz.prog 17 #[.pointer (some ⟨g, 0, none⟩)] wc fun e w' => e = .returned (.string s3) ∧ Sty wc g y3 w') := ⟨fun wc h => by
      rw [hs1, hy1]
      exact blank_any wc g y h.1 hy, fun wc h2 => by
      rw [hs2, hy2]
      exact HT.out.out w wc x A c B m dd n g y1 h hO hg l2 (h2.below hb2 hgw) hgw h2.1 hy1l, fun wc h => by
      rw [hs3, hy3]
      exact blank_any wc g y2 h.1 hty⟩
  have H0 : Aside0 (Sty W g y W.drew) := ⟨(Sty.refl hS).on (Below.refl _ _).drew⟩
  have HEnd : Aside0 (∀ wc y, Sty W g y wc → Below w.heap.size w wc) := ⟨fun wc y h => h.below hb2 hgw⟩
  have HE := Aside0.mk e17
  obtain ⟨kd, is, mi, nu, tx, ns, ks⟩ := x
  have hBx : BoxT W1 b kd is mi nu tx (.slice A ns.length c) (.slice B m dd) := by rw [hW1, hbb]; exact BoxT.new w kd is mi nu tx _ _
  have hBW : BoxT W b kd is mi nu tx (.slice A ns.length c) (.slice B m dd) := hBx.on (by rw [hW]; exact (Below.refl _ _).alloc (Nat.le_refl _) _)
  have HCl : Aside0 (∀ (wc : World) (y : Nat), Sty W g y wc → BoxT wc b kd is mi nu tx (.slice A ns.length c) (.slice B m dd)) := ⟨fun wc y hS => hBW.sty hS (by omega)⟩
  have HW := Aside0.mk hW
  have HW1 := Aside0.mk hW1
  have Hbg := Aside0.mk (And.intro hbb hgg)
  clear h hO hg hn hy hlen hty hW1 hW hb1 hb2 hbb hgg hW1s hS hy1 hy2 hy3 hy1l hs1 hs2 hs3 h14 h17 e17 hgw l2 hBx hBW HT
  unfold trCells at HC HW1 ⊢
  go_enter Tryz.func7, Tryz.ntmps7
  go_upto_region 2 with (fail)
  rw [← HW1.out, ← HW.out, ← Hbg.out.1, ← Hbg.out.2]
  go_cut [4] from 9 to 17 (fun x4 wx => x4 = .string a17 ∧ Sty W g y3 wx)
  case first =>
    rename_i J K1 hJ hK1
    refine wp_region_any (by kernel_rfl) ?_
    change wpAny _ _ _ _ _ _ _ (World.drew _)
    refine region_chain _ _ [9, 10, 11, 12, 13, 14, 15, 16, 17, 4] (hprVal g #[.int .u8 kd, .bool is, .bool mi, .int .u64 nu, .string tx, .slice A ns.length c, .slice B m dd] s1 s2 s3 a14 a17) hprDp hprRd [1, 4, 7] (fun k wx => Sty W g (hprX y y1 y2 y3 k) wx) (by kernel_rfl) (by kernel_rfl) (by kernel_rfl) (by kernel_rfl) ?_ ?_ ?_
    case' refine_1 => exact H0.out
    refine StepsC.quiet (by decide) (fun k a wc hI hc hp hr K hK => ?_) ?_
    · -- slot 9
      have q5 : a.tmps[5]?.getD undef = .pointer (some ⟨g, 0, none⟩) := ev_get (hc 5 (by decide))
      have HI := Aside0.mk hI
      clear hp hc hr hI
      go_simp
      exact hK _ HI.out
    refine StepsC.call 0 rfl (fun a wc hI hc hp hr K hK => ?_) ?_
    · -- slot 10
      have q9 : a.tmps[9]?.getD undef = .pointer (some ⟨g, 0, none⟩) := ev_get (hp (0, 9) (by simp [hprDp]))
      have HI := Aside0.mk hI
      clear hp hc hr hI
      go_simp
      refine (HC.out.1 _ HI.out).mono ?_
      rintro e w2 ⟨rfl, hS⟩
      exact hK _ (HI.out.trans hS)
    refine StepsC.quiet (by decide) (fun k a wc hI hc hp hr K hK => ?_) ?_
    · -- slot 11
      have q5 : a.tmps[5]?.getD undef = .pointer (some ⟨g, 0, none⟩) := ev_get (hc 5 (by decide))
      have HI := Aside0.mk hI
      clear hp hc hr hI
      go_simp
      exact hK _ HI.out
    refine StepsC.quiet (by decide) (fun k a wc hI hc hp hr K hK => ?_) ?_
    · -- slot 12
      have q2 : a.tmps[2]?.getD undef = .pointer (some ⟨b, 0, none⟩) := ev_get (hc 2 (by decide))
      have HI := Aside0.mk hI
      clear hp hc hr hI
      have hx0 := HCl.out _ _ HI.out
      obtain ⟨k0, k1, k2, k3, k4, k5, k6⟩ := hx0
      go_simp
      exact hK _ HI.out
    refine StepsC.call 1 rfl (fun a wc hI hc hp hr K hK => ?_) ?_
    · -- slot 13
      have q11 : a.tmps[11]?.getD undef = .pointer (some ⟨g, 0, none⟩) := ev_get (hp (2, 11) (by simp [hprDp]))
      have q12 : a.tmps[12]?.getD undef = .agg #[.int .u8 kd, .bool is, .bool mi, .int .u64 nu, .string tx, .slice A ns.length c, .slice B m dd] := ev_get (hp (3, 12) (by simp [hprDp]))
      have HI := Aside0.mk hI
      clear hp hc hr hI
      go_simp
      refine (HC.out.2.1 _ HI.out).mono ?_
      rintro e w2 ⟨rfl, hS⟩
      exact hK _ (HI.out.trans hS)
    refine StepsC.quiet (by decide) (fun k a wc hI hc hp hr K hK => ?_) ?_
    · -- slot 14
      have q10 : a.tmps[10]?.getD undef = .string s1 := ev_get (hp (1, 10) (by simp [hprDp]))
      have q13 : a.tmps[13]?.getD undef = .string s2 := ev_get (hp (4, 13) (by simp [hprDp]))
      have HI := Aside0.mk hI
      clear hp hc hr hI
      have hz : (9223372036854775807 < s1.size + s2.size) = False := eq_false (by omega)
      go_simp
      exact hK _ HI.out
    refine StepsC.quiet (by decide) (fun k a wc hI hc hp hr K hK => ?_) ?_
    · -- slot 15
      have q5 : a.tmps[5]?.getD undef = .pointer (some ⟨g, 0, none⟩) := ev_get (hc 5 (by decide))
      have HI := Aside0.mk hI
      clear hp hc hr hI
      go_simp
      exact hK _ HI.out
    refine StepsC.call 2 rfl (fun a wc hI hc hp hr K hK => ?_) ?_
    · -- slot 16
      have q15 : a.tmps[15]?.getD undef = .pointer (some ⟨g, 0, none⟩) := ev_get (hp (6, 15) (by simp [hprDp]))
      have HI := Aside0.mk hI
      clear hp hc hr hI
      go_simp
      refine (HC.out.2.2 _ HI.out).mono ?_
      rintro e w2 ⟨rfl, hS⟩
      exact hK _ (HI.out.trans hS)
    refine StepsC.quiet (by decide) (fun k a wc hI hc hp hr K hK => ?_) ?_
    · -- slot 17
      have q14 : a.tmps[14]?.getD undef = .string a14 := ev_get (hp (5, 14) (by simp [hprDp]))
      have q16 : a.tmps[16]?.getD undef = .string s3 := ev_get (hp (7, 16) (by simp [hprDp]))
      have HI := Aside0.mk hI
      clear hp hc hr hI
      have hz : (9223372036854775807 < a14.size + s3.size) = False := eq_false (by omega)
      go_simp
      exact hK _ HI.out
    refine StepsC.quiet (by decide) (fun k a wc hI hc hp hr K hK => ?_) ?_
    · -- slot 4
      have q17 : a.tmps[17]?.getD undef = .string a17 := ev_get (hp (8, 17) (by simp [hprDp]))
      have HI := Aside0.mk hI
      clear hp hc hr hI
      go_simp
      exact hK _ HI.out
    exact StepsC.nil _
    · intro wz hI
      exact hK1 _ _ (Met.intro (hJ _ _ ⟨(.string a17), (.pointer (some ⟨g, 0, none⟩)), (.string s1), (.pointer (some ⟨g, 0, none⟩)), (.agg #[.int .u8 kd, .bool is, .bool mi, .int .u64 nu, .string tx, .slice A ns.length c, .slice B m dd]), (.string s2), (.string a14), (.pointer (some ⟨g, 0, none⟩)), (.string s3), (.string a17), ⟨rfl, hI⟩, by kernel_rfl⟩))
  case rest =>
    obtain ⟨rfl, hSx⟩ := hcut
    have HS := Aside0.mk (HEnd.out _ _ hSx)
    clear hSx
    go_wp2
    go_ret
    exact ⟨by rw [← HE.out]; rfl, HS.out⟩
end Go.Proofs.YtgldcjmdjhghpaaGreatDoor
