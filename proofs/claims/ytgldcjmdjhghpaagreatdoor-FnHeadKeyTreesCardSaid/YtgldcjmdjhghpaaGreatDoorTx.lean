/-
  spec's headShort, and headStyle.text: their contracts.
-/
import Derived.Test.YtgldcjmdjhghpaaGreatDoorSt
import Derived.Test.YtgldcjmdjhghpaaGreatDoorUr
import Derived.Lib.OthersKept
import Derived.Deep.CutBlock
import Derived.Deep.DeepCutAuto
namespace Go.Proofs.YtgldcjmdjhghpaaGreatDoor
open Go.RowKit Go.Proofs.YtgldcjmdjhghpaaGreatDoorW.PrintWords Go.ChangeShapes Go.WideShapes
set_option linter.unusedVariables false
set_option linter.unusedSimpArgs false
set_option maxRecDepth 100000
def shortB (c : Nat) : Bs := match shortC c with | some l => [92, l] | none => []
set_option maxHeartbeats 2000000 in
theorem headShort_any (c : Nat) (w : World) :
    Calls Tryz.prog 38 #[.int .i32 (c : Int)] w fun e w' => e = .returned (.string (bStr (shortB c))) ∧ w = w' := by
  by_cases h1 : c = 34
  · subst h1
    show Calls Tryz.prog 38 #[.int .i32 34] w _
    go_enter Tryz.func38, Tryz.ntmps38
    go_wp2
    go_ret
    exact ⟨rfl, rfl⟩
  by_cases h2 : c = 92
  · subst h2
    show Calls Tryz.prog 38 #[.int .i32 92] w _
    go_enter Tryz.func38, Tryz.ntmps38
    go_wp2
    go_ret
    exact ⟨rfl, rfl⟩
  by_cases h3 : c = 47
  · subst h3
    show Calls Tryz.prog 38 #[.int .i32 47] w _
    go_enter Tryz.func38, Tryz.ntmps38
    go_wp2
    go_ret
    exact ⟨rfl, rfl⟩
  by_cases h4 : c = 8
  · subst h4
    show Calls Tryz.prog 38 #[.int .i32 8] w _
    go_enter Tryz.func38, Tryz.ntmps38
    go_wp2
    go_ret
    exact ⟨rfl, rfl⟩
  by_cases h5 : c = 9
  · subst h5
    show Calls Tryz.prog 38 #[.int .i32 9] w _
    go_enter Tryz.func38, Tryz.ntmps38
    go_wp2
    go_ret
    exact ⟨rfl, rfl⟩
  by_cases h6 : c = 10
  · subst h6
    show Calls Tryz.prog 38 #[.int .i32 10] w _
    go_enter Tryz.func38, Tryz.ntmps38
    go_wp2
    go_ret
    exact ⟨rfl, rfl⟩
  by_cases h7 : c = 12
  · subst h7
    show Calls Tryz.prog 38 #[.int .i32 12] w _
    go_enter Tryz.func38, Tryz.ntmps38
    go_wp2
    go_ret
    exact ⟨rfl, rfl⟩
  by_cases h8 : c = 13
  · subst h8
    show Calls Tryz.prog 38 #[.int .i32 13] w _
    go_enter Tryz.func38, Tryz.ntmps38
    go_wp2
    go_ret
    exact ⟨rfl, rfl⟩
  have HS : Aside0 (shortB c = []) := ⟨by
    unfold shortB shortC
    rw [if_neg h1, if_neg h2, if_neg h3, if_neg h4, if_neg h5, if_neg h6, if_neg h7, if_neg h8]⟩
  have e1 : ((c : Int) == 34) = false := by rw [beq_eq_false_iff_ne]; omega
  have e2 : ((c : Int) == 92) = false := by rw [beq_eq_false_iff_ne]; omega
  have e3 : ((c : Int) == 47) = false := by rw [beq_eq_false_iff_ne]; omega
  have e4 : ((c : Int) == 8) = false := by rw [beq_eq_false_iff_ne]; omega
  have e5 : ((c : Int) == 9) = false := by rw [beq_eq_false_iff_ne]; omega
  have e6 : ((c : Int) == 10) = false := by rw [beq_eq_false_iff_ne]; omega
  have e7 : ((c : Int) == 12) = false := by rw [beq_eq_false_iff_ne]; omega
  have e8 : ((c : Int) == 13) = false := by rw [beq_eq_false_iff_ne]; omega
  clear h1 h2 h3 h4 h5 h6 h7 h8
  rw [HS.out]
  go_enter Tryz.func38, Tryz.ntmps38
  go_wp2
  go_ret
  exact ⟨rfl, rfl⟩
theorem Upd.iterAt {w0 w : World} {C : CellSet} (h : Upd w0 w C) (k : Nat) (s : ByteArray) (p : Nat) (hk : w0.heap.size ≤ k) : Upd w0 (w.iterAt k s p) C := by
  have hu : Upd w (w.iterAt k s p) (fun b o => b = k) := ⟨rfl, rfl, rfl, by rw [Lib.iterAt_size]; exact Nat.le_refl _, fun b o hb hn => by
    show (w.iterAt k s p).cell? _ = _
    simp only [World.cell?, Lib.iterAt_other w k b s p hn], fun b o cs t fr hn hb => ⟨cs, by rw [Lib.iterAt_other w k b s p hn]; exact hb⟩, fun b hb hn => Lib.iterAt_other w k b s p (fun e => hn 0 e)⟩
  exact h.trans hu (fun _ _ _ h => h) (fun b o hb hh => by omega)
theorem StyAt.iterAt {w : World} {g x : Nat} (h : StyAt w g x) (k : Nat) (s : ByteArray) (p : Nat) (hk : g ≠ k) : StyAt (w.iterAt k s p) g x := by
  refine ⟨?_, ?_⟩
  · obtain ⟨cs, e⟩ := h.ty
    exact ⟨cs, by rw [Lib.iterAt_other w k g s p hk]; exact e⟩
  · show (w.iterAt k s p).cell? _ = _
    simp only [World.cell?, Lib.iterAt_other w k g s p hk]
    exact h.c
/-- Where the writing of a text stands. -/
def TxtRel (w : World) (g x : Nat) (rs : List Nat) (s5 : Value) (wr : World) : Prop :=
  ∃ (done rest : List Nat) (y : Nat) (out : Bs), rs = done ++ rest ∧ s5 = .string (bStr (34 :: out)) ∧ out ++ (textF rest y).1 = (textF rs x).1 ∧ (textF rest y).2 = (textF rs x).2 ∧ y < 18446744073709551616 ∧ out.length ≤ 12 * done.length ∧
    StyAt wr g y ∧ wr.heap[w.heap.size]? = some (.stringIter (bStr (encR rs)) (encR done).length) ∧ Upd w wr (StyC g)
/-- Behind the question whether a character is escaped. -/
def AskRel (w : World) (g : Nat) (T : ByteArray) (p : Nat) (c y : Nat) (x10 : Value) (wx : World) : Prop :=
  x10 = .bool (askC c y).1 ∧ StyAt wx g (askC c y).2 ∧ wx.heap[w.heap.size]? = some (.stringIter T p) ∧ Upd w wx (StyC g)
theorem Sty.iter {w w1 : World} {g x k : Nat} {s : ByteArray} {p : Nat} (h : Sty w g x w1) (hk : w.heap[k]? = some (.stringIter s p)) (hg : g ≠ k) : w1.heap[k]? = some (.stringIter s p) := by
  rw [h.2.blk k (Array.getElem?_eq_some_iff.1 hk).1 (fun o hh => hg hh.1.symm)]
  exact hk
theorem askC_lt (c y : Nat) (h : y < 18446744073709551616) : (askC c y).2 < 18446744073709551616 := by
  unfold askC
  split
  · exact h
  · split
    · decide
    · exact nxt_lt _
theorem escC_lt (c y : Nat) (h : y < 18446744073709551616) : (escC c y).2 < 18446744073709551616 := by
  unfold escC
  split
  · split
    · show 0 < 18446744073709551616
      decide
    · split
      · exact nxt_lt _
      · exact nxt_lt _
  · exact h
/-- What a piece of a text leaves. -/
def PieceRel (w : World) (g x : Nat) (rs : List Nat) (T : ByteArray) (p : Nat) (done' rest : List Nat) (out : Bs) (add : Bs) (z : Nat) : Prop :=
  ∀ (wx : World), StyAt wx g z → wx.heap[w.heap.size]? = some (.stringIter T p) → Upd w wx (StyC g) → TxtRel w g x rs (.string (bStr (34 :: out) ++ bStr add)) wx
theorem nn_eq {y : Nat} (h : y = 0) : ((y : Int) == 0) = true ∧ ((y : Int) != 0) = false := by subst h; exact ⟨rfl, rfl⟩
theorem nn_ne {y : Nat} (h : y ≠ 0) : ((y : Int) == 0) = false ∧ ((y : Int) != 0) = true := by
  rw [beq_eq_false_iff_ne, bne_iff_ne]
  omega
theorem escN_small {c : Nat} (h : ¬ 65536 ≤ c) : escN c = hexE c := by unfold escN; rw [if_neg h]
theorem short_small {c : Nat} {l : UInt8} (h : shortC c = some l) : c < 93 := by
  unfold shortC at h
  by_cases h1 : c < 93
  · exact h1
  · rw [if_neg (by omega), if_neg (by omega), if_neg (by omega), if_neg (by omega), if_neg (by omega), if_neg (by omega), if_neg (by omega), if_neg (by omega)] at h
    cases h
set_option maxHeartbeats 16000000 in
theorem text_any (w : World) (g x : Nat) (rs : List Nat) (h : StyAt w g x) (hx : x < 18446744073709551616) (hrs : ∀ c ∈ rs, RuneOk c) (hl : rs.length ≤ 100000) :
    Calls Tryz.prog 30 #[.pointer (some ⟨g, 0, none⟩), .string (bStr (encR rs))] w fun e w' => e = .returned (.string (bStr (34 :: ((textF rs x).1 ++ [34])))) ∧ Sty w g (textF rs x).2 w' := by
  have hglt := blkT_lt h.ty
  have HRs := Aside0.mk hrs
  have HHx := Aside0.mk (fun (n : Nat) (w : World) (hn : n < 65536) => headHex_any n w hn)
  have HSh := Aside0.mk (fun (c : Nat) (w : World) => headShort_any c w)
  have H0 : Aside0 (TxtRel w g x rs (.string (bStr [34])) (w.iter (bStr (encR rs)) 0)) := ⟨[], rs, x, [], rfl, rfl, rfl, rfl, hx, by simp, h.on ((Below.refl _ _).alloc (Nat.le_refl _) _), World.iter_heap w _ 0, Upd.alloc w _ _⟩
  obtain ⟨T, hT⟩ : ∃ T, T = bStr (encR rs) := ⟨_, rfl⟩
  rw [← hT] at H0 ⊢
  have HT := Aside0.mk hT
  obtain ⟨k, hk⟩ : ∃ k, k = w.heap.size := ⟨_, rfl⟩
  have HK := Aside0.mk hk
  have hgk : g ≠ k := by omega
  clear h hx hrs hT
  go_enter Tryz.func30, Tryz.ntmps30
  go_wp2
  rw [← hk]
  clear hk
  go_loopw [5] (fun s5 wr => TxtRel w g x rs s5 wr) (fun _ wr => T.size - wr.iterPos k)
  case atStart => exact H0.out
  case round =>
    clear H0
    obtain ⟨done, rest, y, out, hrs2, rfl, h1, h2, hy, hol, hSt, hit, hU⟩ := hrel
    rw [← HK.out, ← HT.out] at hit
    cases rest with
    | nil =>
      have hpos : ¬ (encR done).length < T.size := by rw [HT.out, bStr_size, hrs2, List.append_nil]; omega
      have hnx := fun ty => Lib.run_next_end_at (P := Tryz.prog) wr k T (encR done).length ty hit hpos
      have HR : Aside0 (bStr (34 :: out) ++ (⟨#[34]⟩ : ByteArray) = bStr (34 :: ((textF rs x).1 ++ [34])) ∧ Sty w g (textF rs x).2 wr) := ⟨by
        rw [← h1]
        show bStr (34 :: out) ++ bStr [34] = _
        rw [bStr_app]
        show bStr (34 :: (out ++ [34])) = bStr (34 :: (out ++ [] ++ [34]))
        rw [List.append_nil], by rw [← h2]; exact ⟨hSt, hU⟩⟩
      obtain ⟨t, ht⟩ : ∃ t, t = bStr (34 :: out) := ⟨_, rfl⟩
      have hts : t.size ≤ 2000000 := by
        rw [ht, bStr_size, List.length_cons]
        have : done.length ≤ rs.length := by rw [hrs2]; simp
        omega
      rw [← ht] at HR ⊢
      clear hrs2 h1 h2 hy hol hSt hit hU hpos ht
      go_wp2
      go_ret
      exact ⟨by rw [← HR.out.1]; rfl, HR.out.2⟩
    | cons c rest =>
      have hc : RuneOk c := HRs.out c (by rw [hrs2]; simp)
      have hencT : T = bStr (encR done ++ (utf8 c ++ encR rest)) := by
        rw [HT.out, hrs2, encR_append]
        rfl
      have hdec := decode_at_rune (encR done) (encR rest) hc
      rw [← hencT] at hdec
      have hlen := (utf8_bds c).1
      have hsz : T.size = (encR done).length + ((utf8 c).length + (encR rest).length) := by rw [hencT, bStr_size, List.length_append, List.length_append]
      have hpos : (encR done).length < T.size := by omega
      have hpe : (encR (done ++ [c])).length = (encR done).length + (utf8 c).length := by
        rw [encR_append, List.length_append]
        show _ + (utf8 c ++ []).length = _
        rw [List.append_nil]
      obtain ⟨W1, hW1⟩ : ∃ W1, W1 = wr.iterAt k T ((encR done).length + (utf8 c).length) := ⟨_, rfl⟩
      have hnx := fun ty => Lib.run_next_any_at (P := Tryz.prog) wr k T (encR done).length ty hit hpos
      rw [hdec] at hnx
      replace hnx : ∀ ty, (Instr.next (.pointer (some ⟨k, 0, none⟩)) true ty).run Tryz.prog wr = .ok (.tuple #[.bool true, .int .i64 (encR done).length, .int .i32 (c : Int)]) W1 := fun ty => by rw [hW1]; exact hnx ty
      have hS1 := Aside0.mk (show StyAt W1 g y by rw [hW1]; exact hSt.iterAt k T _ hgk)
      obtain ⟨p1, hp1⟩ : ∃ p1, p1 = (encR done).length + (utf8 c).length := ⟨_, rfl⟩
      have hI1 := Aside0.mk (show W1.heap[k]? = some (.stringIter T p1) by rw [hW1, hp1]; exact Lib.iterAt_heap wr k T _ _ hit)
      have hU1 := Aside0.mk (show Upd w W1 (StyC g) by rw [hW1]; exact hU.iterAt k T _ (by rw [HK.out]; exact Nat.le_refl _))
      obtain ⟨p0, hp0⟩ : ∃ p0, p0 = (encR done).length := ⟨_, rfl⟩
      rw [← hp0] at hnx
      have HMs : Aside0 (∀ wx : World, wx.heap[k]? = some (.stringIter T p1) → T.size - wx.iterPos k < T.size - wr.iterPos k) := ⟨fun wx hh => by
        have e1 : wr.iterPos k = p0 := by unfold World.iterPos; rw [hit, hp0]
        have e2 : wx.iterPos k = p1 := by unfold World.iterPos; rw [hh]
        rw [e1, e2]
        omega⟩
      have hol2 : out.length ≤ 12 * done.length := hol
      have hdl : done.length + 1 ≤ rs.length := by rw [hrs2, List.length_append, List.length_cons]; omega
      have HEnd : Aside0 (∀ add z, (charF c y) = (add, z) → ∀ wx : World, StyAt wx g z → wx.heap[k]? = some (.stringIter T p1) → Upd w wx (StyC g) → TxtRel w g x rs (.string (bStr (34 :: out) ++ bStr add)) wx) := ⟨fun add z hz wx hs hi hu => by
        have hcl := charF_len c y
        rw [hz] at hcl
        replace hcl : add.length ≤ 12 := hcl
        refine ⟨done ++ [c], rest, z, out ++ add, by rw [hrs2]; simp, by rw [bStr_app]; rfl, ?_, ?_, ?_, ?_, hs, by rw [← HK.out, ← HT.out, hpe, ← hp1]; exact hi, hu⟩
        · rw [← h1, List.append_assoc]
          show out ++ (add ++ (textF rest z).1) = out ++ ((charF c y).1 ++ (textF rest (charF c y).2).1)
          rw [hz]
        · rw [← h2]
          show (textF rest z).2 = (textF rest (charF c y).2).2
          rw [hz]
        · have : (charF c y).2 < 18446744073709551616 := by
            unfold charF
            split
            · exact escC_lt _ _ (askC_lt _ _ hy)
            · exact askC_lt _ _ hy
          rw [hz] at this
          exact this
        · rw [List.length_append, List.length_append, List.length_singleton]
          omega⟩
      obtain ⟨t, ht⟩ : ∃ t, t = bStr (34 :: out) := ⟨_, rfl⟩
      have hts : t.size ≤ 1300000 := by rw [ht, bStr_size, List.length_cons]; omega
      rw [← ht] at HEnd ⊢
      have HY := Aside0.mk hy
      have hc1 : c < 1114112 := hc.1
      have c0 : (0 : Int) ≤ (c : Int) := by omega
      have c1 : (c : Int) < 1114112 := by omega
      have HEn := Aside0.mk (encode_utf8 c)
      clear hrs2 h1 h2 hy hol hol2 hSt hit hU hpos hsz hdec hencT hlen hpe hW1 hp1 hp0 hdl hc ht
      go_wp2_with fail
      refine (HSh.out c _).mono ?_
      rintro e w1 ⟨rfl, rfl⟩
      clear hnx
      have HC := Aside0.mk (And.intro c1 hc1)
      clear c1 hc1
      go_upto_region 6 with (fail)
      go_cut [9] from 18 to 27 (fun x9 wx => x9 = .bool (mustC c) ∧ W1 = wx)
      case first =>
        by_cases h32 : c < 32
        · have HM : Aside0 (mustC c = true) := ⟨by unfold mustC; rw [decide_eq_true h32]; rfl⟩
          have q1 : decide ((c : Int) < 32) = true := decide_eq_true (by omega)
          clear h32
          go_wp2
          go_meet
          exact ⟨by rw [HM.out], rfl⟩
        · by_cases h34 : c = 34
          · have HM : Aside0 (mustC c = true) := ⟨by unfold mustC; rw [decide_eq_true h34, Bool.or_true, Bool.true_or]⟩
            have q1 : decide ((c : Int) < 32) = false := decide_eq_false (by omega)
            have q2 : ((c : Int) == 34) = true := by rw [beq_iff_eq]; omega
            clear h32 h34
            go_wp2
            go_meet
            exact ⟨by rw [HM.out], rfl⟩
          · by_cases h92 : c = 92
            · have HM : Aside0 (mustC c = true) := ⟨by unfold mustC; rw [decide_eq_true h92, Bool.or_true]⟩
              have q1 : decide ((c : Int) < 32) = false := decide_eq_false (by omega)
              have q2 : ((c : Int) == 34) = false := by rw [beq_eq_false_iff_ne]; omega
              have q3 : ((c : Int) == 92) = true := by rw [beq_iff_eq]; omega
              clear h32 h34 h92
              go_wp2
              go_meet
              exact ⟨by rw [HM.out], rfl⟩
            · have HM : Aside0 (mustC c = false) := ⟨by unfold mustC; rw [decide_eq_false h32, decide_eq_false h34, decide_eq_false h92]; rfl⟩
              have q1 : decide ((c : Int) < 32) = false := decide_eq_false (by omega)
              have q2 : ((c : Int) == 34) = false := by rw [beq_eq_false_iff_ne]; omega
              have q3 : ((c : Int) == 92) = false := by rw [beq_eq_false_iff_ne]; omega
              clear h32 h34 h92
              go_wp2
              go_meet
              exact ⟨by rw [HM.out], rfl⟩
      case rest =>
        obtain ⟨rfl, rfl⟩ := hcut
        go_upto_region 7 with (fail)
        obtain ⟨mu, hmu⟩ : ∃ b, b = mustC c := ⟨_, rfl⟩
        rw [← hmu]
        have HMu := Aside0.mk hmu
        clear hmu
        go_cut [10] from 28 to 40 (fun x10 wx => x10 = .bool (askC c y).1 ∧ StyAt wx g (askC c y).2 ∧ wx.heap[k]? = some (.stringIter T p1) ∧ Upd w wx (StyC g))
        case first =>
          cases mu with
          | true =>
            have HA : Aside0 (askC c y = (true, y)) := ⟨by unfold askC; rw [← HMu.out, if_pos rfl]⟩
            go_wp2
            go_meet
            exact ⟨by rw [HA.out], by rw [HA.out]; exact hS1.out, hI1.out, hU1.out⟩
          | false =>
            by_cases h0 : y = 0
            · obtain ⟨z1, z2⟩ := nn_eq h0
              have HA : Aside0 (askC c y = (false, 0)) := ⟨by unfold askC; rw [← HMu.out, if_neg Bool.false_ne_true, if_pos h0]⟩
              have HS0 : Aside0 (StyAt W1 g 0) := ⟨h0 ▸ hS1.out⟩
              have hcell := hS1.out.c
              clear h0
              go_wp2
              go_meet
              exact ⟨by rw [HA.out], by rw [HA.out]; exact HS0.out, hI1.out, hU1.out⟩
            · obtain ⟨z1, z2⟩ := nn_ne h0
              have HA : Aside0 (askC c y = (decide (dr y 5 = 0), nxt y)) := ⟨by unfold askC; rw [← HMu.out, if_neg Bool.false_ne_true, if_neg h0]⟩
              have HN := Aside0.mk (next_any W1 g y 5 hS1.out HY.out (by omega) (by omega))
              have hcell := hS1.out.c
              obtain ⟨d, hd⟩ : ∃ d, d = dr y 5 := ⟨_, rfl⟩
              rw [← hd] at HN HA
              clear hd h0
              by_cases hd0 : d = 0
              · have q0 : ((d : Int) == 0) = true := by subst hd0; rfl
                have HD : Aside0 (decide (d = 0) = true) := ⟨decide_eq_true hd0⟩
                clear hd0
                go_wp2_with fail
                refine HN.out.mono ?_
                rintro e w2 ⟨rfl, hS2⟩
                have HS2 := Aside0.mk hS2
                clear hS2 hcell
                go_wp2
                go_meet
                exact ⟨by rw [HA.out]; exact congrArg _ HD.out.symm, by rw [HA.out]; exact HS2.out.1, HS2.out.iter hI1.out hgk, hU1.out.trans HS2.out.2 (fun _ _ _ h => h) (fun _ _ _ h => h)⟩
              · have q0 : ((d : Int) == 0) = false := by rw [beq_eq_false_iff_ne]; omega
                have HD : Aside0 (decide (d = 0) = false) := ⟨decide_eq_false hd0⟩
                clear hd0
                go_wp2_with fail
                refine HN.out.mono ?_
                rintro e w2 ⟨rfl, hS2⟩
                have HS2 := Aside0.mk hS2
                clear hS2 hcell
                go_wp2
                go_meet
                exact ⟨by rw [HA.out]; exact congrArg _ HD.out.symm, by rw [HA.out]; exact HS2.out.1, HS2.out.iter hI1.out hgk, hU1.out.trans HS2.out.2 (fun _ _ _ h => h) (fun _ _ _ h => h)⟩
        case rest =>
          obtain ⟨rfl, hSx, hIx, hUx⟩ := hcut
          have HW := Aside0.mk (And.intro hSx (And.intro hIx hUx))
          have HZ := Aside0.mk (askC_lt c y HY.out)
          have HAs : Aside0 (∀ b z, askC c y = (b, z) → charF c y = if b = true then escC c z else (utf8 c, z)) := ⟨fun b z hb => by unfold charF; rw [hb]⟩
          obtain ⟨b, z, hbz⟩ : ∃ b z, askC c y = (b, z) := ⟨_, _, rfl⟩
          rw [hbz] at HW HZ ⊢
          have HCh := Aside0.mk (HAs.out b z hbz)
          clear hSx hIx hUx hbz HAs
          cases b with
          | false =>
            obtain ⟨u, hu⟩ : ∃ u, u = bStr (utf8 c) := ⟨_, rfl⟩
            have hus : u.size ≤ 4 := by rw [hu, bStr_size]; exact (utf8_bds c).2
            have hen := HEn.out
            rw [← hu] at hen
            have HU := Aside0.mk hu
            clear hu
            go_wp2
            go_roundw
            case rel => rw [HU.out]; exact HEnd.out _ _ HCh.out _ HW.out.1 HW.out.2.1 HW.out.2.2
            case measure => exact HMs.out _ HW.out.2.1
          | true =>
            cases hsh : shortC c with
            | none =>
              have HE : Aside0 (charF c y = (escN c, z)) := ⟨by rw [HCh.out]; show escC c z = _; unfold escC; rw [hsh]⟩
              have hs8 : bStr (shortB c) = ByteArray.empty := by unfold shortB; rw [hsh]; rfl
              rw [hs8]
              clear hs8 hsh
              by_cases hbig : 65536 ≤ c
              · obtain ⟨a, ha⟩ : ∃ a, a = c - 65536 := ⟨_, rfl⟩
                have hc2 := HC.out.2
                have HEs : Aside0 (escN c = hexE (55296 + a / 1024) ++ hexE (56320 + a % 1024)) := ⟨by unfold escN; rw [if_pos hbig, ha]⟩
                have H1 := Aside0.mk (fun w => HHx.out (55296 + a / 1024) w (by omega))
                have H2 := Aside0.mk (fun w => HHx.out (56320 + a % 1024) w (by omega))
                obtain ⟨xa, hxa⟩ : ∃ x : Nat, x = 55296 + a / 1024 := ⟨_, rfl⟩
                obtain ⟨ya, hya⟩ : ∃ y : Nat, y = 56320 + a % 1024 := ⟨_, rfl⟩
                rw [← hxa] at H1 HEs
                rw [← hya] at H2 HEs
                have hge : (65536 : Int) ≤ (c : Int) := by omega
                have hlt2 : (c : Int) < 1114112 := by omega
                have e1 : (c : Int) - 65536 = (a : Int) := by omega
                have e2 : (55296 : Int) + (a : Int) / 1024 = (xa : Int) := by omega
                have e3 : bits .and .i32 (a : Int) 1023 = ((a % 1024 : Nat) : Int) := by
                  rw [show (1023 : Int) = ((1023 : Nat) : Int) from rfl, i32_and a 1023 (by omega) (by omega), show (1023 : Nat) = 2 ^ 10 - 1 by decide, Nat.and_two_pow_sub_one_eq_mod]
                have e4 : (56320 : Int) + ((a % 1024 : Nat) : Int) = (ya : Int) := by omega
                obtain ⟨za, hza⟩ : ∃ z : Nat, z = a % 1024 := ⟨_, rfl⟩
                rw [← hza] at e3 e4
                obtain ⟨u, hu⟩ : ∃ u, u = bStr (hexE xa) := ⟨_, rfl⟩
                obtain ⟨v, hv⟩ : ∃ v, v = bStr (hexE ya) := ⟨_, rfl⟩
                have hus : u.size ≤ 10 := by rw [hu, bStr_size]; show 6 ≤ 10; omega
                have hvs : v.size ≤ 10 := by rw [hv, bStr_size]; show 6 ≤ 10; omega
                have huv : (u ++ v).size ≤ 20 := by rw [ByteArray.size_append]; omega
                rw [← hu] at H1
                rw [← hv] at H2
                have hzl : za < 1024 := by omega
                have hal : a < 1048576 := by omega
                have HX := Aside0.mk (And.intro hu hv)
                clear ha hxa hya hza hu hv hbig hc2
                go_wp2_with fail
                refine (H1.out _).mono ?_
                rintro e w3 ⟨rfl, rfl⟩
                go_wp2_with fail
                refine (H2.out _).mono ?_
                rintro e w3 ⟨rfl, rfl⟩
                go_wp2
                go_roundw
                case rel =>
                  have := HEnd.out _ _ HE.out _ HW.out.1 HW.out.2.1 HW.out.2.2
                  rw [HEs.out, ← bStr_app, ← HX.out.1, ← HX.out.2] at this
                  exact this
                case measure => exact HMs.out _ HW.out.2.1
              · have HE2 : Aside0 (charF c y = (hexE c, z)) := ⟨by rw [HE.out, escN_small hbig]⟩
                clear HE
                have HX := Aside0.mk (fun w => HHx.out c w (by have := HC.out.2; omega))
                have hge : ((65536 : Int) ≤ (c : Int)) = False := eq_false (by omega)
                obtain ⟨u, hu⟩ : ∃ u, u = bStr (hexE c) := ⟨_, rfl⟩
                have hus : u.size ≤ 6 := by rw [hu, bStr_size]; exact Nat.le_refl _
                rw [← hu] at HX
                have HU := Aside0.mk hu
                clear hu hbig
                go_wp2_with fail
                refine (HX.out _).mono ?_
                rintro e w3 ⟨rfl, rfl⟩
                go_wp2
                go_roundw
                case rel => rw [HU.out]; exact HEnd.out _ _ HE2.out _ HW.out.1 HW.out.2.1 HW.out.2.2
                case measure => exact HMs.out _ HW.out.2.1
            | some l =>
              have hsm := short_small hsh
              have HE : Aside0 (charF c y = if z = 0 then ([92, l], 0) else if dr z 2 = 0 then ([92, l], nxt z) else (escN c, nxt z)) := ⟨by rw [HCh.out]; show escC c z = _; unfold escC; rw [hsh]⟩
              have hs8 : bStr (shortB c) = bStr [92, l] := by unfold shortB; rw [hsh]
              rw [hs8]
              obtain ⟨s8, hs9⟩ : ∃ s, s = bStr [92, l] := ⟨_, rfl⟩
              have n1 : s8.toList = [92, l] := by rw [hs9]; exact ByteArray.toList_mk _
              have hne1 : (s8.toList != []) = true := by rw [n1]; rfl
              have hne2 : (s8.toList = []) = False := eq_false (by rw [n1]; simp)
              have hne3 : s8.toList.isEmpty = false := by rw [n1]; rfl
              have hs8z : s8.size ≤ 2 := by rw [hs9]; exact Nat.le_refl _
              have HS8 := Aside0.mk hs9
              rw [← hs9]
              clear hs8 hsh hs9 n1
              have hcell := HW.out.1.c
              by_cases h0 : z = 0
              · obtain ⟨z1, z2⟩ := nn_eq h0
                have HE2 : Aside0 (charF c y = ([92, l], 0)) := ⟨by rw [HE.out, if_pos h0]⟩
                have hw0 := HW.out.1
                rw [h0] at hw0
                have HW0 := Aside0.mk hw0
                clear hw0
                clear h0 hsm
                go_wp2
                go_roundw
                case rel => rw [HS8.out]; exact HEnd.out _ _ HE2.out _ HW0.out HW.out.2.1 HW.out.2.2
                case measure => exact HMs.out _ HW.out.2.1
              · obtain ⟨z1, z2⟩ := nn_ne h0
                have HN := Aside0.mk (next_any _ g z 2 HW.out.1 HZ.out (by omega) (by omega))
                obtain ⟨d, hd⟩ : ∃ d, d = dr z 2 := ⟨_, rfl⟩
                rw [← hd] at HN HE
                rw [if_neg h0] at HE
                clear hd h0
                by_cases hd0 : d = 0
                · have q0 : ((d : Int) == 0) = true := by subst hd0; rfl
                  have HE2 : Aside0 (charF c y = ([92, l], nxt z)) := ⟨by rw [HE.out, if_pos hd0]⟩
                  clear hd0 hsm
                  go_wp2_with fail
                  refine HN.out.mono ?_
                  rintro e w2 ⟨rfl, hS2⟩
                  have HS2 := Aside0.mk (And.intro hS2.1 (And.intro (hS2.iter HW.out.2.1 hgk) (HW.out.2.2.trans hS2.2 (fun _ _ _ h => h) (fun _ _ _ h => h))))
                  clear hS2 hcell
                  go_wp2
                  go_roundw
                  case rel => rw [HS8.out]; exact HEnd.out _ _ HE2.out _ HS2.out.1 HS2.out.2.1 HS2.out.2.2
                  case measure => exact HMs.out _ HS2.out.2.1
                · have q0 : ((d : Int) == 0) = false := by rw [beq_eq_false_iff_ne]; omega
                  have hbig : ¬ 65536 ≤ c := by omega
                  have HE2 : Aside0 (charF c y = (hexE c, nxt z)) := ⟨by rw [HE.out, if_neg hd0, escN_small hbig]⟩
                  clear hd0 HE
                  go_wp2_with fail
                  refine HN.out.mono ?_
                  rintro e w2 ⟨rfl, hS2⟩
                  have HS2 := Aside0.mk (And.intro hS2.1 (And.intro (hS2.iter HW.out.2.1 hgk) (HW.out.2.2.trans hS2.2 (fun _ _ _ h => h) (fun _ _ _ h => h))))
                  clear hS2 hcell hne1 hne2 hne3
                  have HX := Aside0.mk (fun w => HHx.out c w (by have := HC.out.2; omega))
                  have hge : ((65536 : Int) ≤ (c : Int)) = False := eq_false (by omega)
                  obtain ⟨u, hu⟩ : ∃ u, u = bStr (hexE c) := ⟨_, rfl⟩
                  have hus : u.size ≤ 6 := by rw [hu, bStr_size]; exact Nat.le_refl _
                  rw [← hu] at HX
                  have HU := Aside0.mk hu
                  clear hu hbig hsm
                  go_wp2_with fail
                  refine (HX.out _).mono ?_
                  rintro e w3 ⟨rfl, rfl⟩
                  go_wp2
                  go_roundw
                  case rel => rw [HU.out]; exact HEnd.out _ _ HE2.out _ HS2.out.1 HS2.out.2.1 HS2.out.2.2
                  case measure => exact HMs.out _ HS2.out.2.1
end Go.Proofs.YtgldcjmdjhghpaaGreatDoor
