/-
  spec's headStyle.value of any field, and HeadText: their contracts. Printed by textgen.py.
-/
import Derived.Test.YtdldblfklalaeaaGreatDoorHv
namespace Go.Proofs.YtdldblfklalaeaaGreatDoor
open Go.RowKit Go.Proofs.YtdldblfklalaeaaGreatDoorW.PrintWords Go.ChangeShapes Go.WideShapes
set_option linter.unusedVariables false
set_option linter.unusedSimpArgs false
set_option maxRecDepth 100000
theorem value_any (w : World) (g x : Nat) (f : Hf) (A : Option Addr) (c : Nat) (hf : FOk f) (h : StyAt w g x) (hx : x < 18446744073709551616) (hC : Kd.string.C w A f.2.2.2.2.2.2.length f.2.2.2.2.2.2) (hle : f.2.2.2.2.2.2.length ≤ c) (hA : 0 < f.2.2.2.2.2.2.length → ∀ a, A = some a → a.block ≠ g) :
    Calls Tryz.prog 61 #[.pointer (some ⟨g, 0, none⟩), .agg (hfCells f A c)] w fun e w' => e = .returned (.string (bStr (valF f x).1)) ∧ Sty w g (valF f x).2 w' := by
  obtain ⟨nm, kd, is, mi, nu, tx, li⟩ := f
  have hk0 : 0 ≤ kd := hf.k0
  have hk6 : kd ≤ 6 := hf.k6
  have hn0 : 0 ≤ nu := hf.n0
  have hn1 : nu < 18446744073709551616 := hf.n1
  obtain ⟨n, rfl⟩ := Int.eq_ofNat_of_zero_le hn0
  rcases (show kd = 0 ∨ kd = 1 ∨ kd = 2 ∨ kd = 3 ∨ kd = 4 ∨ kd = 5 ∨ kd = 6 by omega) with rfl | rfl | rfl | rfl | rfl | rfl | rfl
  · exact value0_any w g x nm is mi _ tx _ h hx
  · exact value1_any w g x nm is mi _ tx _ h hx
  · have := value2_any w g x nm is mi (n : Int) tx (.slice A li.length c) h hx n rfl (by omega)
    have e : valF (nm, 2, is, mi, (n : Int), tx, li) x = ((if (mi && decide (0 < n)) = true then [45] else []) ++ digF n, x) := by
      unfold valF
      simp only [Int.toNat_natCast]
      have hd : decide ((0 : Int) < (n : Int)) = decide (0 < n) := by congr 1; exact propext ⟨fun h => by omega, fun h => by omega⟩
      rw [if_neg (by decide), if_neg (by decide)]
      simp only [if_true, hd]
    rw [e]
    exact this
  · exact value3_any w g x nm is mi _ tx _ h hx hf.text
  · exact value4_any w g x nm is mi _ tx A c li h hx hf.len hf.list hC hle hA
  · exact value5_any w g x nm is mi _ tx _ h hx hf.text
  · exact value6_any w g x nm is mi _ tx A c li h hx hf.len hf.list hC hle hA
theorem valF_lt (f : Hf) (x : Nat) (h : x < 18446744073709551616) : (valF f x).2 < 18446744073709551616 := by
  have hit : ∀ k4 s y, y < 18446744073709551616 → (itemF k4 s y).2 < 18446744073709551616 := fun k4 s y hy => by
    unfold itemF
    split
    · exact blk_lt _ (quoF_lt _ _ hy)
    · exact blk_lt _ hy
  have hsq : ∀ (k4 : Bool) (l : List ByteArray) (b : Bool) (y : Nat), y < 18446744073709551616 → (seqF (itemF k4) b l y).2 < 18446744073709551616 := by
    intro k4 l
    induction l with
    | nil => intro b y hy; cases b <;> exact hy
    | cons s r ih =>
      intro b y hy
      cases b with
      | true => exact ih _ _ (hit _ _ _ hy)
      | false => exact ih _ _ (hit _ _ _ (blk_lt _ hy))
  unfold valF
  split
  · exact h
  split
  · exact h
  split
  · exact h
  split
  · exact quoF_lt _ _ h
  split
  · exact blk_lt _ (blk_lt _ (blk_lt _ (quoF_lt _ _ (blk_lt _ h))))
  · exact hsq _ _ _ _ (blk_lt _ h)
theorem valF_len {f : Hf} (hf : FOk f) (x : Nat) : (valF f x).1.length ≤ 5000000 := by
  have hsq : ∀ (k4 : Bool) (l : List ByteArray) (b : Bool) (y : Nat), (∀ s ∈ l, TOk s) → (seqF (itemF k4) b l y).1.length ≤ 140000 * l.length := by
    intro k4 l
    induction l with
    | nil => intro b y _; cases b <;> exact Nat.le_refl _
    | cons s r ih =>
      intro b y hl
      have hs := hl s (List.mem_cons_self ..)
      have hit : ∀ y, (itemF k4 s y).1.length ≤ 68000 := fun y => by
        unfold itemF
        split
        · have := quoF_len hs y
          have := blk_len (quoF s y).2
          simp only [List.length_append]
          omega
        · have := digF_len s.size
          have := blk_len y
          simp only [List.length_append]
          omega
      have hr := fun b y => ih b y (fun t ht => hl t (List.mem_cons_of_mem _ ht))
      cases b with
      | true =>
        have h1 := hit y
        have h2 := hr false (itemF k4 s y).2
        show ((itemF k4 s y).1 ++ (seqF (itemF k4) false r (itemF k4 s y).2).1).length ≤ _
        rw [List.length_append, List.length_cons]
        omega
      | false =>
        have h1 := hit (blk y).2
        have h2 := hr false (itemF k4 s (blk y).2).2
        have h3 := blk_len y
        show (44 :: ((blk y).1 ++ ((itemF k4 s (blk y).2).1 ++ (seqF (itemF k4) false r (itemF k4 s (blk y).2).2).1))).length ≤ _
        simp only [List.length_append, List.length_cons]
        omega
  have hlst : ∀ k4 y, (listF k4 f.2.2.2.2.2.2 y).1.length ≤ 5000000 := fun k4 y => by
    have h1 := hsq k4 f.2.2.2.2.2.2 true (blk y).2 hf.list
    have h2 := blk_len y
    have h3 := hf.len
    unfold listF
    simp only [List.length_append, List.length_cons, List.length_nil]
    omega
  unfold valF
  split
  · show 4 ≤ 5000000
    decide
  split
  · split
    · show 4 ≤ 5000000
      decide
    · show 5 ≤ 5000000
      decide
  split
  · have := digF_len f.2.2.2.2.1.toNat
    rw [List.length_append]
    split
    · simp only [List.length_cons, List.length_nil]; omega
    · simp only [List.length_nil]; omega
  split
  · have := quoF_len hf.text x; omega
  split
  · unfold nestF
    have h1 := blk_len x
    have h2 := quoF_len hf.text (blk x).2
    have h3 := blk_len (quoF f.2.2.2.2.2.1 (blk x).2).2
    have h4 := blk_len (blk (quoF f.2.2.2.2.2.1 (blk x).2).2).2
    have h5 := blk_len (blk (blk (quoF f.2.2.2.2.2.1 (blk x).2).2).2).2
    simp only [List.length_append, List.length_cons, List.length_nil]
    omega
  · exact hlst _ _
def fld8Val (g b : Nat) (cs : Array Value) (nm t6 s1 s2 s3 s4 s5 a39 a40 a43 a47 a50 a51 : ByteArray) (d : Nat) : Value :=
  match d with
  | 32 => .string t6
  | 33 => .pointer (some ⟨g, 0, none⟩)
  | 34 => .pointer (some ⟨b, 0, none⟩)
  | 35 => .string nm
  | 36 => .string s1
  | 37 => .pointer (some ⟨g, 0, none⟩)
  | 38 => .string s2
  | 39 => .string a39
  | 40 => .string a40
  | 41 => .pointer (some ⟨g, 0, none⟩)
  | 42 => .string s3
  | 43 => .string a43
  | 44 => .pointer (some ⟨g, 0, none⟩)
  | 45 => .agg cs
  | 46 => .string s4
  | 47 => .string a47
  | 48 => .pointer (some ⟨g, 0, none⟩)
  | 49 => .string s5
  | 50 => .string a50
  | 51 => .string a51
  | 6 => .string a51
  | _ => undef
def fld8Rd (i : Nat) : List (Nat × Nat) :=
  match i with
  | 0 => [(20, 6)]
  | _ => []
def fld8Dp (i : Nat) : List (Nat × Nat) :=
  match i with
  | 3 => [(2, 34)]
  | 4 => [(1, 33), (3, 35)]
  | 6 => [(5, 37)]
  | 7 => [(4, 36), (6, 38)]
  | 8 => [(7, 39)]
  | 10 => [(9, 41)]
  | 11 => [(8, 40), (10, 42)]
  | 14 => [(12, 44), (13, 45)]
  | 15 => [(11, 43), (14, 46)]
  | 17 => [(16, 48)]
  | 18 => [(15, 47), (17, 49)]
  | 19 => [(0, 32), (18, 50)]
  | 20 => [(19, 51)]
  | _ => []
theorem cell_lt {w : World} {p : Addr} {v : Value} (h : w.cell? p = some v) : p.block < w.heap.size := by
  cases hq : w.heap[p.block]? with
  | none => simp [World.cell?, hq] at h
  | some o => exact (Array.getElem?_eq_some_iff.1 hq).1
theorem fieldF_len {f : Hf} (hf : FOk f) (x : Nat) : (fieldF f x).1.length ≤ 5300000 := by
  have h1 := quoF_len hf.name x
  have h2 := blk_len (quoF f.1 x).2
  have h3 := blk_len (blk (quoF f.1 x).2).2
  have h4 := valF_len hf (blk (blk (quoF f.1 x).2).2).2
  have h5 := blk_len (valF f (blk (blk (quoF f.1 x).2).2).2).2
  unfold fieldF
  simp only [List.length_append, List.length_cons]
  omega
/-- Where the writing of a header stands. -/
def HeadRel (w : World) (g : Nat) (l : List Hf) (x : Nat) (s6 s20 : Value) (wr : World) : Prop :=
  ∃ (i y : Nat) (acc : Bs), s20 = .int .i64 (i : Int) ∧ i ≤ l.length ∧ s6 = .string (bStr acc) ∧ acc ++ ((seqF fieldF (decide (i = 0)) (l.drop i) y).1 ++ 125 :: (blk (seqF fieldF (decide (i = 0)) (l.drop i) y).2).1) = headF l x ∧ y < 18446744073709551616 ∧ StyAt wr g y ∧ Below w.heap.size w wr ∧ acc.length ≤ 200000 + 5400000 * i
set_option maxHeartbeats 16000000 in
theorem headText_any (w : World) (A : Option Addr) (n0 c0 x : Nat) (l : List Hf) (hC : kHf.C w A n0 l) (hl : l.length ≤ 30) (hf : ∀ f ∈ l, FOk f) (hx : x < 18446744073709551616) :
    Calls Tryz.prog 22 #[.slice A n0 c0, .int .u64 (x : Int)] w fun e w' => e = .returned (.string (bStr (headF l x))) ∧ Below w.heap.size w w' := by
  obtain rfl : n0 = l.length := hC.1.symm
  obtain ⟨W0, hW0⟩ : ∃ W, W = w.alloc (.cells #[.int .u64 (x : Int)] 77) := ⟨_, rfl⟩
  obtain ⟨g, hg⟩ : ∃ g, g = w.heap.size := ⟨_, rfl⟩
  have hS0 : StyAt W0 g x := ⟨⟨_, by rw [hW0, hg]; exact blk_new w _⟩, by rw [hW0, hg, World.cell?_alloc_new]; rfl⟩
  have hb0 : Below w.heap.size w W0 := by rw [hW0]; exact (Below.refl _ _).alloc (Nat.le_refl _) _
  have hux := Tryz.underlying45
  have HB1 := Aside0.mk (fun (wz : World) (hS : StyAt wz g x) => blank_any wz g x hS hx)
  have HB2 := Aside0.mk (fun (wz : World) (hS : StyAt wz g (blk x).2) => blank_any wz g (blk x).2 hS (blk_lt _ hx))
  have HBl := Aside0.mk (fun (wz : World) (y : Nat) (hS : StyAt wz g y) (hy : y < 18446744073709551616) => blank_any wz g y hS hy)
  have hbs : ∀ {wa wb : World} {y : Nat}, Below w.heap.size w wa → Sty wa g y wb → Below w.heap.size w wb := fun {wa wb y} h1 h2 => h1.trans (h2.2.below w.heap.size h1.size (fun b o hb hh => by have := hh.1; omega))
  have HBs := Aside0.mk @hbs
  obtain ⟨s1, hs1⟩ : ∃ t, t = bStr (blk x).1 := ⟨_, rfl⟩
  obtain ⟨s2, hs2⟩ : ∃ t, t = bStr (blk (blk x).2).1 := ⟨_, rfl⟩
  have z1 : s1.size ≤ 65537 := by rw [hs1, bStr_size]; exact blk_len _
  have z2 : s2.size ≤ 65537 := by rw [hs2, bStr_size]; exact blk_len _
  have z3 : (s1 ++ (⟨#[123]⟩ : ByteArray)).size ≤ 65538 := by rw [ByteArray.size_append]; show _ + 1 ≤ _; omega
  rw [← hs1] at HB1
  rw [← hs2] at HB2
  have H0 : Aside0 (∀ wz, StyAt wz g (blk (blk x).2).2 → Below w.heap.size w wz → HeadRel w g l x (.string (s1 ++ (⟨#[123]⟩ : ByteArray) ++ s2)) (.int .i64 0) wz) := ⟨fun wz hS hb => ⟨0, (blk (blk x).2).2, (blk x).1 ++ 123 :: (blk (blk x).2).1, rfl, Nat.zero_le _, by
      rw [hs1, hs2]
      show Value.string (_ ++ bStr [123] ++ _) = _
      simp only [bStr_app, List.append_assoc, List.cons_append, List.nil_append], by
      unfold headF
      simp only [decide_true, List.drop_zero, List.append_assoc, List.cons_append], blk_lt _ (blk_lt _ hx), hS, hb, by
      have := blk_len x
      have := blk_len (blk x).2
      simp only [List.length_append, List.length_cons]
      omega⟩⟩
  have HS0 := Aside0.mk (And.intro hS0 hb0)
  have HC := Aside0.mk hC
  have HF := Aside0.mk hf
  have HW := Aside0.mk hW0
  have HG := Aside0.mk hg
  obtain ⟨n, hn⟩ : ∃ n, n = l.length := ⟨_, rfl⟩
  have HN := Aside0.mk hn
  have hn30 : n ≤ 30 := by omega
  have hm : n ≤ 9223372036854775807 := by omega
  rw [← hn]
  clear hC hl hf hx hW0 hg hS0 hb0 hs1 hs2 hn hbs
  go_enter Tryz.func22, Tryz.ntmps22
  go_upto_region 2 with (fail)
  rw [← HW.out, ← HG.out]
  go_wp2_with fail
  refine (HB1.out _ HS0.out.1).mono ?_
  rintro e w1 ⟨rfl, hS1⟩
  have HS1 := Aside0.mk (And.intro hS1.1 (HBs.out HS0.out.2 hS1))
  clear hS1
  go_wp2_with fail
  refine (HB2.out _ HS1.out.1).mono ?_
  rintro e w2 ⟨rfl, hS2⟩
  have HS2 := Aside0.mk (And.intro hS2.1 (HBs.out HS1.out.2 hS2))
  clear hS2
  go_upto_region 4 with (fail)
  go_loopw [6, 20] (fun s6 s20 wr => HeadRel w g l x s6 s20 wr) (fun _ s20 _ => n - (intOf s20).toNat)
  case atStart => exact H0.out _ HS2.out.1 HS2.out.2
  case round =>
    clear H0 HB1 HB2 z1 z2 z3
    obtain ⟨i, y, acc, rfl, hi, rfl, h1, hy, hSt, hBe, hal⟩ := hrel
    rw [← HN.out] at hi
    by_cases hlt : i < n
    · have hil : i < l.length := by rw [← HN.out]; exact hlt
      obtain ⟨ad, A1, c1, rfl, hcs⟩ := HcIs.get (Kd.C_below HC.out hBe) i hil
      obtain ⟨f, hff⟩ : ∃ f, f = l[i] := ⟨_, rfl⟩
      have hfok : FOk f := by rw [hff]; exact HF.out _ (List.getElem_mem hil)
      rw [← hff] at hcs
      have hdrop : l.drop i = f :: l.drop (i + 1) := by rw [hff]; exact List.drop_eq_getElem_cons hil
      rw [hdrop] at h1
      obtain ⟨hCl, hle, e0, e1, e2, e3, e4, e5, e6⟩ := hcs
      -- where the list of the field lies
      have hClw := HcIs.get HC.out i hil
      obtain ⟨ad', A1', c1', ead, hcs'⟩ := hClw
      injection ead with ead
      subst ead
      rw [← hff] at hcs'
      have hA1 : 0 < f.2.2.2.2.2.2.length → ∀ a, A1 = some a → a.block ≠ g := fun hn a ha => by
        have hsame : A1' = A1 := by
          have q1 := hcs'.e6
          have hlt6 : (ad.add (i * 7)).block < w.heap.size := cell_lt (p := ⟨(ad.add (i * 7)).block, (ad.add (i * 7)).off + 6, none⟩) q1
          have q2 := (hBe.cell (p := ⟨(ad.add (i * 7)).block, (ad.add (i * 7)).off + 6, none⟩) hlt6).symm.trans e6
          rw [q1] at q2
          injection q2 with q2
          injection q2
        rw [← hsame] at ha
        obtain ⟨a2, ha2, hc2⟩ := hcs'.hC.2.2 hn
        rw [ha] at ha2
        injection ha2 with ha2
        subst ha2
        obtain ⟨p, hp⟩ : ∃ p, f.2.2.2.2.2.2[0]? = some p := ⟨_, List.getElem?_eq_getElem hn⟩
        obtain ⟨cs, hcl, hK, hcc⟩ := hc2 0 p hp
        have hcs1 : cs = [.string p] := hK
        have h4 := hcc 0 (.string p) (by rw [hcs1]; rfl)
        have hb : (a.add (0 * Kd.string.sz + 0)).block = a.block := by unfold Addr.add; split <;> rfl
        have : a.block < w.heap.size := by
          rw [← hb]
          exact cell_lt h4
        have := HG.out
        omega
      obtain ⟨b, hb⟩ : ∃ b, b = wr.heap.size := ⟨_, rfl⟩
      obtain ⟨W, hW⟩ : ∃ W, W = wr.alloc (.cells (hfCells f A1 c1) 45) := ⟨_, rfl⟩
      have hWb : Below wr.heap.size wr W := by rw [hW]; exact (Below.refl _ _).alloc (Nat.le_refl _) _
      have HStW := Aside0.mk (hSt.on hWb)
      have HBW := Aside0.mk (hBe.trans (hWb.mono hBe.size))
      have HBx : Aside0 (BoxIs W b f.1 f.2.1 f.2.2.1 f.2.2.2.1 f.2.2.2.2.1 f.2.2.2.2.2.1 (.slice A1 f.2.2.2.2.2.2.length c1) ∧ b ≠ g) := ⟨by rw [hW, hb]; exact BoxIs.new wr _ _ _ _ _ _ _, by have := blkT_lt hSt.ty; omega⟩
      have HCl := Aside0.mk (And.intro (Kd.C_below hCl hWb) (And.intro hle hA1))
      have HYl := Aside0.mk hy
      have HFk := Aside0.mk hfok
      obtain ⟨tt, htt⟩ : ∃ t, t = bStr acc := ⟨_, rfl⟩
      have hts : tt.size ≤ 200000000 := by rw [htt, bStr_size]; omega
      rw [← htt]
      -- the comma
      obtain ⟨cm, hcm⟩ : ∃ cm : Bs × Nat, cm = if i = 0 then ([], y) else (44 :: (blk y).1, (blk y).2) := ⟨_, rfl⟩
      have hcl : cm.1.length ≤ 65538 := by
        rw [hcm]
        split
        · simp
        · have := blk_len y
          simp only [List.length_cons]
          omega
      have hy1 : cm.2 < 18446744073709551616 := by
        rw [hcm]
        split
        · exact hy
        · exact blk_lt _ hy
      have hseq : seqF fieldF (decide (i = 0)) (f :: l.drop (i + 1)) y = (cm.1 ++ ((fieldF f cm.2).1 ++ (seqF fieldF false (l.drop (i + 1)) (fieldF f cm.2).2).1), (seqF fieldF false (l.drop (i + 1)) (fieldF f cm.2).2).2) := by
        rw [hcm]
        by_cases h0 : i = 0
        · rw [decide_eq_true h0, if_pos h0]; rfl
        · rw [decide_eq_false h0, if_neg h0]; rfl
      rw [hseq] at h1
      obtain ⟨cc, y1⟩ := cm
      simp only at h1 hcl hy1
      obtain ⟨t6, hT⟩ : ∃ t, t = tt ++ bStr cc := ⟨_, rfl⟩
      have hTs : t6.size ≤ 200100000 := by rw [hT, ByteArray.size_append, bStr_size]; omega
      obtain ⟨y2, hy2⟩ : ∃ y, y = (quoF f.1 y1).2 := ⟨_, rfl⟩
      obtain ⟨y3, hy3⟩ : ∃ y, y = (blk y2).2 := ⟨_, rfl⟩
      obtain ⟨y4, hy4⟩ : ∃ y, y = (blk y3).2 := ⟨_, rfl⟩
      obtain ⟨y5, hy5⟩ : ∃ y, y = (valF f y4).2 := ⟨_, rfl⟩
      obtain ⟨y6, hy6⟩ : ∃ y, y = (blk y5).2 := ⟨_, rfl⟩
      have l2 : y2 < 18446744073709551616 := by rw [hy2]; exact quoF_lt _ _ hy1
      have l3 : y3 < 18446744073709551616 := by rw [hy3]; exact blk_lt _ l2
      have l4 : y4 < 18446744073709551616 := by rw [hy4]; exact blk_lt _ l3
      have l5 : y5 < 18446744073709551616 := by rw [hy5]; exact valF_lt _ _ l4
      obtain ⟨s1, hs1⟩ : ∃ t, t = bStr (quoF f.1 y1).1 := ⟨_, rfl⟩
      obtain ⟨s2, hs2⟩ : ∃ t, t = bStr (blk y2).1 := ⟨_, rfl⟩
      obtain ⟨s3, hs3⟩ : ∃ t, t = bStr (blk y3).1 := ⟨_, rfl⟩
      obtain ⟨s4, hs4⟩ : ∃ t, t = bStr (valF f y4).1 := ⟨_, rfl⟩
      obtain ⟨s5, hs5⟩ : ∃ t, t = bStr (blk y5).1 := ⟨_, rfl⟩
      have z1 : s1.size ≤ 2402 := by rw [hs1, bStr_size]; exact quoF_len hfok.name _
      have z2 : s2.size ≤ 65537 := by rw [hs2, bStr_size]; exact blk_len _
      have z3 : s3.size ≤ 65537 := by rw [hs3, bStr_size]; exact blk_len _
      have z4 : s4.size ≤ 5000000 := by rw [hs4, bStr_size]; exact valF_len hfok _
      have z5 : s5.size ≤ 65537 := by rw [hs5, bStr_size]; exact blk_len _
      obtain ⟨a39, c39⟩ : ∃ t, s1 ++ s2 = t := ⟨_, rfl⟩
      obtain ⟨a40, c40⟩ : ∃ t, a39 ++ (⟨#[58]⟩ : ByteArray) = t := ⟨_, rfl⟩
      obtain ⟨a43, c43⟩ : ∃ t, a40 ++ s3 = t := ⟨_, rfl⟩
      obtain ⟨a47, c47⟩ : ∃ t, a43 ++ s4 = t := ⟨_, rfl⟩
      obtain ⟨a50, c50⟩ : ∃ t, a47 ++ s5 = t := ⟨_, rfl⟩
      obtain ⟨a51, c51⟩ : ∃ t, t6 ++ a50 = t := ⟨_, rfl⟩
      have one : ∀ k : UInt8, (⟨#[k]⟩ : ByteArray).size = 1 := fun _ => rfl
      have w39 : a39.size ≤ 70000 := by rw [← c39, ByteArray.size_append]; omega
      have w40 : a40.size ≤ 70001 := by rw [← c40, ByteArray.size_append, one]; omega
      have w43 : a43.size ≤ 140001 := by rw [← c43, ByteArray.size_append]; omega
      have w47 : a47.size ≤ 5200000 := by rw [← c47, ByteArray.size_append]; omega
      have w50 : a50.size ≤ 5300000 := by rw [← c50, ByteArray.size_append]; omega
      have HNew : Aside0 (∀ wz, Sty W g y6 wz → HeadRel w g l x (.string a51) (.int .i64 ((i + 1 : Nat) : Int)) wz) := ⟨fun wz hS3 => by
        have hfe : (fieldF f y1).1 = (quoF f.1 y1).1 ++ ((blk y2).1 ++ 58 :: ((blk y3).1 ++ ((valF f y4).1 ++ (blk y5).1))) := by
          unfold fieldF
          simp only [hy2, hy3, hy4, hy5]
        have hfs : (fieldF f y1).2 = y6 := by
          unfold fieldF
          simp only [hy2, hy3, hy4, hy5, hy6]
        have hfl := fieldF_len hfok y1
        refine ⟨i + 1, y6, acc ++ (cc ++ (fieldF f y1).1), rfl, hil, ?_, ?_, ?_, hS3.1, HBs.out HBW.out hS3, ?_⟩
        · rw [← c51, ← c50, ← c47, ← c43, ← c40, ← c39, hT, htt, hs1, hs2, hs3, hs4, hs5, hfe]
          show Value.string (_ ++ (_ ++ _ ++ bStr [58] ++ _ ++ _ ++ _)) = _
          simp only [bStr_app, List.append_assoc, List.cons_append, List.nil_append]
        · rw [← h1, decide_eq_false (by omega : ¬ i + 1 = 0), hfs]
          simp only [List.append_assoc]
        · rw [hy6]; exact blk_lt _ l5
        · simp only [List.length_append]
          omega⟩
      have HCx : Aside0 ((∀ wc, Sty W g y1 wc → Calls Tryz.prog 60 #[.pointer (some ⟨g, 0, none⟩), .string f.1] wc fun e w' => e = .returned (.string s1) ∧ Sty wc g y2 w') ∧
          (∀ wc, Sty W g y2 wc → Calls Tryz.prog 49 #[.pointer (some ⟨g, 0, none⟩)] wc fun e w' => e = .returned (.string s2) ∧ Sty wc g y3 w') ∧
          (∀ wc, Sty W g y3 wc → Calls Tryz.prog 49 #[.pointer (some ⟨g, 0, none⟩)] wc fun e w' => e = .returned (.string s3) ∧ Sty wc g y4 w') ∧
          (∀ wc, Sty W g y4 wc → Calls Tryz.prog 61 #[.pointer (some ⟨g, 0, none⟩), .agg (hfCells f A1 c1)] wc fun e w' => e = .returned (.string s4) ∧ Sty wc g y5 w') ∧
          (∀ wc, Sty W g y5 wc → Calls Tryz.prog 49 #[.pointer (some ⟨g, 0, none⟩)] wc fun e w' => e = .returned (.string s5) ∧ Sty wc g y6 w')) :=
        ⟨fun wc hS => by rw [hs1, hy2]; exact quote_any wc g y1 f.1 hfok.name hS.1 hy1, fun wc hS => by rw [hs2, hy3]; exact blank_any wc g y2 hS.1 l2, fun wc hS => by rw [hs3, hy4]; exact blank_any wc g y3 hS.1 l3,
          fun wc hS => by rw [hs4, hy5]; exact value_any wc g y4 f A1 c1 hfok hS.1 l4 (C_sty HCl.out.1 hS HCl.out.2.2) HCl.out.2.1 HCl.out.2.2, fun wc hS => by rw [hs5, hy6]; exact blank_any wc g y5 hS.1 l5⟩
      have HCm : Aside0 ((i = 0 → cc = [] ∧ y1 = y) ∧ (i ≠ 0 → cc = 44 :: (blk y).1 ∧ y1 = (blk y).2)) := ⟨by
        by_cases h0 : i = 0
        · rw [if_pos h0] at hcm
          injection hcm with e1 e2
          exact ⟨fun _ => ⟨e1, e2⟩, fun hh => absurd h0 hh⟩
        · rw [if_neg h0] at hcm
          injection hcm with e1 e2
          exact ⟨fun hh => absurd hh h0, fun _ => ⟨e1, e2⟩⟩⟩
      have HTT := Aside0.mk hT
      have HWW := Aside0.mk hW
      have HBB := Aside0.mk hb
      have hlt1 : i + 1 ≤ n := hlt
      clear h1 hy hSt hBe hal hi hdrop hcm hseq htt hcl hT hy2 hy3 hy4 hy5 hy6 l2 l3 l4 l5 hs1 hs2 hs3 hs4 hs5 one hfok hWb hCl hle hA1 hcs' hff hW hb hy1
      go_upto_block 1 with (fail)
      go_cut [6] from 25 to 51 (fun x6 wx => x6 = .string a51 ∧ Sty W g y6 wx)
      case first =>
        rename_i J K1 hJ hK1
        go_upto_if 26 with (fail)
        go_cut [6] from 26 to 31 (fun x6 wx => x6 = .string t6 ∧ Sty W g y1 wx)
        case first =>
          by_cases h0 : i = 0
          · subst h0
            obtain ⟨rfl, rfl⟩ := HCm.out.1 rfl
            have hTT : t6 = tt := by rw [HTT.out]; exact ByteArray.append_empty
            have HE : Aside0 (Sty W g y1 (wr.alloc (.cells (hfCells f A1 c1) 45))) := ⟨by rw [← HWW.out]; exact Sty.refl HStW.out⟩
            go_wp2
            go_meet
            exact ⟨by rw [hTT], HE.out⟩
          · obtain ⟨rfl, rfl⟩ := HCm.out.2 h0
            have hi0 : 0 < i := by omega
            have HB4 := Aside0.mk (HBl.out _ _ HStW.out HYl.out)
            obtain ⟨sc, hsc⟩ : ∃ t, t = bStr (blk y).1 := ⟨_, rfl⟩
            have zc : sc.size ≤ 65537 := by rw [hsc, bStr_size]; exact blk_len _
            have hsz2 : ((⟨#[44]⟩ : ByteArray) ++ sc).size ≤ 65538 := by rw [ByteArray.size_append]; show 1 + _ ≤ _; omega
            have hTT : Aside0 (t6 = tt ++ ((⟨#[44]⟩ : ByteArray) ++ sc)) := ⟨by rw [HTT.out, hsc]; show _ = tt ++ (bStr [44] ++ _); rw [bStr_app]; rfl⟩
            rw [← hsc, HWW.out] at HB4
            have HSw := HStW.out
            rw [HWW.out] at HSw
            have HS4 := Aside0.mk (Sty.refl HSw)
            clear hsc h0 HSw c39 c40 c43 c47 c50 c51
            go_wp2_with fail
            refine HB4.out.mono ?_
            rintro e w2 ⟨rfl, hS2⟩
            have HW2 := Aside0.mk (HS4.out.trans hS2)
            clear hS2
            go_wp2
            go_meet
            exact ⟨by rw [hTT.out], by rw [HWW.out]; exact HW2.out⟩
        case rest =>
          obtain ⟨rfl, hSx⟩ := hcut
          have H0 := Aside0.mk (hSx.on (Below.refl _ _).drew)
          have HClx : Aside0 (∀ (wc : World) (y : Nat), Sty W g y wc → BoxIs wc b f.1 f.2.1 f.2.2.1 f.2.2.2.1 f.2.2.2.2.1 f.2.2.2.2.2.1 (.slice A1 f.2.2.2.2.2.2.length c1)) := ⟨fun wc y hS => HBx.out.1.sty hS HBx.out.2⟩
          have HC := HCx
          have HCl := HClx
          clear hSx HCm HTT e0 e1 e2 e3 e4 e5 e6 HCx HClx
          rw [← HBB.out]
          clear HBB
          go_upto_region 8 with (fail)
          refine wp_region_any (by kernel_rfl) ?_
          change wpAny _ _ _ _ _ _ _ (World.drew _)
          refine region_chain _ _ [32, 33, 34, 35, 36, 37, 38, 39, 40, 41, 42, 43, 44, 45, 46, 47, 48, 49, 50, 51, 6] (fld8Val g b (hfCells f A1 c1) f.1 t6 s1 s2 s3 s4 s5 a39 a40 a43 a47 a50 a51) fld8Dp fld8Rd [4, 6, 10, 14, 17] (fun k wx => Sty W g (val5X y1 y2 y3 y4 y5 y6 k) wx) (by kernel_rfl) (by kernel_rfl) (by kernel_rfl) (by kernel_rfl) ?_ ?_ ?_
          case' refine_1 => exact H0.out
          refine StepsC.quiet (by decide) (fun k a wc hI hc hp hr K hK => ?_) ?_
          · -- slot 32
            have q6 : a.tmps[6]?.getD undef = .string t6 := ev_get (hr (20, 6) (by simp [fld8Rd]))
            have HI := Aside0.mk hI
            clear hp hc hr hI
            go_simp
            exact hK _ HI.out
          refine StepsC.quiet (by decide) (fun k a wc hI hc hp hr K hK => ?_) ?_
          · -- slot 33
            have q5 : a.tmps[5]?.getD undef = .pointer (some ⟨g, 0, none⟩) := ev_get (hc 5 (by decide))
            have HI := Aside0.mk hI
            clear hp hc hr hI
            go_simp
            exact hK _ HI.out
          refine StepsC.quiet (by decide) (fun k a wc hI hc hp hr K hK => ?_) ?_
          · -- slot 34
            have q8 : a.tmps[8]?.getD undef = .pointer (some ⟨b, 0, none⟩) := ev_get (hc 8 (by decide))
            have HI := Aside0.mk hI
            clear hp hc hr hI
            go_simp
            exact hK _ HI.out
          refine StepsC.quiet (by decide) (fun k a wc hI hc hp hr K hK => ?_) ?_
          · -- slot 35
            have q34 : a.tmps[34]?.getD undef = .pointer (some ⟨b, 0, none⟩) := ev_get (hp (2, 34) (by simp [fld8Dp]))
            have HI := Aside0.mk hI
            clear hp hc hr hI
            have hcell := (HCl.out _ _ HI.out).c0
            go_simp
            exact hK _ HI.out
          refine StepsC.call 0 rfl (fun a wc hI hc hp hr K hK => ?_) ?_
          · -- slot 36
            have q33 : a.tmps[33]?.getD undef = .pointer (some ⟨g, 0, none⟩) := ev_get (hp (1, 33) (by simp [fld8Dp]))
            have q35 : a.tmps[35]?.getD undef = .string f.1 := ev_get (hp (3, 35) (by simp [fld8Dp]))
            have HI := Aside0.mk hI
            clear hp hc hr hI
            go_simp
            refine (HC.out.1 _ HI.out).mono ?_
            rintro e w2 ⟨rfl, hS⟩
            exact hK _ (HI.out.trans hS)
          refine StepsC.quiet (by decide) (fun k a wc hI hc hp hr K hK => ?_) ?_
          · -- slot 37
            have q5 : a.tmps[5]?.getD undef = .pointer (some ⟨g, 0, none⟩) := ev_get (hc 5 (by decide))
            have HI := Aside0.mk hI
            clear hp hc hr hI
            go_simp
            exact hK _ HI.out
          refine StepsC.call 1 rfl (fun a wc hI hc hp hr K hK => ?_) ?_
          · -- slot 38
            have q37 : a.tmps[37]?.getD undef = .pointer (some ⟨g, 0, none⟩) := ev_get (hp (5, 37) (by simp [fld8Dp]))
            have HI := Aside0.mk hI
            clear hp hc hr hI
            go_simp
            refine (HC.out.2.1 _ HI.out).mono ?_
            rintro e w2 ⟨rfl, hS⟩
            exact hK _ (HI.out.trans hS)
          refine StepsC.quiet (by decide) (fun k a wc hI hc hp hr K hK => ?_) ?_
          · -- slot 39
            have q36 : a.tmps[36]?.getD undef = .string s1 := ev_get (hp (4, 36) (by simp [fld8Dp]))
            have q38 : a.tmps[38]?.getD undef = .string s2 := ev_get (hp (6, 38) (by simp [fld8Dp]))
            have HI := Aside0.mk hI
            clear hp hc hr hI
            have hz : (9223372036854775807 < s1.size + s2.size) = False := eq_false (by omega)
            go_simp
            exact hK _ HI.out
          refine StepsC.quiet (by decide) (fun k a wc hI hc hp hr K hK => ?_) ?_
          · -- slot 40
            have q39 : a.tmps[39]?.getD undef = .string a39 := ev_get (hp (7, 39) (by simp [fld8Dp]))
            have HI := Aside0.mk hI
            clear hp hc hr hI
            have hz : (9223372036854775807 < a39.size + 1) = False := eq_false (by omega)
            go_simp
            exact hK _ HI.out
          refine StepsC.quiet (by decide) (fun k a wc hI hc hp hr K hK => ?_) ?_
          · -- slot 41
            have q5 : a.tmps[5]?.getD undef = .pointer (some ⟨g, 0, none⟩) := ev_get (hc 5 (by decide))
            have HI := Aside0.mk hI
            clear hp hc hr hI
            go_simp
            exact hK _ HI.out
          refine StepsC.call 2 rfl (fun a wc hI hc hp hr K hK => ?_) ?_
          · -- slot 42
            have q41 : a.tmps[41]?.getD undef = .pointer (some ⟨g, 0, none⟩) := ev_get (hp (9, 41) (by simp [fld8Dp]))
            have HI := Aside0.mk hI
            clear hp hc hr hI
            go_simp
            refine (HC.out.2.2.1 _ HI.out).mono ?_
            rintro e w2 ⟨rfl, hS⟩
            exact hK _ (HI.out.trans hS)
          refine StepsC.quiet (by decide) (fun k a wc hI hc hp hr K hK => ?_) ?_
          · -- slot 43
            have q40 : a.tmps[40]?.getD undef = .string a40 := ev_get (hp (8, 40) (by simp [fld8Dp]))
            have q42 : a.tmps[42]?.getD undef = .string s3 := ev_get (hp (10, 42) (by simp [fld8Dp]))
            have HI := Aside0.mk hI
            clear hp hc hr hI
            have hz : (9223372036854775807 < a40.size + s3.size) = False := eq_false (by omega)
            go_simp
            exact hK _ HI.out
          refine StepsC.quiet (by decide) (fun k a wc hI hc hp hr K hK => ?_) ?_
          · -- slot 44
            have q5 : a.tmps[5]?.getD undef = .pointer (some ⟨g, 0, none⟩) := ev_get (hc 5 (by decide))
            have HI := Aside0.mk hI
            clear hp hc hr hI
            go_simp
            exact hK _ HI.out
          refine StepsC.quiet (by decide) (fun k a wc hI hc hp hr K hK => ?_) ?_
          · -- slot 45
            have q8 : a.tmps[8]?.getD undef = .pointer (some ⟨b, 0, none⟩) := ev_get (hc 8 (by decide))
            have HI := Aside0.mk hI
            clear hp hc hr hI
            have hx0 := HCl.out _ _ HI.out
            obtain ⟨k0, k1, k2, k3, k4, k5, k6⟩ := And.intro hx0.c0 (And.intro hx0.c1 (And.intro hx0.c2 (And.intro hx0.c3 (And.intro hx0.c4 (And.intro hx0.c5 hx0.c6)))))
            clear hx0
            go_simp
            exact hK _ HI.out
          refine StepsC.call 3 rfl (fun a wc hI hc hp hr K hK => ?_) ?_
          · -- slot 46
            have q44 : a.tmps[44]?.getD undef = .pointer (some ⟨g, 0, none⟩) := ev_get (hp (12, 44) (by simp [fld8Dp]))
            have q45 : a.tmps[45]?.getD undef = .agg (hfCells f A1 c1) := ev_get (hp (13, 45) (by simp [fld8Dp]))
            have HI := Aside0.mk hI
            clear hp hc hr hI
            go_simp
            refine (HC.out.2.2.2.1 _ HI.out).mono ?_
            rintro e w2 ⟨rfl, hS⟩
            exact hK _ (HI.out.trans hS)
          refine StepsC.quiet (by decide) (fun k a wc hI hc hp hr K hK => ?_) ?_
          · -- slot 47
            have q43 : a.tmps[43]?.getD undef = .string a43 := ev_get (hp (11, 43) (by simp [fld8Dp]))
            have q46 : a.tmps[46]?.getD undef = .string s4 := ev_get (hp (14, 46) (by simp [fld8Dp]))
            have HI := Aside0.mk hI
            clear hp hc hr hI
            have hz : (9223372036854775807 < a43.size + s4.size) = False := eq_false (by omega)
            go_simp
            exact hK _ HI.out
          refine StepsC.quiet (by decide) (fun k a wc hI hc hp hr K hK => ?_) ?_
          · -- slot 48
            have q5 : a.tmps[5]?.getD undef = .pointer (some ⟨g, 0, none⟩) := ev_get (hc 5 (by decide))
            have HI := Aside0.mk hI
            clear hp hc hr hI
            go_simp
            exact hK _ HI.out
          refine StepsC.call 4 rfl (fun a wc hI hc hp hr K hK => ?_) ?_
          · -- slot 49
            have q48 : a.tmps[48]?.getD undef = .pointer (some ⟨g, 0, none⟩) := ev_get (hp (16, 48) (by simp [fld8Dp]))
            have HI := Aside0.mk hI
            clear hp hc hr hI
            go_simp
            refine (HC.out.2.2.2.2 _ HI.out).mono ?_
            rintro e w2 ⟨rfl, hS⟩
            exact hK _ (HI.out.trans hS)
          refine StepsC.quiet (by decide) (fun k a wc hI hc hp hr K hK => ?_) ?_
          · -- slot 50
            have q47 : a.tmps[47]?.getD undef = .string a47 := ev_get (hp (15, 47) (by simp [fld8Dp]))
            have q49 : a.tmps[49]?.getD undef = .string s5 := ev_get (hp (17, 49) (by simp [fld8Dp]))
            have HI := Aside0.mk hI
            clear hp hc hr hI
            have hz : (9223372036854775807 < a47.size + s5.size) = False := eq_false (by omega)
            go_simp
            exact hK _ HI.out
          refine StepsC.quiet (by decide) (fun k a wc hI hc hp hr K hK => ?_) ?_
          · -- slot 51
            have q32 : a.tmps[32]?.getD undef = .string t6 := ev_get (hp (0, 32) (by simp [fld8Dp]))
            have q50 : a.tmps[50]?.getD undef = .string a50 := ev_get (hp (18, 50) (by simp [fld8Dp]))
            have HI := Aside0.mk hI
            clear hp hc hr hI
            have hz : (9223372036854775807 < t6.size + a50.size) = False := eq_false (by omega)
            go_simp
            exact hK _ HI.out
          refine StepsC.quiet (by decide) (fun k a wc hI hc hp hr K hK => ?_) ?_
          · -- slot 6
            have q51 : a.tmps[51]?.getD undef = .string a51 := ev_get (hp (19, 51) (by simp [fld8Dp]))
            have HI := Aside0.mk hI
            clear hp hc hr hI
            go_simp
            exact hK _ HI.out
          exact StepsC.nil _
          · intro wz hI
            exact hK1 _ _ (Met.intro (hJ _ _ ⟨.string a51, .int .i64 (i : Int), (.pointer (some ⟨b, 0, none⟩)), .int .i64 (i : Int), (.pointer (some (ad.add (i * 7)))), (.agg (hfCells f A1 c1)), .int .i64 (i : Int), u26, u27, u28, u29, u30, u31, (.string t6), (.pointer (some ⟨g, 0, none⟩)), (.pointer (some ⟨b, 0, none⟩)), (.string f.1), (.string s1), (.pointer (some ⟨g, 0, none⟩)), (.string s2), (.string a39), (.string a40), (.pointer (some ⟨g, 0, none⟩)), (.string s3), (.string a43), (.pointer (some ⟨g, 0, none⟩)), (.agg (hfCells f A1 c1)), (.string s4), (.string a47), (.pointer (some ⟨g, 0, none⟩)), (.string s5), (.string a50), (.string a51), ⟨rfl, hI⟩, by kernel_rfl⟩))
      case rest =>
        obtain ⟨rfl, hS⟩ := hcut
        have HZ := Aside0.mk (HNew.out _ hS)
        clear hS
        go_wp2
        go_roundw
        case rel => exact HZ.out
        case measure => simp [intOf]; omega
    · have hin : i = l.length := by rw [← HN.out]; omega
      have hdrop : l.drop i = [] := List.drop_of_length_le (by omega)
      rw [hdrop] at h1
      have hs0 : seqF fieldF (decide (i = 0)) [] y = ([], y) := by cases decide (i = 0) <;> rfl
      rw [hs0] at h1
      have HBe := Aside0.mk hBe
      have HBy := Aside0.mk (HBl.out wr y hSt hy)
      obtain ⟨tt, htt⟩ : ∃ t, t = bStr acc := ⟨_, rfl⟩
      have hts : tt.size ≤ 200000000 := by rw [htt, bStr_size]; omega
      obtain ⟨sc, hsc⟩ : ∃ t, t = bStr (blk y).1 := ⟨_, rfl⟩
      have zc : sc.size ≤ 65537 := by rw [hsc, bStr_size]; exact blk_len _
      have hzz : (tt ++ (⟨#[125]⟩ : ByteArray)).size ≤ 200000001 := by rw [ByteArray.size_append]; show _ + 1 ≤ _; omega
      have HR : Aside0 (tt ++ (⟨#[125]⟩ : ByteArray) ++ sc = bStr (headF l x)) := ⟨by
        rw [← h1, htt, hsc]
        show _ ++ bStr [125] ++ _ = _
        simp only [bStr_app, List.append_assoc, List.cons_append, List.nil_append]⟩
      rw [← htt]
      rw [← hsc] at HBy
      clear h1 hy hSt hBe hal hs0 hdrop htt hsc hin
      go_wp2_with fail
      refine HBy.out.mono ?_
      rintro e w3 ⟨rfl, hS3⟩
      have HB3 := Aside0.mk (HBs.out HBe.out hS3)
      clear hS3
      go_wp2
      go_ret
      exact ⟨by rw [← HR.out]; rfl, HB3.out⟩
end Go.Proofs.YtdldblfklalaeaaGreatDoor
