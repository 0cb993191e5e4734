/-
  laws.zzFits10, zzFits9, headFits, headNames; spec.HeadFind: their contracts.
-/
import Derived.Test.YtgldcjmdjhghpaaGreatDoorHw
import Derived.Test.YtgldcjmdjhghpaaGreatDoorVa
import Derived.Deep.DeepCutAuto
import Derived.Deep.CutBlock
namespace Go.Proofs.YtgldcjmdjhghpaaGreatDoor
open Go.RowKit Go.Proofs.YtgldcjmdjhghpaaGreatDoorW.PrintWords Go.ChangeShapes Go.WideShapes
set_option linter.unusedVariables false
set_option linter.unusedSimpArgs false
set_option maxRecDepth 100000
theorem info9 : (Tryz.prog.info? 9).map (fun i => (i.zero, i.size, i.bytes)) = some (some (.string ByteArray.empty), 1, 16) := by kernel_rfl
/-- The first field of this name, or an empty one. -/
def hZero : Hf := (ByteArray.empty, 0, false, false, 0, ByteArray.empty, [])
def FindIs (l : List Hf) (s : ByteArray) (f : Hf) (b : Bool) : Prop := (b = true ∧ f ∈ l ∧ f.1 = s) ∨ (b = false ∧ f = hZero ∧ ∀ g ∈ l, g.1 ≠ s)
theorem HcIs.on {w w' : World} {ad : Addr} {k : Nat} {f : Hf} {A : Option Addr} {c : Nat} (h : HcIs w ad k f A c) (hb : Below w.heap.size w w') : HcIs w' ad k f A c :=
  ⟨Kd.C_below h.hC hb, h.hle, (hb.cell (cell_lt h.e0)).trans h.e0, (hb.cell (cell_lt h.e1)).trans h.e1, (hb.cell (cell_lt h.e2)).trans h.e2, (hb.cell (cell_lt h.e3)).trans h.e3, (hb.cell (cell_lt h.e4)).trans h.e4, (hb.cell (cell_lt h.e5)).trans h.e5, (hb.cell (cell_lt h.e6)).trans h.e6⟩
/-- Seven cells, stored. -/
theorem store7 {w0 w : World} {B g t : Nat} {L : List Asrt} (hS : Hold w0 B w (.blk g (.cells (hfCells hZero none 0) t) :: L)) (f : Hf) (A : Option Addr) (c : Nat) :
    Hold w0 B (((((((w.setCell ⟨g, 0, none⟩ (.string f.1)).setCell ⟨g, 1, none⟩ (.int .u8 f.2.1)).setCell ⟨g, 2, none⟩ (.bool f.2.2.1)).setCell ⟨g, 3, none⟩ (.bool f.2.2.2.1)).setCell ⟨g, 4, none⟩ (.int .u64 f.2.2.2.2.1)).setCell ⟨g, 5, none⟩ (.string f.2.2.2.2.2.1)).setCell ⟨g, 6, none⟩ (.slice A f.2.2.2.2.2.2.length c)) (.blk g (.cells (hfCells f A c) t) :: L) :=
  (((((((hS.store 0 rfl 0 (.string f.1)).store 0 rfl 1 (.int .u8 f.2.1)).store 0 rfl 2 (.bool f.2.2.1)).store 0 rfl 3 (.bool f.2.2.2.1)).store 0 rfl 4 (.int .u64 f.2.2.2.2.1)).store 0 rfl 5 (.string f.2.2.2.2.2.1)).store 0 rfl 6 (.slice A f.2.2.2.2.2.2.length c))
theorem mem_names {l : List Hf} {s : ByteArray} (h : ∀ g ∈ l, g.1 ≠ s) : s ∉ l.map (·.1) := fun hm => by
  obtain ⟨g, hg, rfl⟩ := List.mem_map.1 hm
  exact h g hg rfl
theorem row1_lit {w0 w : World} {B g : Nat} {L : List Asrt} (s : ByteArray) (hS : Hold w0 B w (.blk g (.cells #[.string s] 9) :: L)) : Hold w0 B w (.row Kd.string 9 (.slice (some ⟨g, 0, none⟩) 1 1) [s] :: L) :=
  hS.toRow 0 (d := Kd.string) (n := 1) (c := 1) (xs := [s]) rfl ((Reps.none _ 1).snoc (show Kd.string.M w 0 (fun _ => False) s [.string s] from rfl) rfl) rfl (Nat.le_refl _) (by decide) rfl
theorem row2_lit {w0 w : World} {B g : Nat} {L : List Asrt} (s s' : ByteArray) (hS : Hold w0 B w (.blk g (.cells #[.string s, .string s'] 9) :: L)) : Hold w0 B w (.row Kd.string 9 (.slice (some ⟨g, 0, none⟩) 2 2) [s, s'] :: L) :=
  hS.toRow 0 (d := Kd.string) (n := 2) (c := 2) (xs := [s, s']) rfl (((Reps.none _ 1).snoc (show Kd.string.M w 0 (fun _ => False) s [.string s] from rfl) rfl).snoc (show Kd.string.M w 0 (fun _ => False) s' [.string s'] from rfl) rfl) rfl (Nat.le_refl _) (by decide) rfl
/-- What the machine's numbers are. -/
structure FWf (f : Hf) : Prop where
  k0 : 0 ≤ f.2.1
  n0 : 0 ≤ f.2.2.2.2.1
  n1 : f.2.2.2.2.1 < 18446744073709551616
structure FitsL (l : List Hf) (k : Nat) : Prop where
  ok : ∀ j, (hj : j < l.length) → j < k → FOk l[j]
  one : ((l.take k).map (·.1)).Nodup
structure TOkTo (xs : List ByteArray) (k : Nat) : Prop where
  out : ∀ j, (hj : j < xs.length) → j < k → TOk xs[j]
theorem TOkTo.step {xs : List ByteArray} {k : Nat} (h : TOkTo xs k) (hk : k < xs.length) (h2 : TOk xs[k]) : TOkTo xs (k + 1) := ⟨fun j hj hjk => by
  rcases Nat.lt_or_ge j k with h3 | h3
  · exact h.out j hj h3
  · obtain rfl : j = k := by omega
    exact h2⟩
theorem FitsL.step {l : List Hf} {k : Nat} (h : FitsL l k) (hk : k < l.length) (h2 : FOk l[k]) (h3 : l[k].1 ∉ (l.take k).map (·.1)) : FitsL l (k + 1) where
  ok j hj hjk := by
    rcases Nat.lt_or_ge j k with h4 | h4
    · exact h.ok j hj h4
    · obtain rfl : j = k := by omega
      exact h2
  one := by
    rw [List.take_succ_eq_append_getElem hk, List.map_append]
    refine List.nodup_append.2 ⟨h.one, by simp, fun a ha b hb => ?_⟩
    simp only [List.map_cons, List.map_nil, List.mem_singleton] at hb
    subst hb
    exact fun e => h3 (e ▸ ha)
theorem fok_of {f : Hf} (hW : FWf f) (h6 : f.2.1 ≤ 6) (hl : f.2.2.2.2.2.2.length ≤ 30) (h : TOkTo ([f.1, f.2.2.2.2.2.1] ++ f.2.2.2.2.2.2) ([f.1, f.2.2.2.2.2.1] ++ f.2.2.2.2.2.2).length) : FOk f where
  k0 := hW.k0
  k6 := h6
  n0 := hW.n0
  n1 := hW.n1
  name := h.out 0 (by simp) (by simp)
  text := h.out 1 (by simp) (by simp)
  len := hl
  list s hs := by
    obtain ⟨j, hj, rfl⟩ := List.getElem_of_mem hs
    exact h.out (j + 2) (by simp; omega) (by simp; omega)
def GoodL (l : List Hf) (b : Bool) : Prop := b = true → l.length ≤ 30 ∧ (∀ f ∈ l, FOk f) ∧ (l.map (·.1)).Nodup
structure HFits (w : World) (l : List Hf) (e : Ending) (w' : World) : Prop where
  out : ∃ b : Bool, e = .returned (.bool b) ∧ GoodL l b ∧ Hold w w.heap.size w' []
end Go.Proofs.YtgldcjmdjhghpaaGreatDoor
