/-
  A tree of JSON as data: as deep as it is looked at. It is read among the arguments.
-/
import Derived.Test.YtgldcjmdjhghpaaGreatDoorFl
import Derived.Test.YtgldcjmdjhghpaaGreatDoorQa
namespace Go.Proofs.YtgldcjmdjhghpaaGreatDoor
open Go.RowKit Go.Proofs.YtgldcjmdjhghpaaGreatDoorW.PrintWords Go.ChangeShapes Go.WideShapes Go.Deep
set_option linter.unusedVariables false
set_option linter.unusedSimpArgs false
set_option maxRecDepth 100000
/-- A node: kind, truth, minus, number, text, names, and what is known of its kids. -/
abbrev Nd (β : Type) : Type := Int × Bool × Bool × Int × ByteArray × List ByteArray × β
/-- The kids of a node, k levels deep. -/
def Kids : Nat → Type
  | 0 => Unit
  | k + 1 => List (Nd (Kids k))
abbrev TrN (k : Nat) : Type := Nd (Kids k)
/-- A row that is not looked into. -/
def kAny : Kd Unit where
  sz := 1
  E := []
  K := fun _ _ cs => ∃ A n c, cs = [.slice A n c]
  M := fun _ _ _ _ _ => False
  K_len := by
    rintro w x cs ⟨A, n, c, rfl⟩
    rfl
  K_one := by
    rintro w x cs ⟨A, n, c, rfl⟩ u hu
    rw [List.mem_singleton.1 hu]
    rfl
  K_below := fun _ h => h
  K_of_M := fun h => h.elim
  M_mono := fun _ h => h
  M_bound := fun h => h.elim
  M_move := fun _ h => h
  M_lower := fun _ h => h
abbrev kNd {β : Type} (d : Kd β) : Kd (Nd β) := Kd.pair (Kd.int .u8) (Kd.pair Kd.bool (Kd.pair Kd.bool (Kd.pair (Kd.int .u64) (Kd.pair Kd.string (Kd.pair (Kd.slice 9 Kd.string) d)))))
def kKids : (k : Nat) → Kd (Kids k)
  | 0 => kAny
  | k + 1 => Kd.slice 26 (kNd (kKids k))
abbrev kT (k : Nat) : Kd (TrN k) := kNd (kKids k)
theorem kKids_sz (k : Nat) : (kKids k).sz = 1 := by cases k <;> rfl
theorem kT_sz (k : Nat) : (kT k).sz = 7 := by
  show 1 + (1 + (1 + (1 + (1 + (1 + (kKids k).sz))))) = 7
  rw [kKids_sz]
/-- The number of kids, if they are looked at. -/
def OkKids : (k : Nat) → Kids k → Prop
  | 0, _ => True
  | k + 1, l => AllOk (Both (WfI .u8) (Both AnyOk (Both AnyOk (Both (WfI .u64) (Both StrOk (Both (AllOk StrOk) (OkKids k))))))) l
abbrev OkT (k : Nat) : TrN k → Prop := Both (WfI .u8) (Both AnyOk (Both AnyOk (Both (WfI .u64) (Both StrOk (Both (AllOk StrOk) (OkKids k))))))
theorem Opens.any {P : Program} {t e : TypeId} (ht : P.underlying t = some (.slice e)) : Opens P t kAny (OkKids 0) := by
  constructor
  intro H enc w base spare held fuel cs x ht'
  rcases open_slice ht ht' with ⟨rfl, _⟩ | ⟨a, len, cap, m, n, D, Pl, rfl, _⟩
  · exact ⟨(), ⟨_, _, _, rfl⟩, trivial⟩
  · exact ⟨(), ⟨_, _, _, rfl⟩, trivial⟩
theorem cells_tree : Tryz.prog.cellsOf 26 = 7 := by kernel_rfl
theorem cells_kids : Tryz.prog.cellsOf 24 = 1 := by kernel_rfl
theorem opens_node {k : Nat} (h : Opens Tryz.prog 24 (kKids k) (OkKids k)) : Opens Tryz.prog 26 (kT k) (OkT k) :=
  Opens.struct Tryz.underlying26 (cells_tree.trans (kT_sz k).symm) (OpensAt.cons (i := 0) rfl rfl (by kernel_rfl) (Opens.int Tryz.underlying5) (OpensAt.cons (i := 1) rfl rfl (by kernel_rfl) (Opens.bool Tryz.underlying4)
    (OpensAt.cons (i := 2) rfl rfl (by kernel_rfl) (Opens.bool Tryz.underlying4) (OpensAt.cons (i := 3) rfl rfl (by kernel_rfl) (Opens.int Tryz.underlying22) (OpensAt.cons (i := 4) rfl rfl (by kernel_rfl) (Opens.string Tryz.underlying9)
      (OpensAt.cons (i := 5) rfl rfl (by kernel_rfl) (Opens.sl Tryz.underlying23 (by kernel_rfl) (Opens.string Tryz.underlying9)) (OpensAt.last (i := 6) rfl rfl (cells_kids.trans (kKids_sz k).symm) h)))))))
theorem opens_kids : ∀ k, Opens Tryz.prog 24 (kKids k) (OkKids k)
  | 0 => Opens.any Tryz.underlying24
  | k + 1 => Opens.sl (d := kT k) Tryz.underlying24 (cells_tree.trans (kT_sz k).symm) (opens_node (opens_kids k))
theorem opens_tree (k : Nat) : Opens Tryz.prog 26 (kT k) (OkT k) := opens_node (opens_kids k)
/-- The kids, read at their row. -/
def KidsAt (w : World) : (k : Nat) → Option Addr → Nat → Nat → Kids k → Prop
  | 0, _, _, _, _ => True
  | k + 1, B, m, d, l => m = l.length ∧ l.length ≤ d ∧ (kT k).C w B m l
theorem KidsAt.on {w w' : World} {k : Nat} {B : Option Addr} {m d : Nat} {l : Kids k} (h : KidsAt w k B m d l) (hb : Below w.heap.size w w') : KidsAt w' k B m d l := by
  cases k with
  | zero => trivial
  | succ k => exact ⟨h.1, h.2.1, Kd.C_below h.2.2 hb⟩
def trCells {k : Nat} (x : TrN k) (A : Option Addr) (c : Nat) (B : Option Addr) (m d : Nat) : Array Value := #[.int .u8 x.1, .bool x.2.1, .bool x.2.2.1, .int .u64 x.2.2.2.1, .string x.2.2.2.2.1, .slice A x.2.2.2.2.2.1.length c, .slice B m d]
/-- What stands behind a node's cells. -/
structure TrAt (w : World) {k : Nat} (x : TrN k) (A : Option Addr) (c : Nat) (B : Option Addr) (m d : Nat) : Prop where
  hC : Kd.string.C w A x.2.2.2.2.2.1.length x.2.2.2.2.2.1
  hle : x.2.2.2.2.2.1.length ≤ c
  kids : KidsAt w k B m d x.2.2.2.2.2.2
theorem TrAt.on {w w' : World} {k : Nat} {x : TrN k} {A B : Option Addr} {c m d : Nat} (h : TrAt w x A c B m d) (hb : Below w.heap.size w w') : TrAt w' x A c B m d := ⟨Kd.C_below h.hC hb, h.hle, h.kids.on hb⟩
theorem kT_open {w : World} {k : Nat} {x : TrN k} {cs : List Value} (h : (kT k).K w x cs) : ∃ A c B m d, cs = (trCells x A c B m d).toList ∧ TrAt w x A c B m d := by
  obtain ⟨_, _, rfl, rfl, _, _, rfl, rfl, _, _, rfl, rfl, _, _, rfl, rfl, _, _, rfl, rfl, _, cs, rfl, ⟨A, c, rfl, h1, h2⟩, h3⟩ := h
  cases k with
  | zero =>
    obtain ⟨B, m, d, rfl⟩ := h3
    exact ⟨A, c, B, m, d, rfl, h2, h1, trivial⟩
  | succ k =>
    obtain ⟨B, d, rfl, h4, h5⟩ := h3
    exact ⟨A, c, B, _, d, rfl, h2, h1, rfl, h4, h5⟩
/-- A kid's cells in the row. -/
structure KidIs (w : World) (ad : Addr) (j : Nat) {k : Nat} (f : TrN k) (A : Option Addr) (c : Nat) (B : Option Addr) (m d : Nat) : Prop where
  at_ : TrAt w f A c B m d
  e0 : w.cell? (ad.add (j * 7)) = some (.int .u8 f.1)
  e1 : w.cell? ⟨(ad.add (j * 7)).block, (ad.add (j * 7)).off + 1, none⟩ = some (.bool f.2.1)
  e2 : w.cell? ⟨(ad.add (j * 7)).block, (ad.add (j * 7)).off + 2, none⟩ = some (.bool f.2.2.1)
  e3 : w.cell? ⟨(ad.add (j * 7)).block, (ad.add (j * 7)).off + 3, none⟩ = some (.int .u64 f.2.2.2.1)
  e4 : w.cell? ⟨(ad.add (j * 7)).block, (ad.add (j * 7)).off + 4, none⟩ = some (.string f.2.2.2.2.1)
  e5 : w.cell? ⟨(ad.add (j * 7)).block, (ad.add (j * 7)).off + 5, none⟩ = some (.slice A f.2.2.2.2.2.1.length c)
  e6 : w.cell? ⟨(ad.add (j * 7)).block, (ad.add (j * 7)).off + 6, none⟩ = some (.slice B m d)
theorem KidIs.get {w : World} {Q : Option Addr} {n k : Nat} {xs : List (TrN k)} (h : (kT k).C w Q n xs) (j : Nat) (hj : j < xs.length) :
    ∃ ad A c B m d, Q = some ad ∧ KidIs w ad j xs[j] A c B m d := by
  obtain ⟨ad, cs, e, hl, hK, hc⟩ := C_cells h j hj
  obtain ⟨A, c, B, m, d, rfl, hT⟩ := kT_open hK
  rw [kT_sz] at hc
  exact ⟨ad, A, c, B, m, d, e, hT, hc 0 _ rfl, hc 1 _ rfl, hc 2 _ rfl, hc 3 _ rfl, hc 4 _ rfl, hc 5 _ rfl, hc 6 _ rfl⟩
end Go.Proofs.YtgldcjmdjhghpaaGreatDoor
