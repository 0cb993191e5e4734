/-
  laws.keyData: keys that can be made.
  laws.setMoves, laws.keySteps: steps that may be taken. Printed by ktagen.py.
-/
import Derived.Test.YtpcbmjphffpplaaGreatDoorKa5
import Derived.Test.YtpcbmjphffpplaaGreatDoorKa2
namespace Go.Proofs.YtpcbmjphffpplaaGreatDoor
open Go.RowKit Go.Proofs.YtpcbmjphffpplaaGreatDoorW.PrintWords
set_option linter.unusedVariables false
set_option linter.unusedSimpArgs false
set_option maxRecDepth 100000
abbrev kU : Kd Int := Kd.int .u8
/-- Octets that can be taken. -/
def OctI (l : List Int) : Prop := 0 < l.length ∧ l.length ≤ 1000000 ∧ ∀ i ∈ l, 0 ≤ i ∧ i < 256
/-- What the loop holds. -/
structure KdI (w0 : World) (j : Nat) (v : Value) (w : World) : Prop where
  out : ∃ (ks : List KDr) (rs : List (Value × List Int)), ks.length = j ∧ ks.map (fun x => slT x.1) = rs.map Prod.fst ∧ (∀ x ∈ rs, OctI x.2) ∧ Hold w0 w0.heap.size w [.row kKD 45 v ks, .rows kU 5 rs]
theorem kd_add {w0 wr : World} {B : Nat} {v : Value} {ks : List KDr} {rs : List (Value × List Int)} (x n : Int) (b : Bool) (s : ByteArray) (hH : Hold w0 B wr [.row kKD 45 v ks, .rows kU 5 rs]) :
    Hold w0 B ((wr.alloc (.cells #[.int .u8 7, .int .u8 x, .int .u8 n, .int .u8 9] 5)).alloc (.cells #[.slice (some ⟨wr.heap.size, 0, none⟩) 4 4, .bool b, .string s] 45)) [.blk (wr.heap.size + 1) (.cells #[.slice (some ⟨wr.heap.size, 0, none⟩) 4 4, .bool b, .string s] 45), .row kU 5 (.slice (some ⟨wr.heap.size, 0, none⟩) 4 4) [7, x, n, 9], .row kKD 45 v ks, .rows kU 5 rs] := by
  have h := ((hH.alloc (.cells #[.int .u8 7, .int .u8 x, .int .u8 n, .int .u8 9] 5)).toRow 0 (d := kU) (n := 4) (c := 4) (xs := [7, x, n, 9]) rfl (reps_scalar _ _ _ [7, x, n, 9]) rfl (Nat.le_refl _) (by decide) rfl).alloc (.cells #[.slice (some ⟨wr.heap.size, 0, none⟩) 4 4, .bool b, .string s] 45)
  rw [World.size_alloc] at h
  exact h
theorem KdI.next {w0 wz : World} {j g g2 : Nat} {ob : Obj} {v1 : Value} {ks : List KDr} {rs : List (Value × List Int)} {x n : Int} {b : Bool} {s : ByteArray} (h1 : ks.length = j) (h2 : ks.map (fun x => slT x.1) = rs.map Prod.fst) (h8 : ∀ y ∈ rs ++ [((.slice (some ⟨g, 0, none⟩) 4 4 : Value), [7, x, n, 9])], OctI y.2)
    (h : Hold w0 w0.heap.size wz [.blk g2 ob, .row kU 5 (.slice (some ⟨g, 0, none⟩) 4 4) [7, x, n, 9], .row kKD 45 v1 (ks ++ [((some ⟨g, 0, none⟩, 4, 4), b, s)]), .rows kU 5 rs]) : KdI w0 (j + 1) v1 wz := by
  refine ⟨ks ++ [((some ⟨g, 0, none⟩, 4, 4), b, s)], rs ++ [((.slice (some ⟨g, 0, none⟩) 4 4 : Value), [7, x, n, 9])], by simp [h1], ?_, h8, ?_⟩
  · rw [List.map_append, List.map_append, h2]
    rfl
  · have h3 := (Hold.pickA (M := [_, _, _, _]) (h : Hold w0 w0.heap.size wz ([_, _, _, _] ++ [])) [1, 3, 2] (by decide) (by simp) (M' := [_, _, _]) rfl).rowsAdd
    exact Hold.pickA (M := [_, _]) (h3 : Hold w0 w0.heap.size wz ([_, _] ++ [])) [1, 0] (by decide) (by simp) (M' := [_, _]) rfl
theorem info45 : (Tryz.prog.info? 45).map (fun i => (i.zero, i.size, i.bytes)) = some (some (.agg #[.slice none 0 0, .bool false, .string ByteArray.empty]), 3, 48) := by kernel_rfl
set_option maxHeartbeats 8000000 in
theorem keyData_any (w : World) (A : Option Addr) (c n : Nat) (l : List Int) (hC : kU.C w A n l) (hb : ∀ i ∈ l, 0 ≤ i ∧ i < 256) (hn : n ≤ 1000) :
    Calls Tryz.prog 7 #[.slice A n c] w fun e w' => ∃ v, e = .returned v ∧ KdI w n v w' := by
  obtain rfl : n = l.length := hC.1.symm
  have HC := Aside0.mk hC
  have HB := Aside0.mk hb
  have H0 : Aside0 (KdI w 0 (.slice none 0 0) w) := ⟨⟨[], [], rfl, rfl, fun x hx => by (cases hx), ((Hold.start w).rowsNil kU 5).nil kKD 45⟩⟩
  have hu := Tryz.underlying45
  clear hC hb
  go_enter Tryz.func7, Tryz.ntmps7
  go_wp2
  have hll : l.length ≤ 9223372036854775807 := by omega
  go_loopw [3, 9] (fun v i wr => ∃ j : Nat, j ≤ l.length ∧ i = .int .i64 j ∧ KdI w j v wr) (fun _ i _ => l.length - (intOf i).toNat)
  case atStart => exact ⟨0, Nat.zero_le _, rfl, H0.out⟩
  case round =>
    obtain ⟨j, hj, rfl, hI⟩ := hrel
    by_cases hlt : j < l.length
    · obtain ⟨ks, rs, h1, h2, h3, hH⟩ := hI.out
      obtain ⟨ad, rfl, he⟩ := C1_get (e1 := Value.int .u8) HC.out j hlt
      obtain ⟨n0, n1⟩ := HB.out _ (List.getElem_mem hlt)
      have he := below_cell hH.below he
      generalize l[j] = n at *
      have HA := Aside0.mk hH
      have hj1 : j + 1 ≤ l.length := hlt
      clear hI hH
      have ht : Int.tmod n 5 = n % 5 := Int.tmod_eq_emod_of_nonneg n0
      have hl9 : (ks.length + 1) * 48 ≤ 140737488355328 := by omega
      have H8 : Aside0 (∀ y ∈ rs ++ [((.slice (some ⟨wr.heap.size, 0, none⟩) 4 4 : Value), [7, (j : Int) % 256, n, 9])], OctI y.2) := ⟨fun y hy => by
        rcases List.mem_append.1 hy with hy | hy
        · exact h3 y hy
        · obtain rfl := List.mem_singleton.1 hy
          exact ⟨by show 0 < 4; decide, by show 4 ≤ 1000000; decide, fun i hi => by
            simp only [List.mem_cons, List.not_mem_nil, or_false] at hi
            rcases hi with rfl | rfl | rfl | rfl <;> omega⟩⟩
      have HN := Aside0.mk (And.intro n0 n1)
      have H12 := Aside0.mk (And.intro h1 h2)
      clear h1 h2 h3
      by_cases h6 : n % 5 = 0
      · have HX := Aside0.mk (kd_add ((j : Int) % 256) n false ⟨#[]⟩ HA.out)
        rw [h6] at ht
        clear HA H0 HB HC
        go_wp2_with ((with_reducible refine at_bi (b := .append) (xs := #[.tmp 30, .tmp 32]) rfl ?_); at_builtin; refine Hold.append1 kKD 2 HX.out rfl rfl (.tmp 30) (.tmp 32) 26 (.agg #[.slice none 0 0, .bool false, .string ByteArray.empty]) 48 rfl Tryz.underlying26 info45 rfl (by decide) (by decide) ((some ⟨wr.heap.size, 0, none⟩, 4, 4), false, ⟨#[]⟩) [.slice (some ⟨wr.heap.size, 0, none⟩) 4 4, .bool false, .string ⟨#[]⟩] rfl (by show Value.slice (some ⟨_, 0, none⟩) 1 1 = _; simp) rfl hl9 ?_; intro v1 wz H9'; have H9 := Aside0.mk H9'; clear H9')
        go_roundw
        case rel => exact ⟨j + 1, hj1, by go_num, KdI.next H12.out.1 H12.out.2 H8.out H9.out⟩
        case measure => simp [intOf]; omega
      by_cases h6 : n % 5 = 1
      · have HX := Aside0.mk (kd_add ((j : Int) % 256) n true ⟨#[]⟩ HA.out)
        rw [h6] at ht
        clear HA H0 HB HC
        have h7 : IntKind.u8.wrap (1 - 1) = 0 := by decide
        go_upto_region 7 with (fail)
        go_region
        have HY := Aside0.mk ((HX.out.alloc_ (.cells #[.string ⟨#[]⟩, .string ⟨#[97]⟩, .string ⟨#[98]⟩, .string ⟨#[99]⟩] 9)).drew)
        generalize World.drew _ = wq at *
        have k0 := (HY.out.cell 0 rfl 0 (by simp)).1
        have k1 := (HY.out.cell 0 rfl 1 (by simp)).1
        have k2 := (HY.out.cell 0 rfl 2 (by simp)).1
        clear HX
        go_wp2_with ((with_reducible refine at_bi (b := .append) (xs := #[.tmp 30, .tmp 32]) rfl ?_); at_builtin; refine Hold.append1 kKD 2 HY.out rfl rfl (.tmp 30) (.tmp 32) 26 (.agg #[.slice none 0 0, .bool false, .string ByteArray.empty]) 48 rfl Tryz.underlying26 info45 rfl (by decide) (by decide) ((some ⟨wr.heap.size, 0, none⟩, 4, 4), true, ⟨#[]⟩) [.slice (some ⟨wr.heap.size, 0, none⟩) 4 4, .bool true, .string ⟨#[]⟩] rfl (by show Value.slice (some ⟨_, 0, none⟩) 1 1 = _; simp) rfl hl9 ?_; intro v1 wz H9'; have H9 := Aside0.mk H9'; clear H9')
        go_roundw
        case rel => exact ⟨j + 1, hj1, by go_num, KdI.next H12.out.1 H12.out.2 H8.out H9.out⟩
        case measure => simp [intOf]; omega
      by_cases h6 : n % 5 = 2
      · have HX := Aside0.mk (kd_add ((j : Int) % 256) n true ⟨#[97]⟩ HA.out)
        rw [h6] at ht
        clear HA H0 HB HC
        have h7 : IntKind.u8.wrap (2 - 1) = 1 := by decide
        go_upto_region 7 with (fail)
        go_region
        have HY := Aside0.mk ((HX.out.alloc_ (.cells #[.string ⟨#[]⟩, .string ⟨#[97]⟩, .string ⟨#[98]⟩, .string ⟨#[99]⟩] 9)).drew)
        generalize World.drew _ = wq at *
        have k0 := (HY.out.cell 0 rfl 0 (by simp)).1
        have k1 := (HY.out.cell 0 rfl 1 (by simp)).1
        have k2 := (HY.out.cell 0 rfl 2 (by simp)).1
        clear HX
        go_wp2_with ((with_reducible refine at_bi (b := .append) (xs := #[.tmp 30, .tmp 32]) rfl ?_); at_builtin; refine Hold.append1 kKD 2 HY.out rfl rfl (.tmp 30) (.tmp 32) 26 (.agg #[.slice none 0 0, .bool false, .string ByteArray.empty]) 48 rfl Tryz.underlying26 info45 rfl (by decide) (by decide) ((some ⟨wr.heap.size, 0, none⟩, 4, 4), true, ⟨#[97]⟩) [.slice (some ⟨wr.heap.size, 0, none⟩) 4 4, .bool true, .string ⟨#[97]⟩] rfl (by show Value.slice (some ⟨_, 0, none⟩) 1 1 = _; simp) rfl hl9 ?_; intro v1 wz H9'; have H9 := Aside0.mk H9'; clear H9')
        go_roundw
        case rel => exact ⟨j + 1, hj1, by go_num, KdI.next H12.out.1 H12.out.2 H8.out H9.out⟩
        case measure => simp [intOf]; omega
      by_cases h6 : n % 5 = 3
      · have HX := Aside0.mk (kd_add ((j : Int) % 256) n true ⟨#[98]⟩ HA.out)
        rw [h6] at ht
        clear HA H0 HB HC
        have h7 : IntKind.u8.wrap (3 - 1) = 2 := by decide
        go_upto_region 7 with (fail)
        go_region
        have HY := Aside0.mk ((HX.out.alloc_ (.cells #[.string ⟨#[]⟩, .string ⟨#[97]⟩, .string ⟨#[98]⟩, .string ⟨#[99]⟩] 9)).drew)
        generalize World.drew _ = wq at *
        have k0 := (HY.out.cell 0 rfl 0 (by simp)).1
        have k1 := (HY.out.cell 0 rfl 1 (by simp)).1
        have k2 := (HY.out.cell 0 rfl 2 (by simp)).1
        clear HX
        go_wp2_with ((with_reducible refine at_bi (b := .append) (xs := #[.tmp 30, .tmp 32]) rfl ?_); at_builtin; refine Hold.append1 kKD 2 HY.out rfl rfl (.tmp 30) (.tmp 32) 26 (.agg #[.slice none 0 0, .bool false, .string ByteArray.empty]) 48 rfl Tryz.underlying26 info45 rfl (by decide) (by decide) ((some ⟨wr.heap.size, 0, none⟩, 4, 4), true, ⟨#[98]⟩) [.slice (some ⟨wr.heap.size, 0, none⟩) 4 4, .bool true, .string ⟨#[98]⟩] rfl (by show Value.slice (some ⟨_, 0, none⟩) 1 1 = _; simp) rfl hl9 ?_; intro v1 wz H9'; have H9 := Aside0.mk H9'; clear H9')
        go_roundw
        case rel => exact ⟨j + 1, hj1, by go_num, KdI.next H12.out.1 H12.out.2 H8.out H9.out⟩
        case measure => simp [intOf]; omega
      have h6 : n % 5 = 4 := by omega
      have HX := Aside0.mk (kd_add ((j : Int) % 256) n true ⟨#[99]⟩ HA.out)
      rw [h6] at ht
      clear HA H0 HB HC
      have h7 : IntKind.u8.wrap (4 - 1) = 3 := by decide
      go_upto_region 7 with (fail)
      go_region
      have HY := Aside0.mk ((HX.out.alloc_ (.cells #[.string ⟨#[]⟩, .string ⟨#[97]⟩, .string ⟨#[98]⟩, .string ⟨#[99]⟩] 9)).drew)
      generalize World.drew _ = wq at *
      have k0 := (HY.out.cell 0 rfl 0 (by simp)).1
      have k1 := (HY.out.cell 0 rfl 1 (by simp)).1
      have k2 := (HY.out.cell 0 rfl 2 (by simp)).1
      clear HX
      go_wp2_with ((with_reducible refine at_bi (b := .append) (xs := #[.tmp 30, .tmp 32]) rfl ?_); at_builtin; refine Hold.append1 kKD 2 HY.out rfl rfl (.tmp 30) (.tmp 32) 26 (.agg #[.slice none 0 0, .bool false, .string ByteArray.empty]) 48 rfl Tryz.underlying26 info45 rfl (by decide) (by decide) ((some ⟨wr.heap.size, 0, none⟩, 4, 4), true, ⟨#[99]⟩) [.slice (some ⟨wr.heap.size, 0, none⟩) 4 4, .bool true, .string ⟨#[99]⟩] rfl (by show Value.slice (some ⟨_, 0, none⟩) 1 1 = _; simp) rfl hl9 ?_; intro v1 wz H9'; have H9 := Aside0.mk H9'; clear H9')
      go_roundw
      case rel => exact ⟨j + 1, hj1, by go_num, KdI.next H12.out.1 H12.out.2 H8.out H9.out⟩
      case measure => simp [intOf]; omega
    · obtain rfl : j = l.length := by omega
      have HI := Aside0.mk hI
      clear hI
      go_wp2
      go_ret
      exact ⟨_, rfl, HI.out⟩
end Go.Proofs.YtpcbmjphffpplaaGreatDoor
namespace Go.Proofs.YtpcbmjphffpplaaGreatDoor
open Go.RowKit Go.Proofs.YtpcbmjphffpplaaGreatDoorW.PrintWords
set_option linter.unusedVariables false
set_option linter.unusedSimpArgs false
set_option maxRecDepth 100000
/-- A move, as it lies. -/
abbrev Mv := Int × Int × Int × Int
def mvV (x : Mv) : List Value := [.int .u8 x.1, .int .u8 x.2.1, .int .i8 x.2.2.1, .int .u8 x.2.2.2]
theorem mvV_len (x : Mv) : (mvV x).length = 4 := rfl
theorem mvV_one (x : Mv) : ∀ u ∈ mvV x, u.oneCell' = true := by
  intro u hu
  simp only [mvV, List.mem_cons, List.not_mem_nil, or_false] at hu
  rcases hu with rfl | rfl | rfl | rfl <;> rfl
abbrev kMv : Kd Mv := flatS mvV 4 mvV_len mvV_one
structure MvOk (x : Mv) : Prop where
  k : 0 ≤ x.1 ∧ x.1 < 256
  y : 0 ≤ x.2.1 ∧ x.2.1 < 256
  a : -128 ≤ x.2.2.1 ∧ x.2.2.1 < 128
  i : 0 ≤ x.2.2.2 ∧ x.2.2.2 < 256
structure MvI (w0 : World) (n j : Nat) (v : Value) (w : World) : Prop where
  out : ∃ sts : List KStp, sts.length = j ∧ (∀ x ∈ sts, StpOk n x) ∧ Hold w0 w0.heap.size w [.row kStp 32 v sts]
theorem MvI.next {w0 wz : World} {n j : Nat} {v1 : Value} {sts : List KStp} {x : KStp} {M : List Asrt} (h1 : sts.length = j) (h2 : ∀ x ∈ sts, StpOk n x) (hx : StpOk n x) (h : Hold w0 w0.heap.size wz (.row kStp 32 v1 (sts ++ [x]) :: M)) : MvI w0 n (j + 1) v1 wz :=
  ⟨_, by simp [h1], fun y hy => by
    rcases List.mem_append.1 hy with hy | hy
    · exact h2 y hy
    · obtain rfl := List.mem_singleton.1 hy
      exact hx, Hold.pickA (M := [_]) (h : Hold w0 w0.heap.size wz ([_] ++ M)) [0] (by decide) (by simp) (M' := [_]) rfl |>.pick [0] (by decide) rfl⟩
/-- The five texts. -/
def tbl5 (i : Nat) : ByteArray := match i with | 0 => ⟨#[100]⟩ | 1 => ⟨#[97]⟩ | 2 => ⟨#[98]⟩ | 3 => ⟨#[99]⟩ | _ => ⟨#[101]⟩
def lit5 : Array Value := #[.string ⟨#[100]⟩, .string ⟨#[97]⟩, .string ⟨#[98]⟩, .string ⟨#[99]⟩, .string ⟨#[101]⟩]
theorem tbl5_size (i : Nat) : (tbl5 i).size = 1 := by unfold tbl5; split <;> rfl
def Pc.lit5 : Pc where
  p := fun v w => ∃ g, v = .slice (some ⟨g, 0, none⟩) 5 5 ∧ w.heap[g]? = some (.cells Go.Proofs.YtpcbmjphffpplaaGreatDoor.lit5 9 (0, 0))
  mono := fun h hb => by
    obtain ⟨g, h1, h3⟩ := h
    exact ⟨g, h1, (hb.block g (Array.getElem?_eq_some_iff.1 h3).1).trans h3⟩
def Pc.at5 (i : Nat) : Pc where
  p := fun v w => ∃ g, v = .pointer (some ⟨g, i, none⟩) ∧ w.heap[g]? = some (.cells Go.Proofs.YtpcbmjphffpplaaGreatDoor.lit5 9 (0, 0))
  mono := fun h hb => by
    obtain ⟨g, h1, h3⟩ := h
    exact ⟨g, h1, (hb.block g (Array.getElem?_eq_some_iff.1 h3).1).trans h3⟩
theorem cell5 {w : World} {g i : Nat} (h : w.heap[g]? = some (.cells lit5 9 (0, 0))) (hi : i < 5) : w.cell? ⟨g, i, none⟩ = some (.string (tbl5 i)) := by
  match i, hi with
  | 0, _ => simp [Addr.add, World.cell?, h, lit5, tbl5]
  | 1, _ => simp [Addr.add, World.cell?, h, lit5, tbl5]
  | 2, _ => simp [Addr.add, World.cell?, h, lit5, tbl5]
  | 3, _ => simp [Addr.add, World.cell?, h, lit5, tbl5]
  | 4, _ => simp [Addr.add, World.cell?, h, lit5, tbl5]
theorem heap_new (w : World) (o : Obj) : (w.alloc o).heap[w.heap.size]? = some o := by
  show (w.heap.push o)[w.heap.size]? = some o
  simp
def mv5Pc (g7 kk k9 ky n yn ki i5 z : Nat) (xa : Int) : List (Nat × Pc) := [(8, Pc.box z #[.int .i64 0, .int .i64 0, .int .i64 0, .string ByteArray.empty, .string ByteArray.empty] 32), (33, Pc.is (.agg #[.int .i64 (k9 : Int), .int .i64 (yn : Int), .int .i64 xa, .string (tbl5 i5), .string ⟨#[116]⟩])), (15, Pc.is (.pointer (some ⟨g7, 0, none⟩))), (16, Pc.is (.int .u8 (kk : Int))), (17, Pc.is (.int .u8 (k9 : Int))), (18, Pc.is (.int .i64 (k9 : Int))), (19, Pc.is (.pointer (some ⟨g7, 1, none⟩))), (20, Pc.is (.int .u8 (ky : Int))), (21, Pc.is (.int .i64 (ky : Int))), (22, Pc.is (.int .i64 (n : Int))), (23, Pc.is (.int .i64 (yn : Int))), (24, Pc.is (.pointer (some ⟨g7, 2, none⟩))), (25, Pc.is (.int .i8 xa)), (26, Pc.is (.int .i64 xa)), (27, Pc.lit5), (28, Pc.is (.pointer (some ⟨g7, 3, none⟩))), (29, Pc.is (.int .u8 (ki : Int))), (30, Pc.is (.int .u8 (i5 : Int))), (31, Pc.at5 i5), (32, Pc.is (.string (tbl5 i5)))]
def mv5Dp (i : Nat) : List (Nat × Nat) :=
  match i with
  | 1 => [(0, 15)]
  | 2 => [(1, 16)]
  | 3 => [(2, 17)]
  | 5 => [(4, 19)]
  | 6 => [(5, 20)]
  | 8 => [(6, 21), (7, 22)]
  | 10 => [(9, 24)]
  | 11 => [(10, 25)]
  | 14 => [(13, 28)]
  | 15 => [(14, 29)]
  | 16 => [(12, 27), (15, 30)]
  | 17 => [(16, 31)]
  | 18 => [(3, 18), (8, 23), (11, 26), (17, 32)]
  | _ => []
theorem info32 : (Tryz.prog.info? 32).map (fun i => (i.zero, i.size, i.bytes)) = some (some (.agg #[.int .i64 0, .int .i64 0, .int .i64 0, .string ByteArray.empty, .string ByteArray.empty]), 5, 56) := by kernel_rfl
set_option maxHeartbeats 8000000 in
theorem setMoves_any (w : World) (A : Option Addr) (c m n : Nat) (l : List Mv) (hC : kMv.C w A m l) (hb : ∀ x ∈ l, MvOk x) (hm : m ≤ 1000) (hn : 0 < n) (hn2 : n ≤ 1000) :
    Calls Tryz.prog 8 #[.slice A m c, .int .i64 (n : Int)] w fun e w' => ∃ v, e = .returned v ∧ MvI w n m v w' := by
  obtain rfl : m = l.length := hC.1.symm
  have HC := Aside0.mk hC
  have HB := Aside0.mk hb
  have H0 : Aside0 (MvI w n 0 (.slice none 0 0) w) := ⟨⟨[], rfl, fun x hx => by (cases hx), (Hold.start w).nil kStp 32⟩⟩
  have hu := Tryz.underlying32
  have hu2 := Tryz.underlying48
  clear hC hb
  go_enter Tryz.func8, Tryz.ntmps8
  go_wp2
  have hll : l.length ≤ 9223372036854775807 := by omega
  go_loopw [5, 11] (fun v i wr => ∃ j : Nat, j ≤ l.length ∧ i = .int .i64 j ∧ MvI w n j v wr) (fun _ i _ => l.length - (intOf i).toNat)
  case atStart => exact ⟨0, Nat.zero_le _, rfl, H0.out⟩
  case round =>
    obtain ⟨j, hj, rfl, hI⟩ := hrel
    by_cases hlt : j < l.length
    · obtain ⟨sts, h1, h2, hH⟩ := hI.out
      obtain ⟨ad, rfl, hcell⟩ := flat_get HC.out j hlt
      have hok := HB.out _ (List.getElem_mem hlt)
      generalize l[j] = x at *
      obtain ⟨xk, xy, xa, xi⟩ := x
      obtain ⟨⟨k0, k1⟩, ⟨y0, y1⟩, ⟨a0, a1⟩, i0, i1⟩ := hok
      simp only at k0 k1 y0 y1 a0 a1 i0 i1
      obtain ⟨kk, rfl⟩ := Int.eq_ofNat_of_zero_le k0
      obtain ⟨ky, rfl⟩ := Int.eq_ofNat_of_zero_le y0
      obtain ⟨ki, rfl⟩ := Int.eq_ofNat_of_zero_le i0
      have hb := hH.below
      have he0 : wr.cell? (ad.add (j * 4)) = some (.int .u8 (kk : Int)) := below_cell hb (hcell 0 _ rfl)
      have he1 : wr.cell? ⟨(ad.add (j * 4)).block, (ad.add (j * 4)).off + 1, none⟩ = some (.int .u8 (ky : Int)) := below_cell hb (hcell 1 _ rfl)
      have he2 : wr.cell? ⟨(ad.add (j * 4)).block, (ad.add (j * 4)).off + 2, none⟩ = some (.int .i8 xa) := below_cell hb (hcell 2 _ rfl)
      have he3 : wr.cell? ⟨(ad.add (j * 4)).block, (ad.add (j * 4)).off + 3, none⟩ = some (.int .u8 (ki : Int)) := below_cell hb (hcell 3 _ rfl)
      have HA := Aside0.mk hH
      have H12 := Aside0.mk (And.intro h1 h2)
      have hl9 : (sts.length + 1) * 56 ≤ 140737488355328 := by omega
      have hj1 : j + 1 ≤ l.length := hlt
      clear hI hH hb hcell h1 h2 k0 y0 i0
      obtain ⟨k9, hk9⟩ : ∃ k9 : Nat, kk % 9 = k9 := ⟨_, rfl⟩
      obtain ⟨yn, hyn⟩ : ∃ yn : Nat, ky % n = yn := ⟨_, rfl⟩
      have t0 : Int.tmod (kk : Int) 9 = (k9 : Int) := by rw [Int.tmod_eq_emod_of_nonneg (by omega)]; omega
      have t1 : Int.tmod (ky : Int) (n : Int) = (yn : Int) := by rw [Int.tmod_eq_emod_of_nonneg (by omega), ← hyn]; rfl
      have n0 : ¬ (n : Int) = 0 := by omega
      obtain ⟨i5, hi5e⟩ : ∃ i5 : Nat, ki % 5 = i5 := ⟨_, rfl⟩
      have hi5 : i5 < 5 := by omega
      have hi5' : (i5 : Int) < 5 := by omega
      have t2 : Int.tmod (ki : Int) 5 = (i5 : Int) := by rw [Int.tmod_eq_emod_of_nonneg (by omega)]; omega
      have w9 : IntKind.i64.wrap (k9 : Int) = k9 := by rw [IntKind.wrap_i64]; omega
      have wy : IntKind.i64.wrap (ky : Int) = ky := by rw [IntKind.wrap_i64]; omega
      have wa : IntKind.i64.wrap xa = xa := by rw [IntKind.wrap_i64]; omega
      have n0' : ¬ n = 0 := by omega
      obtain ⟨g7, hg7⟩ : ∃ g7, wr.heap.size = g7 := ⟨_, rfl⟩
      go_upto_region 5 with (fail)
      have HM := HA.out.alloc (.cells #[.int .u8 (kk : Int), .int .u8 (ky : Int), .int .i8 xa, .int .u8 (ki : Int)] 48)
      have hgz : ((wr.alloc (.cells #[.int .u8 (kk : Int), .int .u8 (ky : Int), .int .i8 xa, .int .u8 (ki : Int)] 48)).drew).heap.size = g7 + 1 := by rw [← hg7]; exact World.size_alloc _ _
      rw [hg7] at HM
      generalize World.alloc wr _ = wx at *
      have HD := Aside0.mk HM.drew
      have HC7 : Aside0 (wx.drew.cell? ⟨g7, 0, none⟩ = some (.int .u8 (kk : Int)) ∧ wx.drew.cell? ⟨g7, 1, none⟩ = some (.int .u8 (ky : Int)) ∧ wx.drew.cell? ⟨g7, 2, none⟩ = some (.int .i8 xa) ∧ wx.drew.cell? ⟨g7, 3, none⟩ = some (.int .u8 (ki : Int))) := ⟨(HD.out.cell 0 rfl 0 (by simp)).1, (HD.out.cell 0 rfl 1 (by simp)).1, (HD.out.cell 0 rfl 2 (by simp)).1, (HD.out.cell 0 rfl 3 (by simp)).1⟩
      clear HM HA he0 he1 he2 he3 hg7 HC HB H0
      refine wp_region_any (by kernel_rfl) ?_
      change wpAny _ _ _ _ _ _ _ (World.drew _)
      refine region_pcL (o := ?lastop) _ _ [15, 16, 17, 18, 19, 20, 21, 22, 23, 24, 25, 26, 27, 28, 29, 30, 31, 32, 33, 8] (pcOf (mv5Pc g7 kk k9 ky n yn ki i5 (g7 + 1) xa)) mv5Dp 20 [8, 33] ?_ (by kernel_rfl) (by kernel_rfl) (by kernel_rfl) (by kernel_rfl) (by kernel_rfl) (pcOf_mono _) ?_ ?_
      case' refine_1 => exact rfl
      · -- the steps
        refine StepAll.some (fun a wc hbel hc hp K hK => ?_) ?_
        · -- slot 15
          have q7 : a.tmps[7]?.getD undef = .pointer (some ⟨g7, 0, none⟩) := ev_get (hc 7 (by decide))
          clear hp hc hbel
          go_simp
          exact hK _ _ (Below.refl _ _) (pcOf_mk _ rfl rfl)
        refine StepAll.some (fun a wc hbel hc hp K hK => ?_) ?_
        · -- slot 16
          have p15 := hp (0, 15) (by simp [mv5Dp]) _ rfl
          have q15 : a.tmps[15]?.getD undef = _ := ev_get p15
          clear p15
          have c0 := below_cell hbel HC7.out.1
          clear hp hc hbel
          go_simp
          exact hK _ _ (Below.refl _ _) (pcOf_mk _ rfl rfl)
        refine StepAll.some (fun a wc hbel hc hp K hK => ?_) ?_
        · -- slot 17
          have p16 := hp (1, 16) (by simp [mv5Dp]) _ rfl
          have q16 : a.tmps[16]?.getD undef = _ := ev_get p16
          clear p16
          clear hp hc hbel
          go_simp
          exact hK _ _ (Below.refl _ _) (pcOf_mk _ rfl rfl)
        refine StepAll.some (fun a wc hbel hc hp K hK => ?_) ?_
        · -- slot 18
          have p17 := hp (2, 17) (by simp [mv5Dp]) _ rfl
          have q17 : a.tmps[17]?.getD undef = _ := ev_get p17
          clear p17
          clear hp hc hbel
          go_simp
          try rw [w9]
          exact hK _ _ (Below.refl _ _) (pcOf_mk _ rfl rfl)
        refine StepAll.some (fun a wc hbel hc hp K hK => ?_) ?_
        · -- slot 19
          have q7 : a.tmps[7]?.getD undef = .pointer (some ⟨g7, 0, none⟩) := ev_get (hc 7 (by decide))
          clear hp hc hbel
          go_simp
          exact hK _ _ (Below.refl _ _) (pcOf_mk _ rfl rfl)
        refine StepAll.some (fun a wc hbel hc hp K hK => ?_) ?_
        · -- slot 20
          have p19 := hp (4, 19) (by simp [mv5Dp]) _ rfl
          have q19 : a.tmps[19]?.getD undef = _ := ev_get p19
          clear p19
          have c0 := below_cell hbel HC7.out.2.1
          clear hp hc hbel
          go_simp
          exact hK _ _ (Below.refl _ _) (pcOf_mk _ rfl rfl)
        refine StepAll.some (fun a wc hbel hc hp K hK => ?_) ?_
        · -- slot 21
          have p20 := hp (5, 20) (by simp [mv5Dp]) _ rfl
          have q20 : a.tmps[20]?.getD undef = _ := ev_get p20
          clear p20
          clear hp hc hbel
          go_simp
          try rw [wy]
          exact hK _ _ (Below.refl _ _) (pcOf_mk _ rfl rfl)
        refine StepAll.some (fun a wc hbel hc hp K hK => ?_) ?_
        · -- slot 22
          have q1 : a.tmps[1]?.getD undef = .int .i64 (n : Int) := ev_get (hc 1 (by decide))
          clear hp hc hbel
          go_simp
          exact hK _ _ (Below.refl _ _) (pcOf_mk _ rfl rfl)
        refine StepAll.some (fun a wc hbel hc hp K hK => ?_) ?_
        · -- slot 23
          have p21 := hp (6, 21) (by simp [mv5Dp]) _ rfl
          have q21 : a.tmps[21]?.getD undef = _ := ev_get p21
          clear p21
          have p22 := hp (7, 22) (by simp [mv5Dp]) _ rfl
          have q22 : a.tmps[22]?.getD undef = _ := ev_get p22
          clear p22
          clear hp hc hbel
          go_simp
          exact hK _ _ (Below.refl _ _) (pcOf_mk _ rfl rfl)
        refine StepAll.some (fun a wc hbel hc hp K hK => ?_) ?_
        · -- slot 24
          have q7 : a.tmps[7]?.getD undef = .pointer (some ⟨g7, 0, none⟩) := ev_get (hc 7 (by decide))
          clear hp hc hbel
          go_simp
          exact hK _ _ (Below.refl _ _) (pcOf_mk _ rfl rfl)
        refine StepAll.some (fun a wc hbel hc hp K hK => ?_) ?_
        · -- slot 25
          have p24 := hp (9, 24) (by simp [mv5Dp]) _ rfl
          have q24 : a.tmps[24]?.getD undef = _ := ev_get p24
          clear p24
          have c0 := below_cell hbel HC7.out.2.2.1
          clear hp hc hbel
          go_simp
          exact hK _ _ (Below.refl _ _) (pcOf_mk _ rfl rfl)
        refine StepAll.some (fun a wc hbel hc hp K hK => ?_) ?_
        · -- slot 26
          have p25 := hp (10, 25) (by simp [mv5Dp]) _ rfl
          have q25 : a.tmps[25]?.getD undef = _ := ev_get p25
          clear p25
          clear hp hc hbel
          go_simp
          try rw [wa]
          exact hK _ _ (Below.refl _ _) (pcOf_mk _ rfl rfl)
        refine StepAll.some (fun a wc hbel hc hp K hK => ?_) ?_
        · -- slot 27
          clear hp hc hbel
          go_simp
          exact hK _ _ ((Below.refl wc.heap.size wc).alloc (Nat.le_refl _) _) (pcOf_mk _ rfl ⟨wc.heap.size, rfl, heap_new wc _⟩)
        refine StepAll.some (fun a wc hbel hc hp K hK => ?_) ?_
        · -- slot 28
          have q7 : a.tmps[7]?.getD undef = .pointer (some ⟨g7, 0, none⟩) := ev_get (hc 7 (by decide))
          clear hp hc hbel
          go_simp
          exact hK _ _ (Below.refl _ _) (pcOf_mk _ rfl rfl)
        refine StepAll.some (fun a wc hbel hc hp K hK => ?_) ?_
        · -- slot 29
          have p28 := hp (13, 28) (by simp [mv5Dp]) _ rfl
          have q28 : a.tmps[28]?.getD undef = _ := ev_get p28
          clear p28
          have c0 := below_cell hbel HC7.out.2.2.2
          clear hp hc hbel
          go_simp
          exact hK _ _ (Below.refl _ _) (pcOf_mk _ rfl rfl)
        refine StepAll.some (fun a wc hbel hc hp K hK => ?_) ?_
        · -- slot 30
          have p29 := hp (14, 29) (by simp [mv5Dp]) _ rfl
          have q29 : a.tmps[29]?.getD undef = _ := ev_get p29
          clear p29
          clear hp hc hbel
          go_simp
          exact hK _ _ (Below.refl _ _) (pcOf_mk _ rfl rfl)
        refine StepAll.some (fun a wc hbel hc hp K hK => ?_) ?_
        · -- slot 31
          have p27 := hp (12, 27) (by simp [mv5Dp]) _ rfl
          have p30 := hp (15, 30) (by simp [mv5Dp]) _ rfl
          have q30 : a.tmps[30]?.getD undef = _ := ev_get p30
          clear p30
          obtain ⟨g, e27, h27⟩ := p27
          have q27 := ev_get e27
          have H27 := Aside0.mk h27
          clear e27 h27
          clear hp hc hbel
          go_simp
          exact hK _ _ (Below.refl _ _) (pcOf_mk _ rfl ⟨g, rfl, H27.out⟩)
        refine StepAll.some (fun a wc hbel hc hp K hK => ?_) ?_
        · -- slot 32
          have p31 := hp (16, 31) (by simp [mv5Dp]) _ rfl
          obtain ⟨g, e31, h31⟩ := p31
          have q31 := ev_get e31
          have c0 := cell5 h31 hi5
          clear e31 h31
          clear hp hc hbel
          go_simp
          exact hK _ _ (Below.refl _ _) (pcOf_mk _ rfl rfl)
        refine StepAll.some (fun a wc hbel hc hp K hK => ?_) ?_
        · -- slot 33
          have p18 := hp (3, 18) (by simp [mv5Dp]) _ rfl
          have q18 : a.tmps[18]?.getD undef = _ := ev_get p18
          clear p18
          have p23 := hp (8, 23) (by simp [mv5Dp]) _ rfl
          have q23 : a.tmps[23]?.getD undef = _ := ev_get p23
          clear p23
          have p26 := hp (11, 26) (by simp [mv5Dp]) _ rfl
          have q26 : a.tmps[26]?.getD undef = _ := ev_get p26
          clear p26
          have p32 := hp (17, 32) (by simp [mv5Dp]) _ rfl
          have q32 : a.tmps[32]?.getD undef = _ := ev_get p32
          clear p32
          clear hp hc hbel
          go_simp
          exact hK _ _ (Below.refl _ _) (pcOf_mk _ rfl rfl)
        refine StepAll.some (fun a wc hbel hc hp K hK => ?_) ?_
        · -- slot 8
          have hz := hbel.size
          rw [hgz] at hz
          clear hp hc
          go_simp
          exact hK _ _ ((Below.refl wc.heap.size wc).alloc (Nat.le_refl _) _) (pcOf_mk _ rfl ⟨wc.heap.size, rfl, hz, heap_new wc _⟩)
        exact StepAll.skip rfl (StepAll.nil _)
      · -- the last one
        intro u wc hbel hp K hK
        have p8 := hp 8 (by simp) _ rfl
        have p33 := hp 33 (by simp) _ rfl
        have q8 : ∃ g, u 8 = .pointer (some ⟨g, 0, none⟩) ∧ g7 + 1 ≤ g ∧ wc.heap[g]? = some (.cells #[.int .i64 0, .int .i64 0, .int .i64 0, .string ByteArray.empty, .string ByteArray.empty] 32) := p8
        have q33 : u 33 = .agg #[.int .i64 (k9 : Int), .int .i64 (yn : Int), .int .i64 xa, .string (tbl5 i5), .string ⟨#[116]⟩] := p33
        clear p8 p33 hp
        cases q8 with
        | intro g8 h8 =>
        cases h8 with
        | intro e8 h8 =>
        cases h8 with
        | intro z8 b8 =>
        have H8 : Aside0 (Hold w w.heap.size wc [.blk g8 (.cells #[.int .i64 0, .int .i64 0, .int .i64 0, .string ByteArray.empty, .string ByteArray.empty] 32), .blk g7 (.cells #[.int .u8 (kk : Int), .int .u8 (ky : Int), .int .i8 xa, .int .u8 (ki : Int)] 48), .row kStp 32 u5 sts]) := ⟨Hold.push HD.out (f' := fun k => k = g8) ⟨rfl, b8⟩ (fun k h => by rw [h, hgz]; exact z8) (Chg.of_below hbel _)⟩
        clear b8 hbel z8
        simp only [ov, List.foldl_cons, List.foldl_nil, Act.put, List.setIfInBounds_toArray, List.set_cons_succ, List.set_cons_zero, e8, q33]
        clear e8 q33
        obtain ⟨d0, f0⟩ := H8.out.cell 0 rfl 0 (by simp)
        obtain ⟨d1, f1⟩ := H8.out.cell 0 rfl 1 (by simp)
        obtain ⟨d2, f2⟩ := H8.out.cell 0 rfl 2 (by simp)
        obtain ⟨d3, f3⟩ := H8.out.cell 0 rfl 3 (by simp)
        obtain ⟨d4, f4⟩ := H8.out.cell 0 rfl 4 (by simp)
        have H9 := Aside0.mk ((((((H8.out).store 0 rfl 0 (.int .i64 (k9 : Int))).store 0 rfl 1 (.int .i64 (yn : Int))).store 0 rfl 2 (.int .i64 xa)).store 0 rfl 3 (.string (tbl5 i5))).store 0 rfl 4 (.string ⟨#[116]⟩))
        clear H8 HD HC7
        go_simp
        refine hK _ _ ?_
        clear hK K
        have hk9' : k9 < 9 := by omega
        have hyn' : yn < n := by rw [← hyn]; exact Nat.mod_lt _ hn
        have hsz := tbl5_size i5
        generalize World.setCell _ ⟨g8, 4, none⟩ _ = wq at *
        have b0 := (H9.out.cell 0 rfl 0 (by simp)).1
        have b1 := (H9.out.cell 0 rfl 1 (by simp)).1
        have b2 := (H9.out.cell 0 rfl 2 (by simp)).1
        have b3 := (H9.out.cell 0 rfl 3 (by simp)).1
        have b4 := (H9.out.cell 0 rfl 4 (by simp)).1
        simp at b0 b1 b2 b3 b4
        by_cases h7 : 6 < k9
        · have HX := H9.out.store 0 rfl 3 (.string ((⟨#[112]⟩ : ByteArray) ++ tbl5 i5))
          have b3f := (H9.out.cell 0 rfl 3 (by simp)).2
          have c0 := (HX.cell 0 rfl 0 (by simp)).1
          have c1 := (HX.cell 0 rfl 1 (by simp)).1
          have c2 := (HX.cell 0 rfl 2 (by simp)).1
          have c3 := (HX.cell 0 rfl 3 (by simp)).1
          have c4 := (HX.cell 0 rfl 4 (by simp)).1
          simp at c0 c1 c2 c3 c4
          have HY := Aside0.mk HX
          have hok : Aside0 (StpOk n (k9, yn, xa, (⟨#[112]⟩ : ByteArray) ++ tbl5 i5, ⟨#[116]⟩)) := ⟨⟨by show k9 ≤ 8; omega, hyn', by show ((⟨#[112]⟩ : ByteArray) ++ tbl5 i5).size ≤ maxLen; rw [ByteArray.size_append, hsz]; decide⟩⟩
          clear HX H9
          go_wp2_with ((with_reducible refine at_bi (b := .append) (xs := #[.tmp 41, .tmp 43]) rfl ?_); at_builtin; refine Hold.append1 kStp 2 HY.out rfl rfl (.tmp 41) (.tmp 43) 28 (.agg #[.int .i64 0, .int .i64 0, .int .i64 0, .string ByteArray.empty, .string ByteArray.empty]) 56 rfl Tryz.underlying28 info32 rfl (by decide) (by decide) (k9, yn, xa, (⟨#[112]⟩ : ByteArray) ++ tbl5 i5, ⟨#[116]⟩) [.int .i64 (k9 : Int), .int .i64 (yn : Int), .int .i64 xa, .string ((⟨#[112]⟩ : ByteArray) ++ tbl5 i5), .string ⟨#[116]⟩] rfl (by show Value.slice (some ⟨_, 0, none⟩) 1 1 = _; simp) rfl (by rw [H12.out.1]; omega) ?_; intro v1 wz HZ'; have HZ := Aside0.mk HZ'; clear HZ')
          go_roundw
          case rel => exact ⟨j + 1, hj1, by go_num, MvI.next H12.out.1 H12.out.2 hok.out (Hold.pickA (M := [_, _, _]) (HZ.out : Hold w w.heap.size _ ([_, _, _] ++ [])) [2] (by decide) (by simp) (M' := [_]) rfl)⟩
          case measure => simp [intOf]; omega
        · have HY := H9
          have hok : Aside0 (StpOk n (k9, yn, xa, tbl5 i5, ⟨#[116]⟩)) := ⟨⟨by show k9 ≤ 8; omega, hyn', by show (tbl5 i5).size ≤ maxLen; rw [hsz]; decide⟩⟩
          clear H9
          go_wp2_with ((with_reducible refine at_bi (b := .append) (xs := #[.tmp 41, .tmp 43]) rfl ?_); at_builtin; refine Hold.append1 kStp 2 HY.out rfl rfl (.tmp 41) (.tmp 43) 28 (.agg #[.int .i64 0, .int .i64 0, .int .i64 0, .string ByteArray.empty, .string ByteArray.empty]) 56 rfl Tryz.underlying28 info32 rfl (by decide) (by decide) (k9, yn, xa, tbl5 i5, ⟨#[116]⟩) [.int .i64 (k9 : Int), .int .i64 (yn : Int), .int .i64 xa, .string (tbl5 i5), .string ⟨#[116]⟩] rfl rfl rfl (by rw [H12.out.1]; omega) ?_; intro v1 wz HZ'; have HZ := Aside0.mk HZ'; clear HZ')
          go_roundw
          case rel => exact ⟨j + 1, hj1, by go_num, MvI.next H12.out.1 H12.out.2 hok.out (Hold.pickA (M := [_, _, _]) (HZ.out : Hold w w.heap.size _ ([_, _, _] ++ [])) [2] (by decide) (by simp) (M' := [_]) rfl)⟩
          case measure => simp [intOf]; omega
    · obtain rfl : j = l.length := by omega
      have HI := Aside0.mk hI
      clear hI
      go_wp2
      go_ret
      exact ⟨_, rfl, HI.out⟩
end Go.Proofs.YtpcbmjphffpplaaGreatDoor
