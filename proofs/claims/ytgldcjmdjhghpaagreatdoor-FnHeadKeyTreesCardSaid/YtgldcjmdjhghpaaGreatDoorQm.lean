/-
  spec.headHex and spec.HeadEscape: their contracts.
  laws.headLive: its contract; '[]byte(s)' in the walk's words; what small headers tell. Printed by hlgen.py.
-/
import Derived.Test.YtgldcjmdjhghpaaGreatDoorQj
import Derived.Test.YtgldcjmdjhghpaaGreatDoorQk
import Derived.Laws.BitsAllLaws
import Derived.Test.YtgldcjmdjhghpaaGreatDoorQl
import Derived.Lib.ConvBytes
import Derived.Lib.SlBytesConst
namespace Go.Proofs.YtgldcjmdjhghpaaGreatDoor
open Go.RowKit Go.Proofs.YtgldcjmdjhghpaaGreatDoorW.PrintWords Go.ChangeShapes Go.WideShapes
set_option linter.unusedVariables false
set_option linter.unusedSimpArgs false
set_option maxRecDepth 100000
theorem i32_and (a b : Nat) (ha : a < 2147483648) (hb : b < 2147483648) : bits .and .i32 (a : Int) (b : Int) = ((a &&& b : Nat) : Int) := by
  have e1 : (BitVec.ofInt 32 (a : Int)).toNat = a := ofInt_u32 a (by omega)
  have e2 : (BitVec.ofInt 32 (b : Int)).toNat = b := ofInt_u32 b (by omega)
  show IntKind.i32.wrap ((BitVec.ofInt 32 (a : Int) &&& BitVec.ofInt 32 (b : Int)).toNat : Int) = _
  rw [BitVec.toNat_and, e1, e2]
  have : a &&& b ≤ b := Nat.and_le_right
  rw [IntKind.wrap_i32]
  omega
def hexAll : Bs := [48, 49, 50, 51, 52, 53, 54, 55, 56, 57, 97, 98, 99, 100, 101, 102]
theorem hexAll_at (d : Nat) (h : d < 16) : (bStr hexAll).extract d (d + 1) = bStr [hxD d] := by
  rw [bStr_ext]
  have : ∀ d : Fin 16, (hexAll.take (d.val + 1)).drop d.val = [hxD d.val] := by decide
  rw [this ⟨d, h⟩]
/-- The digit at a place. -/
def hexAt (n j : Nat) : Nat := n / 2 ^ (12 - 4 * j) % 16
theorem hex4_take (n j : Nat) (h : j < 4) : (hex4 n).take (j + 1) = (hex4 n).take j ++ [hxD (hexAt n j)] := by
  match j, h with
  | 0, _ => rfl
  | 1, _ => rfl
  | 2, _ => rfl
  | 3, _ =>
    have : hexAt n 3 = n % 16 := by unfold hexAt; rw [show 2 ^ (12 - 4 * 3) = 1 by decide, Nat.div_one]
    rw [this]
    rfl
theorem bStr_app (a b : Bs) : bStr a ++ bStr b = bStr (a ++ b) := by
  apply data_ext
  rw [bStr_list]
  show ((bStr a).append (bStr b)).data.toList = _
  simp [bStr]
set_option maxHeartbeats 1000000 in
theorem headHex_any (n : Nat) (w : World) (hn : n < 65536) :
    Calls Tryz.prog 39 #[.int .i32 (n : Int)] w fun e w' => e = .returned (.string (bStr (hexE n))) ∧ w = w' := by
  have h0 : (0 : Int) ≤ (n : Int) := by omega
  have h1 : (n : Int) < 65536 := by omega
  go_enter Tryz.func39, Tryz.ntmps39
  go_wp2
  go_loop [3, 4] (fun s3 s4 => ∃ j : Nat, ∃ x : Int, j ≤ 4 ∧ s4 = .int .i64 x ∧ x = 12 - 4 * j ∧ s3 = .string (bStr (92 :: 117 :: (hex4 n).take j))) (fun s3 s4 => ((intOf s4) + 4).toNat)
  case atStart => exact ⟨0, 12, by omega, rfl, rfl, rfl⟩
  case round =>
    obtain ⟨j, x, hj, rfl, hx, rfl⟩ := hrel
    have hsz : (bStr (92 :: 117 :: (hex4 n).take j)).size ≤ 6 := by
      rw [bStr_size, List.length_cons, List.length_cons, List.length_take]
      have : (hex4 n).length = 4 := rfl
      omega
    by_cases hlt : j < 4
    · have x1 : 0 ≤ x := by omega
      have x2 : x ≤ 12 := by omega
      obtain ⟨m, hm⟩ : ∃ m, m = n / 2 ^ (12 - 4 * j) := ⟨_, rfl⟩
      have hxn : x.toNat = 12 - 4 * j := by omega
      have hmn : m < 65536 := Nat.lt_of_le_of_lt (by rw [hm]; exact Nat.div_le_self _ _) hn
      have hs1 : (n : Int) / 2 ^ x.toNat = (m : Int) := by rw [hxn, hm]; simp
      have hs2 : (n : Int) / 2 ^ min x.toNat 32 = (m : Int) := by rw [show min x.toNat 32 = 12 - 4 * j by omega, hm]; simp
      obtain ⟨d, hd⟩ : ∃ d, d = hexAt n j := ⟨_, rfl⟩
      have hd2 : d < 16 := by rw [hd]; exact Nat.mod_lt _ (by decide)
      have ha : bits .and .i32 (m : Int) 15 = (d : Int) := by
        rw [show (15 : Int) = ((15 : Nat) : Int) from rfl, i32_and m 15 (by omega) (by omega), show (15 : Nat) = 2 ^ 4 - 1 by decide, Nat.and_two_pow_sub_one_eq_mod, hd, hm]
        rfl
      obtain ⟨u, hu⟩ : ∃ u, u = bStr [hxD d] := ⟨_, rfl⟩
      have hex : (⟨#[48, 49, 50, 51, 52, 53, 54, 55, 56, 57, 97, 98, 99, 100, 101, 102]⟩ : ByteArray).extract d (d + 1) = u := by rw [hu]; exact hexAll_at d hd2
      obtain ⟨t, ht⟩ : ∃ t, t = bStr (92 :: 117 :: (hex4 n).take j) := ⟨_, rfl⟩
      rw [← ht] at hsz ⊢
      have hus : u.size = 1 := by rw [hu]; rfl
      have husz : u.size ≤ 1 := by omega
      have d0 : (0 : Int) ≤ (d : Int) := by omega
      have d1 : (d : Int) < 16 := by omega
      have HX := Aside0.mk (And.intro hx (And.intro hd (And.intro hu ht)))
      clear hx hm hxn hd hu ht hus hmn
      go_wp2
      go_round
      case rel =>
        refine ⟨j + 1, x - 4, hlt, rfl, by have := HX.out.1; omega, ?_⟩
        rw [hex4_take n j hlt, ← HX.out.2.1, HX.out.2.2.1, HX.out.2.2.2, bStr_app]
        rfl
      case measure => simp [intOf]; omega
    · obtain rfl : j = 4 := by omega
      have x1 : x < 0 := by omega
      have hd : decide (0 ≤ x) = false := decide_eq_false (by omega)
      clear hx
      go_wp2
      go_ret
      exact ⟨rfl, rfl⟩
end Go.Proofs.YtgldcjmdjhghpaaGreatDoor
namespace Go.Proofs.YtgldcjmdjhghpaaGreatDoor
open Go.RowKit Go.Proofs.YtgldcjmdjhghpaaGreatDoorW.PrintWords Go.ChangeShapes Go.WideShapes
set_option linter.unusedVariables false
set_option linter.unusedSimpArgs false
set_option maxRecDepth 100000
/-- '[]byte(s)', as an equation. -/
theorem conv_s2b (w : World) (s : Bs) (hs : s.length ≤ 1000000000000) :
    ∃ W g cap, (convert 9 30 (.string (bStr s))).run Tryz.prog w = .ok (.slice (some ⟨g, 0, none⟩) s.length cap) W ∧ BufAt w.heap.size W g cap s ∧ Below w.heap.size w W := by
  have cv := Lib.run_convert_string_bytes (P := Tryz.prog) w 9 30 5 (bStr s) Tryz.underlying9 Tryz.underlying30 Tryz.underlying5
  have hsz : (bStr s).size = s.length := rfl
  have hb : Below w.heap.size w (Lib.bytesWorld w 5 (bStr s)) := (Below.refl w.heap.size w).grown (row := none) ⟨rfl, rfl, rfl, by rw [Lib.bytesWorld_size]; omega, fun k hk _ => Lib.bytesWorld_at_old w 5 (bStr s) k hk⟩ (Nat.le_refl _) (fun k h => by cases h)
  have hat := Lib.bytesWorld_at_new w 5 (bStr s)
  have hge : s.length ≤ grownCap w (bStr s).size 0 5 := grownCap_ge w _ _ _
  have hcs : (Lib.bytesCells w 5 (bStr s)).size = grownCap w (bStr s).size 0 5 := by
    unfold Lib.bytesCells
    rw [Array.size_append, Array.size_map, Array.size_replicate]
    show s.length + _ = _
    rw [hsz] at hge ⊢
    omega
  have hB : BufAt w.heap.size (Lib.bytesWorld w 5 (bStr s)) w.heap.size (grownCap w (bStr s).size 0 5) s := by
    refine ⟨Nat.le_refl _, by rw [Lib.bytesWorld_size]; omega, hge, grownCap_le_maxLen _ _ _ _ (by rw [hsz]; unfold maxLen; omega), fun j hj => ?_, fun j hj => ?_, fun j u hu => ?_⟩
    · rw [cell_of hat, Array.getElem?_eq_getElem (by omega)]
      rfl
    · simp only [World.frozen?, hat]
      simp
      omega
    · have hj : j < s.length := (List.getElem?_eq_some_iff.1 hu).1
      rw [Lib.bytesWorld_cell w _ _ _ hj]
      show some (Value.int .u8 ((s.toArray.toList.getD j 0).toNat : Int)) = _
      rw [List.getD_eq_getElem?_getD]
      simp [hu, bV]
  exact ⟨_, _, _, cv, hB, hb⟩
theorem bStr_toList (l : Bs) : (bStr l).toList = l := ByteArray.toList_mk l
/-- A text's letters as a block that has just been made, with a mark behind them. -/
theorem litC (w : World) (cs : Array Value) (T : Nat) (s : Bs) (fr : Nat × Nat) (hcs : cs = (s.map bV).toArray) (hl : s.length ≤ 1000000) : kB.C (w.alloc (.cells cs T fr)) (some ⟨w.heap.size, 0, none⟩) s.length s := by
  subst hcs
  refine C_of_cellsP (by omega) (fun j hj => ?_)
  rw [World.cell?_alloc_mark]
  simp [List.getElem?_eq_getElem hj]
theorem FitO.one {k : Bs} {v : JV} (hk : Well k ∧ k.length ≤ 900000000000) (hv : fitV v) : FitO (some (.obj [(k, v)])) := fun x hx => by
  injection hx with hx
  subst hx
  exact ⟨_, rfl, ⟨fun q hq => by rw [List.map_singleton, List.mem_singleton] at hq; rw [hq]; exact hk⟩, fun p hp => by rw [List.mem_singleton] at hp; rw [hp]; exact hv⟩
theorem tGet_one {k kv : Bs} (hk : Pieces k kv) (v : JV) : tGet (some (.obj [(k, v)])) kv = some v := by
  show oGet [(k, v)] kv = some v
  rw [oGet_name (by simp), List.find?_cons]
  show Option.map _ (match unesc k == kv with | true => some (k, v) | false => _) = _
  rw [hk.unesc, beq_self_eq_true]
  rfl
theorem plain_all (s : Bs) (h : s.all plainKey = true) : Pieces s s := by
  have := Pieces.plain s (fun c hc => by
    have := List.all_eq_true.1 h c hc
    unfold plainKey at this
    rw [Bool.and_eq_true, bne_iff_ne, bne_iff_ne] at this
    exact this) .nil
  rwa [List.append_nil] at this
/-- What the two small headers are. -/
theorem live_alg : pTop ([123, 34, 97, 108, 103, 34, 58, 34, 110, 111, 110, 101, 34, 125] : Bs) = some (.obj [([97, 108, 103], .str [110, 111, 110, 101])]) := one_field (k := [97, 108, 103]) (raw := [110, 111, 110, 101]) (plain_all [97, 108, 103] (by decide)) (plain_all [110, 111, 110, 101] (by decide))
theorem live_nul : pTop ([123, 34, 97, 34, 58, 110, 117, 108, 108, 125] : Bs) = some (.obj [([97], .nul)]) := by
  have h1 : ReadsP .nul wNULL 0 := ⟨[], wNULL, [], rfl, .nil, .nil, ⟨_, _, rfl, rfl⟩, reads_nul⟩
  have h2 := reads_obj (dep := 0) (l := [(([97], .nul), 34 :: ([97] ++ 34 :: 58 :: wNULL))]) (fun p hp => by
    rw [List.mem_singleton] at hp
    subst hp
    exact ⟨[], [97], [], wNULL, rfl, .nil, .nil, plain_all [97] (by decide), h1⟩) (by simp)
  have h3 : ReadsP (.obj [([97], .nul)]) ([123, 34, 97, 34, 58, 110, 117, 108, 108, 125] : Bs) 1 := ⟨[], _, [], rfl, .nil, .nil, ⟨_, _, rfl, rfl⟩, h2⟩
  exact pTop_of h3 (by omega)
end Go.Proofs.YtgldcjmdjhghpaaGreatDoor
