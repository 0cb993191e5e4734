/-
  encoding/base64: decodeQuantum on letters and signs of padding, told whole by one pure function.
-/
import Derived.Test.YtdldblfklalaeaaGreatDoorQE0
import Derived.Test.YtdldblfklalaeaaGreatDoorQE1
import Derived.Test.YtdldblfklalaeaaGreatDoorQE2
namespace Go.Proofs.YtdldblfklalaeaaGreatDoor
open Go.RowKit Go.Proofs.YtdldblfklalaeaaGreatDoorW.PrintWords Go.Lib
set_option linter.unusedVariables false
set_option linter.unusedSimpArgs false
def padOf (raw : Bool) : Int := if raw then -1 else 61
def okC (url raw : Bool) (c : UInt8) : Bool := isL url c || (!raw && c == 61)
theorem ok_cases {url raw : Bool} {c : UInt8} (h : okC url raw c = true) : isL url c = true ∨ (raw = false ∧ c = 61) := by
  unfold okC at h
  cases h1 : isL url c with
  | true => exact .inl rfl
  | false => rw [h1] at h; cases raw <;> simp_all
theorem ok_nl {url raw : Bool} {c : UInt8} (h : okC url raw c = true) : c ≠ 10 ∧ c ≠ 13 := by
  rcases ok_cases h with h | ⟨_, rfl⟩
  · exact dX_nl url c (isL_iff.1 h)
  · exact ⟨by decide, by decide⟩
theorem l_ne61 {url : Bool} {c : UInt8} (h : isL url c = true) : c ≠ 61 := by
  rintro rfl
  rw [isL_61] at h
  cases h
/-- One group: the bytes, and how many letters were read. -/
def decStep (url raw : Bool) : List UInt8 → Option (List UInt8 × Nat)
  | x :: y :: z :: u :: r =>
    if isL url x && isL url y && isL url z && isL url u then some ([byA (dX url x) (dX url y), byB (dX url y) (dX url z), byC (dX url z) (dX url u)], 4)
    else if !raw && r.isEmpty && isL url x && isL url y && (u == 61) then
      (if isL url z then some ([byA (dX url x) (dX url y), byB (dX url y) (dX url z)], 4) else if z == 61 then some ([byA (dX url x) (dX url y)], 4) else none)
    else none
  | [x, y, z] => if raw && isL url x && isL url y && isL url z then some ([byA (dX url x) (dX url y), byB (dX url y) (dX url z)], 3) else none
  | [x, y] => if raw && isL url x && isL url y then some ([byA (dX url x) (dX url y)], 2) else none
  | [x] => none
  | [] => none
theorem decAll_step (url raw : Bool) (rs : List UInt8) (h : rs ≠ []) : decAll url raw rs = (decStep url raw rs).bind fun q => (decAll url raw (rs.drop q.2)).map (q.1 ++ ·) := by
  match rs, h with
  | [x], _ => rfl
  | [x, y], _ => simp only [decAll, decStep]; split <;> simp [decAll]
  | [x, y, z], _ => simp only [decAll, decStep]; split <;> simp [decAll]
  | x :: y :: z :: u :: r, _ =>
    simp only [decAll, decStep]
    split
    · simp
    · split
      · rename_i h1 h2
        have hr : r = [] := by
          simp only [Bool.and_eq_true, List.isEmpty_iff] at h2
          exact h2.1.1.1.2
        subst hr
        split
        · simp [decAll]
        · split <;> simp [decAll]
      · rfl
/-- What a group's walk leaves: as the pure function has it. -/
def QPost (w0 : World) (B : Nat) (L : List Asrt) (url raw : Bool) (g gd off t si : Nat) (cs : Array Value) (e : Ending) (w' : World) : Option (List UInt8 × Nat) → Prop
  | some q => e = .returned (.tuple #[.int .i64 (si + q.2 : Nat), .int .i64 q.1.length, .nilIface]) ∧ ∃ cs', Wrote cs cs' off q.1 ∧ Hold w0 B w' (.blk g (.cells (encX url (padOf raw)) 220) :: .blk gd (.cells cs' t) :: L)
  | none => (∃ s k t' v, e = .returned (.tuple #[.int .i64 s, .int .i64 k, .iface t' v])) ∧ ∃ cs', cs'.size = cs.size ∧ Hold w0 B w' (.blk g (.cells (encX url (padOf raw)) 220) :: .blk gd (.cells cs' t) :: L)
set_option maxHeartbeats 2000000 in
theorem quantS_any {w0 : World} {B : Nat} {L : List Asrt} (w : World) (url raw : Bool) (g gd off b o n c m cap t si : Nat) (D : Option Addr) (ts : List UInt8) (cs : Array Value) (hn : n ≤ 1000000000)
    (hD : 0 < m → D = some ⟨gd, off, none⟩) (hfit : off + m ≤ cs.size) (hne : g ≠ gd) (H : Hold w0 B w (.blk g (.cells (encX url (padOf raw)) 220) :: .blk gd (.cells cs t) :: L))
    (hC : kB.C w (some ⟨b, o, none⟩) n ts) (hok : ∀ k ∈ ts, okC url raw k = true) (hs : si < n) (hr4 : si + 4 ≤ n → 3 ≤ m) (hrr : raw = true → (n - si) * 6 / 8 ≤ m) :
    Calls Tryz.prog 199 #[.pointer (some ⟨g, 0, none⟩), .slice D m cap, .slice (some ⟨b, o, none⟩) n c, .int .i64 si] w fun e w' => QPost w0 B L url raw g gd off t si cs e w' (decStep url raw (ts.drop si)) := by
  obtain rfl := hC.1
  obtain ⟨rs, hrs⟩ : ∃ rs, rs = ts.drop si := ⟨_, rfl⟩
  have hg : ∀ j v, rs[j]? = some v → ts[si + j]? = some v := by
    intro j v h
    rw [hrs, List.getElem?_drop] at h
    exact h
  have hlen : rs.length = ts.length - si := by rw [hrs, List.length_drop]
  have hok' : ∀ c ∈ rs, okC url raw c = true := fun c hc => hok c (List.mem_of_mem_drop (by rw [← hrs]; exact hc))
  rw [← hrs]
  clear hrs hok
  match rs, hg, hlen, hok' with
  | [], _, hlen, _ => simp at hlen; omega
  | x :: rs1, hg, hlen, hok =>
    have g0 : ts[si]? = some x := hg 0 x rfl
    rcases (ok_cases (hok x (by simp))).symm with ⟨rfl, rfl⟩ | lx
    · have e : decStep url false (61 :: rs1) = none := by
        match rs1 with
        | [] => rfl
        | [y] => simp [decStep]
        | [y, z] => simp [decStep]
        | y :: z :: u :: r => simp [decStep, isL_61]
      rw [e]
      exact qe_0 w url g gd off b o _ c m cap t si D ts cs hn hne H hC (by omega) g0
    have vx := isL_iff.1 lx
    match rs1, hg, hlen, hok with
    | [], hg, hlen, hok =>
      exact qe_1 w url (padOf raw) g gd off b o _ c m cap t si D ts cs hn hne H hC (by simp at hlen; omega) x g0 vx
    | y :: rs2, hg, hlen, hok =>
      have g1 : ts[si + 1]? = some y := hg 1 y rfl
      rcases (ok_cases (hok y (by simp))).symm with ⟨rfl, rfl⟩ | ly
      · have e : decStep url false (x :: 61 :: rs2) = none := by
          match rs2 with
          | [] => simp [decStep]
          | [z] => simp [decStep]
          | z :: u :: r => simp [decStep, isL_61]
        rw [e]
        exact qe_2 w url g gd off b o _ c m cap t si D ts cs hn hne H hC (by simp at hlen; omega) x g0 vx g1
      have vy := isL_iff.1 ly
      match rs2, hg, hlen, hok with
      | [], hg, hlen, hok =>
        have hl : ts.length = si + 2 := by simp at hlen; omega
        cases raw with
        | true =>
          have e : decStep url true [x, y] = some ([byA (dX url x) (dX url y)], 2) := by simp [decStep, lx, ly]
          rw [e]
          have hm : 1 ≤ m := by have := hrr rfl; rw [hl] at this; omega
          exact quant2_any w url g gd off b o _ c m cap t si D ts cs hn (hD hm) hm hfit hne H hC hl.symm x y g0 g1 vx vy
        | false =>
          have e : decStep url false [x, y] = none := by simp [decStep]
          rw [e]
          exact qe_3 w url g gd off b o _ c m cap t si D ts cs hn hne H hC hl x y g0 g1 vx vy
      | z :: rs3, hg, hlen, hok =>
        have g2 : ts[si + 2]? = some z := hg 2 z rfl
        match rs3, hg, hlen, hok with
        | [], hg, hlen, hok =>
          have hl : ts.length = si + 3 := by simp at hlen; omega
          rcases ok_cases (hok z (by simp)) with lz | ⟨rfl, rfl⟩
          · have vz := isL_iff.1 lz
            cases raw with
            | true =>
              have e : decStep url true [x, y, z] = some ([byA (dX url x) (dX url y), byB (dX url y) (dX url z)], 3) := by simp [decStep, lx, ly, lz]
              rw [e]
              have hm : 2 ≤ m := by have := hrr rfl; rw [hl] at this; omega
              exact quant3_any w url g gd off b o _ c m cap t si D ts cs hn (hD (by omega)) hm hfit hne H hC hl.symm x y z g0 g1 g2 vx vy vz
            | false =>
              have e : decStep url false [x, y, z] = none := by simp [decStep]
              rw [e]
              exact qe_5 w url g gd off b o _ c m cap t si D ts cs hn hne H hC hl x y z g0 g1 g2 vx vy vz
          · have e : decStep url false [x, y, 61] = none := by simp [decStep]
            rw [e]
            exact qe_4a w url g gd off b o _ c m cap t si D ts cs hn hne H hC hl x y g0 g1 vx vy g2
        | u :: r, hg, hlen, hok =>
          have g3 : ts[si + 3]? = some u := hg 3 u rfl
          have hl4 : si + 4 ≤ ts.length := by simp at hlen; omega
          have hm := hr4 hl4
          have hD' := hD (by omega)
          rcases ok_cases (hok z (by simp)) with lz | ⟨rfl, rfl⟩
          · have vz := isL_iff.1 lz
            rcases ok_cases (hok u (by simp)) with lu | ⟨rfl, rfl⟩
            · have vu := isL_iff.1 lu
              have e : decStep url raw (x :: y :: z :: u :: r) = some ([byA (dX url x) (dX url y), byB (dX url y) (dX url z), byC (dX url z) (dX url u)], 4) := by simp [decStep, lx, ly, lz, lu]
              rw [e]
              exact quant4_any w url (padOf raw) g gd off b o _ c m cap t si D ts cs hn hD' hm hfit hne H hC hl4 x y z u g0 g1 g2 g3 vx vy vz vu
            · match r, hg, hlen, hok with
              | [], hg, hlen, hok =>
                have e : decStep url false [x, y, z, 61] = some ([byA (dX url x) (dX url y), byB (dX url y) (dX url z)], 4) := by simp [decStep, lx, ly, lz, isL_61]
                rw [e]
                exact qe_c3 w url g gd off b o _ c m cap t si D ts cs hn hD' (by omega) hfit hne H hC (by simp at hlen; omega) x y z g0 g1 g2 vx vy vz g3
              | k :: r', hg, hlen, hok =>
                have e : decStep url false (x :: y :: z :: 61 :: k :: r') = none := by simp [decStep, isL_61]
                rw [e]
                exact qe_6 w url g gd off b o _ c m cap t si D ts cs hn hD' (by omega) hfit hne H hC (by simp at hlen; omega) x y z g0 g1 g2 vx vy vz g3 k (hg 4 k rfl) (ok_nl (hok k (by simp)))
          · rcases ok_cases (hok u (by simp)) with lu | ⟨_, rfl⟩
            · have e : decStep url false (x :: y :: 61 :: u :: r) = none := by simp [decStep, isL_61, l_ne61 lu]
              rw [e]
              exact qe_4b w url g gd off b o _ c m cap t si D ts cs hn hne H hC hl4 x y g0 g1 vx vy g2 u g3 ⟨(ok_nl (hok u (by simp))).1, (ok_nl (hok u (by simp))).2, l_ne61 lu⟩
            · match r, hg, hlen, hok with
              | [], hg, hlen, hok =>
                have e : decStep url false [x, y, 61, 61] = some ([byA (dX url x) (dX url y)], 4) := by simp [decStep, lx, ly, isL_61]
                rw [e]
                exact qe_c2 w url g gd off b o _ c m cap t si D ts cs hn hD' (by omega) hfit hne H hC (by simp at hlen; omega) x y g0 g1 vx vy g2 g3
              | k :: r', hg, hlen, hok =>
                have e : decStep url false (x :: y :: 61 :: 61 :: k :: r') = none := by simp [decStep, isL_61]
                rw [e]
                exact qe_4d w url g gd off b o _ c m cap t si D ts cs hn hD' (by omega) hfit hne H hC (by simp at hlen; omega) x y g0 g1 vx vy g2 g3 k (hg 4 k rfl) (ok_nl (hok k (by simp)))
end Go.Proofs.YtdldblfklalaeaaGreatDoor
