/-
  jwk's set: RemoveKey: its contract. Printed by ksfgen.py.
  impl.KeyRun: the closure that finds a key's index; what a run holds; what it computes.
  impl.KeyRun: how the keys are made: the first loop.
  impl.KeyRun: what the second loop holds.
  impl.KeyRun: keys by index and by block.
  impl.KeyRun: what its drawn regions hold: AddKey, RemoveKey, Index, Key, LookupKeyID over what stands in a round.
  impl.KeyRun: what a round holds behind the switch: the names, the length, the keys' list, and how it ends.
-/
import Derived.Test.YtpcbmjphffpplaaGreatDoorKa1
import Derived.Test.YtpcbmjphffpplaaGreatDoorKa2
import Derived.Deep.DeepCutAuto
import Derived.Deep.CutBlock
import Derived.Test.YtpcbmjphffpplaaGreatDoorKa4
namespace Go.Proofs.YtpcbmjphffpplaaGreatDoor
open Go.RowKit Go.Proofs.YtpcbmjphffpplaaGreatDoorW.PrintWords
set_option linter.unusedVariables false
set_option linter.unusedSimpArgs false
set_option maxRecDepth 100000
theorem erase_at (k : Nat) : ∀ (ks : List Nat) (j : Nat) (hj : j < ks.length), ks[j] = k → k ∉ ks.take j → ks.erase k = ks.take j ++ ks.drop (j + 1)
  | x :: r, 0, _, h, _ => by
    obtain rfl : x = k := h
    simp
  | x :: r, j + 1, hj, h, hn => by
    have hx : ¬ x = k := fun e => hn (by rw [e]; simp)
    have ih := erase_at k r j (by simpa using hj) (by simpa using h) (fun hm => hn (by rw [List.take_succ_cons]; exact List.mem_cons_of_mem _ hm))
    rw [List.erase_cons, if_neg (by simpa using hx), ih]
    simp
section
variable {w0 : World} {B : Nat} {L : List Asrt}
/-- A slice that is not empty: where it stands. -/
theorem Hold.slAddr {α : Type} {enc : α → Value} {w : World} (hS : Hold w0 B w L) (i : Nat) {v : Value} {xs : List α} (hi : L[i]? = some (.sl enc v xs)) (hne : xs ≠ []) : ∃ g off c, v = .slice (some ⟨g, off, none⟩) xs.length c ∧ xs.length ≤ c ∧ ∀ j (h : j < xs.length), w.cell? ⟨g, off + j, none⟩ = some (enc xs[j]) := by
  obtain ⟨f, hp, _⟩ := hS.get i hi
  rcases hp.out with ⟨_, h⟩ | ⟨g, off, cap, e, _, _, h2, _, _, h5⟩
  · exact absurd h hne
  · exact ⟨g, off, cap, e, h2, fun j h => h5 j _ (List.getElem?_eq_getElem h)⟩
/-- An empty slice of one's own, wherever it is said to begin. -/
theorem Hold.slVoid {α : Type} {enc : α → Value} {w : World} (hS : Hold w0 B w L) (i : Nat) {g off n c : Nat} {xs : List α} (hi : L[i]? = some (.sl enc (.slice (some ⟨g, off, none⟩) n c) xs)) (off' : Nat) : Hold w0 B w (L.set i (.sl enc (.slice (some ⟨g, off', none⟩) 0 0) [])) := by
  obtain ⟨f, hp, hb, hkp⟩ := hS.focus i hi
  refine hkp w _ f ?_ (fun k h => .inl h) (Chg.none_ _ _)
  rcases hp.out with ⟨e, _⟩ | ⟨g1, off1, cap, e, hf, hlt, _⟩
  · cases e
  · injection e with e1
    injection e1 with e1
    injection e1 with e1
    subst e1
    exact ⟨.inr ⟨g, off', 0, rfl, hf, hlt, Nat.le_refl _, Nat.zero_le _, fun j h => absurd h (Nat.not_lt_zero _), fun j x h => by simp at h⟩⟩
theorem Hold.slTail1 {α : Type} {enc : α → Value} {w : World} (hS : Hold w0 B w L) (i : Nat) {g off n c : Nat} {x : α} {xs : List α} (hi : L[i]? = some (.sl enc (.slice (some ⟨g, off, none⟩) n c) (x :: xs))) : Hold w0 B w (L.set i (.sl enc (.slice (some ⟨g, off + 1, none⟩) xs.length (c - 1)) xs)) := by
  have h := hS.slTail i hi
  have hn : n = (x :: xs).length := by
    obtain ⟨f, hp, _⟩ := hS.get i hi
    rcases hp.out with ⟨e, _⟩ | ⟨g1, off1, cap, e, _⟩
    · cases e
    · injection e
  rw [hn, Addr.add_lit] at h
  exact h
set_option maxHeartbeats 4000000 in
theorem removeKey_no (w : World) (gs gm k : Nat) (kv : Value) (ks : List Nat) (hk : IsKy w k) (hks : ∀ x ∈ ks, IsKy w x) (hkl : ks.length ≤ 1000000) (hn : k ∉ ks) (hS : Hold w0 B w (.blk gs (.cells #[kv, .map (some gm)] 95) :: .sl kyV kv ks :: L)) :
    Calls Tryz.prog 115 #[.pointer (some ⟨gs, 0, none⟩), kyV k] w fun e w' => ∃ g, e = .returned (.iface 135 (.pointer (some ⟨g, 0, none⟩))) ∧ Hold w0 B w' (.blk gs (.cells #[kv, .map (some gm)] 95) :: .sl kyV kv ks :: L) := by
  obtain ⟨A, c, rfl, hc, hC⟩ := hS.slReads kyV_one 1 rfl
  obtain ⟨c0, f0⟩ := hS.cell 0 rfl 0 (by simp)
  have hlt := hS.blk_lt 0 rfl
  have HC := Aside0.mk hC
  have HS := Aside0.mk hS
  have HE : Aside0 (∀ x ∈ ks, (binOp .eql 58 (.iface 81 (.pointer (some ⟨x, 0, none⟩))) (.iface 81 (.pointer (some ⟨k, 0, none⟩)))).run Tryz.prog w = .ok (.bool false) w) := ⟨fun x hx => by
    have h := key_eq (hks x hx) hk
    rw [decide_eq_false (fun (e : x = k) => hn (e ▸ hx))] at h
    exact h⟩
  clear hC hS hk hks hn
  rw [kyV_eq k]
  have hll : ks.length ≤ 9223372036854775807 := by omega
  go_enter Tryz.func115, Tryz.ntmps115
  go_wp2
  go_loopw [12] (fun i wr => ∃ j : Nat, j ≤ ks.length ∧ i = .int .i64 j ∧ wr = w) (fun i _ => ks.length - (intOf i).toNat)
  case atStart => exact ⟨0, Nat.zero_le _, rfl, rfl⟩
  case round =>
    obtain ⟨j, hj, rfl, rfl⟩ := hrel
    by_cases hlt2 : j < ks.length
    · obtain ⟨ad, rfl, he⟩ := C1_get HC.out j hlt2
      have heq := HE.out ks[j] (List.getElem_mem hlt2)
      generalize ks[j] = x at *
      have hlt3 : j + 1 ≤ ks.length := hlt2
      rw [kyV_eq x] at he
      clear HE
      go_wp2
      go_roundw
      case rel => exact ⟨j + 1, hlt3, by go_num, trivial⟩
      case measure => simp [intOf]; omega
    · obtain rfl : j = ks.length := by omega
      clear HE HC
      go_wp2_with fail
      refine (errNewK _ _).mono ?_
      rintro e w2 ⟨rfl, hb⟩
      have H2 := Aside0.mk (HS.out.of_below hb)
      clear hb
      go_wp2
      go_ret
      exact ⟨_, rfl, H2.out⟩
/-- What stands between the operations that take a key out of the middle. -/
structure RmWI (w0 : World) (B gs gm g off n c j : Nat) (ks : List Nat) (L : List Asrt) (k : Nat) (t : Value) (w : World) : Prop where
  at0 : k = 0 → Hold w0 B w (.blk gs (.cells #[.slice (some ⟨g, off, none⟩) n c, .map (some gm)] 95) :: .sl kyV (.slice (some ⟨g, off, none⟩) n c) ks :: L)
  at1 : k ≠ 0 → Hold w0 B w (.blk gs (.cells #[.slice (some ⟨g, off, none⟩) n c, .map (some gm)] 95) :: .sl kyV t (ks.take j ++ ks.drop (j + 1)) :: L)
theorem RmWI.mk0 {w : World} {gs gm g off n c j : Nat} {ks : List Nat} (hn : n = ks.length) {t : Value} (hS : Hold w0 B w (.blk gs (.cells #[.slice (some ⟨g, off, none⟩) ks.length c, .map (some gm)] 95) :: .sl kyV (.slice (some ⟨g, off, none⟩) ks.length c) ks :: L)) : RmWI w0 B gs gm g off n c j ks L 0 t w := by
  subst hn
  exact ⟨fun _ => hS, fun h => absurd rfl h⟩
theorem RmWI.cell {w : World} {gs gm g off n c j k : Nat} {ks : List Nat} {t : Value} (h : RmWI w0 B gs gm g off n c j ks L k t w) : w.cell? ⟨gs, 0, none⟩ = some (.slice (some ⟨g, off, none⟩) n c) := by
  by_cases hk : k = 0
  · exact ((h.at0 hk).cell 0 rfl 0 (by simp)).1
  · exact ((h.at1 hk).cell 0 rfl 0 (by simp)).1
theorem RmWI.app {w : World} {gs gm g off n c j : Nat} {ks : List Nat} {t : Value} (h : RmWI w0 B gs gm g off n c j ks L 0 t w) (hn : n = ks.length) (hj : j + 1 < n) (hkl : n ≤ 1000000) :
    ∃ v1 w1, (Builtin.append_ #[49, 49] 49 #[.slice (some ⟨g, off, none⟩) j c, .slice (some ⟨g, off + (j + 1), none⟩) (n - (j + 1)) (c - (j + 1))]).run Tryz.prog w = .ok v1 w1 ∧ RmWI w0 B gs gm g off n c j ks L 1 v1 w1 := by
  subst hn
  have hS := h.at0 rfl
  obtain ⟨g', off', c', e, hc, hcell⟩ := hS.slAddr 1 rfl (fun e => by rw [e] at hj; simp at hj)
  injection e with e1 e2 e3
  injection e1 with e1
  injection e1 with e4 e5
  subst e3 e4 e5
  have hS2 := hS.slTake 1 rfl j (by omega) (by simp)
  have hld : (ks.drop (j + 1)).length = ks.length - (j + 1) := List.length_drop
  have hlt : (ks.take j).length = j := by rw [List.length_take]; omega
  have hC : kKy.C w (some ⟨g, off + (j + 1), none⟩) (ks.drop (j + 1)).length (ks.drop (j + 1)) := C_of_cellsK (by rw [hld]; omega) (fun i x hx => by
    rw [List.getElem?_drop] at hx
    obtain ⟨hl, rfl⟩ := List.getElem?_eq_some_iff.1 hx
    have := hcell (j + 1 + i) hl
    rwa [show off + (j + 1 + i) = off + (j + 1) + i by omega] at this)
  rw [hld] at hC
  obtain ⟨v1, w1, hrun, hH⟩ := Hold.slAppendRun (P := Tryz.prog) (h1 := kyV_one) 1 hS2 rfl 49 49 58 .nilIface 16 Tryz.underlying49 infoKy rfl _ _ (c - (j + 1)) hC (by omega) (by rw [hlt]; simp only [maxLen]; omega) (by rw [hlt]; omega)
  exact ⟨v1, w1, hrun, fun e => absurd e (by decide), fun _ => hH⟩
theorem get_ev {a : Act} {j : Nat} {v : Value} (h : a.tmps[j]?.getD undef = v) : a.eval (.tmp j) = v := by
  show a.tmps.getD j undef = v
  rw [Array.getD_eq_getD_getElem?]
  exact h
theorem RmWI.fin {w : World} {gs gm g off n c j : Nat} {ks ks2 : List Nat} {t : Value} (h : RmWI w0 B gs gm g off n c j ks L 1 t w) (hk : ks2 = ks.take j ++ ks.drop (j + 1)) :
    (w.cell? ⟨gs, 0, none⟩ = some (.slice (some ⟨g, off, none⟩) n c) ∧ w.frozen? ⟨gs, 0, none⟩ = false ∧ ∃ A m c, t = .slice A m c) ∧ Hold w0 B (w.setCell ⟨gs, 0, none⟩ t) (.blk gs (.cells #[t, .map (some gm)] 95) :: .sl kyV t ks2 :: L) := by
  subst hk
  obtain ⟨c0, f0⟩ := (h.at1 (by decide)).cell 0 rfl 0 (by simp)
  obtain ⟨A, c', e, _⟩ := (h.at1 (by decide)).slReads kyV_one 1 rfl
  exact ⟨⟨c0, f0, A, _, c', e⟩, setStore (h.at1 (by decide))⟩
structure RmJ (w0 : World) (B gs gm : Nat) (ks2 : List Nat) (L : List Asrt) (t : Value) (w : World) : Prop where
  out : Hold w0 B w (.blk gs (.cells #[t, .map (some gm)] 95) :: .sl kyV t ks2 :: L)
/-- A step of append whose run is known. -/
theorem wp_append {P : Program} {o : Oper} {a : Act} {w w1 : World} {K : Act → World → Prop} {Q : Exit → Act → World → Prop} {s x : Operand} {t : TypeId} {v y v1 : Value} (hgd : o.guard = none) (ho : o.op = .call { callee := .builtin .append, args := #[s, x], argTypes := #[t, t] }) (hs : a.eval s = v) (hx : a.eval x = y)
    (hrun : (Builtin.append_ #[t, t] o.type #[v, y]).run P w = .ok v1 w1) (h : K (a.put o.dst v1) w1) : Oper.wp P o a w K Q := by
  unfold Oper.wp
  simp [execOp, ho, resolve, invoke, builtin, hs, hx, hrun, Result.andThen]
  exact h
def rm6Val (gs g off n c j : Nat) (t : Value) (d : Nat) : Value :=
  match d with
  | 21 => .pointer (some ⟨gs, 0, none⟩)
  | 22 => .pointer (some ⟨gs, 0, none⟩)
  | 23 => .pointer (some ⟨gs, 0, none⟩)
  | 24 => .pointer (some ⟨gs, 0, none⟩)
  | 25 => .slice (some ⟨g, off, none⟩) n c
  | 26 => .int .i64 (j : Int)
  | 27 => .slice (some ⟨g, off, none⟩) j c
  | 28 => .pointer (some ⟨gs, 0, none⟩)
  | 29 => .pointer (some ⟨gs, 0, none⟩)
  | 30 => .pointer (some ⟨gs, 0, none⟩)
  | 31 => .slice (some ⟨g, off, none⟩) n c
  | 32 => .int .i64 (j : Int)
  | 33 => .int .i64 ((j : Int) + 1)
  | 34 => .slice (some ⟨g, off + (j + 1), none⟩) (n - (j + 1)) (c - (j + 1))
  | 35 => t
  | 36 => .pointer (some ⟨gs, 0, none⟩)
  | 37 => .pointer (some ⟨gs, 0, none⟩)
  | _ => undef
def rm6Dp (i : Nat) : List (Nat × Nat) :=
  match i with
  | 2 => [(1, 22)]
  | 3 => [(2, 23)]
  | 4 => [(3, 24)]
  | 6 => [(4, 25), (5, 26)]
  | 8 => [(7, 28)]
  | 9 => [(8, 29)]
  | 10 => [(9, 30)]
  | 12 => [(11, 32)]
  | 13 => [(10, 31), (12, 33)]
  | 14 => [(6, 27), (13, 34)]
  | 15 => [(0, 21)]
  | 16 => [(15, 36)]
  | _ => []
theorem rm6Val_ne (gs g off n c j : Nat) (t t' : Value) (d : Nat) (h35 : d ≠ 35) : rm6Val gs g off n c j t' d = rm6Val gs g off n c j t d := by
  unfold rm6Val
  split <;> first | rfl | exact absurd rfl h35
set_option maxHeartbeats 8000000 in
theorem removeKey_yes (w : World) (gs gm k : Nat) (kv : Value) (ks : List Nat) (hk : IsKy w k) (hks : ∀ x ∈ ks, IsKy w x) (hkl : ks.length ≤ 1000000) (hm : k ∈ ks) (hS : Hold w0 B w (.blk gs (.cells #[kv, .map (some gm)] 95) :: .sl kyV kv ks :: L)) :
    Calls Tryz.prog 115 #[.pointer (some ⟨gs, 0, none⟩), kyV k] w fun e w' => e = .returned .nilIface ∧ ∃ kv', Hold w0 B w' (.blk gs (.cells #[kv', .map (some gm)] 95) :: .sl kyV kv' (ks.erase k) :: L) := by
  obtain ⟨g, off, c, rfl, hc, hcell⟩ := hS.slAddr 1 rfl (List.ne_nil_of_mem hm)
  obtain ⟨c0, f0⟩ := hS.cell 0 rfl 0 (by simp)
  have hlt := hS.blk_lt 0 rfl
  have HC := Aside0.mk hcell
  have HS := Aside0.mk hS
  have HE := Aside0.mk (fun (x : Nat) (hx : x ∈ ks) => key_eq (hks x hx) hk)
  have HM := Aside0.mk hm
  obtain ⟨ks2, hks2⟩ : ∃ l, l = ks.erase k := ⟨_, rfl⟩
  have HK2 := Aside0.mk hks2
  rw [← hks2]
  obtain ⟨n, hn⟩ : ∃ n, n = ks.length := ⟨_, rfl⟩
  have HN := Aside0.mk hn
  rw [← hn] at c0 hc hkl
  clear hcell hS hk hks hm hks2 hn
  rw [kyV_eq k]
  have hll : n ≤ 9223372036854775807 := by omega
  have hlc : n ≤ c := hc
  go_enter Tryz.func115, Tryz.ntmps115
  go_wp2
  go_loopw [12] (fun i wr => ∃ j : Nat, j ≤ n ∧ i = .int .i64 j ∧ wr = w ∧ k ∉ ks.take j) (fun i _ => n - (intOf i).toNat)
  case atStart => exact ⟨0, Nat.zero_le _, rfl, rfl, by simp⟩
  case round =>
    obtain ⟨j, hj, rfl, rfl, hI⟩ := hrel
    have HI := Aside0.mk hI
    clear hI
    by_cases hlt2 : j < n
    · have hjl : j < ks.length := by rw [← HN.out]; exact hlt2
      have he := HC.out j hjl
      have heq := HE.out ks[j] (List.getElem_mem hjl)
      have HER := Aside0.mk (fun h => erase_at k ks j hjl h HI.out)
      have HTK : Aside0 (ks[j] ≠ k → k ∉ ks.take (j + 1)) := ⟨fun h hm => by
        rw [List.take_succ_eq_append_getElem hjl] at hm
        rcases List.mem_append.1 hm with hm | hm
        · exact HI.out hm
        · exact h (List.mem_singleton.1 hm).symm⟩
      have HJ := Aside0.mk hjl
      generalize ks[j] = x at *
      have hlt3 : j + 1 ≤ n := hlt2
      rw [kyV_eq x] at he
      clear HI HE hjl
      by_cases hx : x = k
      · subst hx
        have HR : Aside0 (ks2 = ks.take j ++ ks.drop (j + 1)) := ⟨HK2.out.trans (HER.out rfl)⟩
        clear HER HTK
        by_cases h0 : j = 0
        · have H1 : Aside0 ((c ≠ 1 → Hold w0 B (wr.setCell ⟨gs, 0, none⟩ (.slice (some ⟨g, off + 1, none⟩) (n - 1) (c - 1))) (.blk gs (.cells #[.slice (some ⟨g, off + 1, none⟩) (n - 1) (c - 1), .map (some gm)] 95) :: .sl kyV (.slice (some ⟨g, off + 1, none⟩) (n - 1) (c - 1)) ks2 :: L)) ∧
              (c = 1 → Hold w0 B (wr.setCell ⟨gs, 0, none⟩ (.slice (some ⟨g, off, none⟩) (n - 1) 0)) (.blk gs (.cells #[.slice (some ⟨g, off, none⟩) (n - 1) 0, .map (some gm)] 95) :: .sl kyV (.slice (some ⟨g, off, none⟩) (n - 1) 0) ks2 :: L))) := ⟨by
            obtain ⟨y, r, rfl⟩ : ∃ y r, ks = y :: r := by
              cases ks with
              | nil => exact absurd HJ.out (by simp)
              | cons y r => exact ⟨y, r, rfl⟩
            have hr : ks2 = r := by rw [HR.out, h0]; simp
            have hn1 : n - 1 = r.length := by rw [HN.out]; simp
            rw [hr, hn1]
            refine ⟨fun _ => setStore (HS.out.slTail1 1 rfl), fun hc1 => ?_⟩
            have hl0 : r.length = 0 := by omega
            obtain rfl := List.eq_nil_of_length_eq_zero hl0
            exact setStore (HS.out.slVoid 1 rfl off)⟩
          clear HR HC HM HJ HS
          subst h0
          rw [Nat.add_zero] at he
          by_cases hc1 : c = 1
          · have H2 := Aside0.mk (H1.out.2 hc1)
            subst hc1
            obtain rfl : n = 1 := by omega
            clear H1
            go_wp2
            go_ret
            exact ⟨rfl, _, H2.out⟩
          · have H2 := Aside0.mk (H1.out.1 hc1)
            have hc2 : 1 < c := by omega
            clear H1 hc1
            go_wp2
            go_ret
            exact ⟨rfl, _, H2.out⟩
        · by_cases h1 : j + 1 = n
          · have H1 : Aside0 (Hold w0 B (wr.setCell ⟨gs, 0, none⟩ (.slice (some ⟨g, off, none⟩) j c)) (.blk gs (.cells #[.slice (some ⟨g, off, none⟩) j c, .map (some gm)] 95) :: .sl kyV (.slice (some ⟨g, off, none⟩) j c) ks2 :: L)) := ⟨by
              have hd : ks.drop (j + 1) = [] := List.drop_of_length_le (by rw [← HN.out]; omega)
              rw [HR.out, hd, List.append_nil]
              exact setStore (HS.out.slTake 1 rfl j (by rw [← HN.out]; omega) (by simp))⟩
            have h00 : 0 < j := by omega
            clear HR HC HM HJ HS HN HK2
            obtain rfl : n = j + 1 := by omega
            clear h0
            go_wp2
            go_ret
            exact ⟨rfl, _, H1.out⟩
          · have h00 : 0 < j := by omega
            have h11 : j + 1 < n := by omega
            have hne : ¬ (j : Int) = (n : Int) - 1 := by omega
            clear h0 h1 hlt3 hlt2 hj
            go_upto_region 6 with (fail)
            have H0 : Aside0 (RmWI w0 B gs gm g off n c j ks L 0 undef wr.drew) := ⟨RmWI.mk0 HN.out HS.out.drew⟩
            have HW : Aside0 (∀ k t wc, RmWI w0 B gs gm g off n c j ks L k t wc → wc.cell? ⟨gs, 0, none⟩ = some (.slice (some ⟨g, off, none⟩) n c)) := ⟨fun k t wc h => h.cell⟩
            refine wp_region_any (by kernel_rfl) ?_
            change wpAny _ _ _ _ _ _ _ (World.drew _)
            refine region_chainS _ _ [21, 22, 23, 24, 25, 26, 27, 28, 29, 30, 31, 32, 33, 34, 35, 36, 37] (rm6Val gs g off n c j) rm6Dp (fun _ => []) [14] (RmWI w0 B gs gm g off n c j ks L) (by kernel_rfl) (by kernel_rfl) (by kernel_rfl) (by kernel_rfl) (undef) ?_ ?_
            case' refine_1 => exact H0.out
            refine StepsS.quiet (by decide) (fun k t a wc hI hc hp hr K hK => ?_) ?_
            · -- slot 21
              have q0 : a.tmps[0]?.getD undef = .pointer (some ⟨gs, 0, none⟩) := ev_get (hc 0 (by decide))
              have HI := Aside0.mk hI
              clear hp hc hr hI
              go_simp
              exact hK _ HI.out
            refine StepsS.quiet (by decide) (fun k t a wc hI hc hp hr K hK => ?_) ?_
            · -- slot 22
              have q0 : a.tmps[0]?.getD undef = .pointer (some ⟨gs, 0, none⟩) := ev_get (hc 0 (by decide))
              have HI := Aside0.mk hI
              clear hp hc hr hI
              go_simp
              exact hK _ HI.out
            refine StepsS.quiet (by decide) (fun k t a wc hI hc hp hr K hK => ?_) ?_
            · -- slot 23
              have q22 : a.tmps[22]?.getD undef = .pointer (some ⟨gs, 0, none⟩) := ev_get (hp (1, 22) (by simp [rm6Dp]))
              have HI := Aside0.mk hI
              clear hp hc hr hI
              go_simp
              exact hK _ HI.out
            refine StepsS.quiet (by decide) (fun k t a wc hI hc hp hr K hK => ?_) ?_
            · -- slot 24
              have q23 : a.tmps[23]?.getD undef = .pointer (some ⟨gs, 0, none⟩) := ev_get (hp (2, 23) (by simp [rm6Dp]))
              have HI := Aside0.mk hI
              clear hp hc hr hI
              go_simp
              exact hK _ HI.out
            refine StepsS.quiet (by decide) (fun k t a wc hI hc hp hr K hK => ?_) ?_
            · -- slot 25
              have q24 : a.tmps[24]?.getD undef = .pointer (some ⟨gs, 0, none⟩) := ev_get (hp (3, 24) (by simp [rm6Dp]))
              have HI := Aside0.mk hI
              clear hp hc hr hI
              have hk0 := HW.out k t _ HI.out
              go_simp
              exact hK _ HI.out
            refine StepsS.quiet (by decide) (fun k t a wc hI hc hp hr K hK => ?_) ?_
            · -- slot 26
              have q5 : a.tmps[5]?.getD undef = .int .i64 (j : Int) := ev_get (hc 5 (by decide))
              have HI := Aside0.mk hI
              clear hp hc hr hI
              go_simp
              exact hK _ HI.out
            refine StepsS.quiet (by decide) (fun k t a wc hI hc hp hr K hK => ?_) ?_
            · -- slot 27
              have q25 : a.tmps[25]?.getD undef = .slice (some ⟨g, off, none⟩) n c := ev_get (hp (4, 25) (by simp [rm6Dp]))
              have q26 : a.tmps[26]?.getD undef = .int .i64 (j : Int) := ev_get (hp (5, 26) (by simp [rm6Dp]))
              have HI := Aside0.mk hI
              clear hp hc hr hI
              have hjc : j ≤ c := by omega
              go_simp
              exact hK _ HI.out
            refine StepsS.quiet (by decide) (fun k t a wc hI hc hp hr K hK => ?_) ?_
            · -- slot 28
              have q0 : a.tmps[0]?.getD undef = .pointer (some ⟨gs, 0, none⟩) := ev_get (hc 0 (by decide))
              have HI := Aside0.mk hI
              clear hp hc hr hI
              go_simp
              exact hK _ HI.out
            refine StepsS.quiet (by decide) (fun k t a wc hI hc hp hr K hK => ?_) ?_
            · -- slot 29
              have q28 : a.tmps[28]?.getD undef = .pointer (some ⟨gs, 0, none⟩) := ev_get (hp (7, 28) (by simp [rm6Dp]))
              have HI := Aside0.mk hI
              clear hp hc hr hI
              go_simp
              exact hK _ HI.out
            refine StepsS.quiet (by decide) (fun k t a wc hI hc hp hr K hK => ?_) ?_
            · -- slot 30
              have q29 : a.tmps[29]?.getD undef = .pointer (some ⟨gs, 0, none⟩) := ev_get (hp (8, 29) (by simp [rm6Dp]))
              have HI := Aside0.mk hI
              clear hp hc hr hI
              go_simp
              exact hK _ HI.out
            refine StepsS.quiet (by decide) (fun k t a wc hI hc hp hr K hK => ?_) ?_
            · -- slot 31
              have q30 : a.tmps[30]?.getD undef = .pointer (some ⟨gs, 0, none⟩) := ev_get (hp (9, 30) (by simp [rm6Dp]))
              have HI := Aside0.mk hI
              clear hp hc hr hI
              have hk0 := HW.out k t _ HI.out
              go_simp
              exact hK _ HI.out
            refine StepsS.quiet (by decide) (fun k t a wc hI hc hp hr K hK => ?_) ?_
            · -- slot 32
              have q5 : a.tmps[5]?.getD undef = .int .i64 (j : Int) := ev_get (hc 5 (by decide))
              have HI := Aside0.mk hI
              clear hp hc hr hI
              go_simp
              exact hK _ HI.out
            refine StepsS.quiet (by decide) (fun k t a wc hI hc hp hr K hK => ?_) ?_
            · -- slot 33
              have q32 : a.tmps[32]?.getD undef = .int .i64 (j : Int) := ev_get (hp (11, 32) (by simp [rm6Dp]))
              have HI := Aside0.mk hI
              clear hp hc hr hI
              have hw : IntKind.i64.wrap ((j : Int) + 1) = (j : Int) + 1 := by rw [IntKind.wrap_i64]; omega
              go_simp
              exact hK _ HI.out
            refine StepsS.quiet (by decide) (fun k t a wc hI hc hp hr K hK => ?_) ?_
            · -- slot 34
              have q31 : a.tmps[31]?.getD undef = .slice (some ⟨g, off, none⟩) n c := ev_get (hp (10, 31) (by simp [rm6Dp]))
              have q33 : a.tmps[33]?.getD undef = .int .i64 ((j : Int) + 1) := ev_get (hp (12, 33) (by simp [rm6Dp]))
              have HI := Aside0.mk hI
              clear hp hc hr hI
              have hc1 : 0 ≤ (j : Int) + 1 := by omega
              have hc2 : (j : Int) + 1 ≤ (n : Int) := by omega
              have hc3 : ¬ c = j + 1 := by omega
              go_simp
              exact hK _ HI.out
            refine StepsS.call 0 rfl (fun t a wc hI hc hp hr K hK => ?_) ?_
            · -- slot 35
              have q27 : a.tmps[27]?.getD undef = .slice (some ⟨g, off, none⟩) j c := ev_get (hp (6, 27) (by simp [rm6Dp]))
              have q34 : a.tmps[34]?.getD undef = .slice (some ⟨g, off + (j + 1), none⟩) (n - (j + 1)) (c - (j + 1)) := ev_get (hp (13, 34) (by simp [rm6Dp]))
              have HI := Aside0.mk hI
              clear hp hc hr hI
              obtain ⟨v1, w1, hrun, hI1⟩ := HI.out.app HN.out h11 hkl
              have HI1 := Aside0.mk hI1
              clear hI1
              rw [if_pos (by rfl)]
              exact wp_append rfl rfl (get_ev q27) (get_ev q34) hrun (hK v1 w1 HI1.out (fun d hd => rm6Val_ne _ _ _ _ _ _ _ _ d hd))
            refine StepsS.quiet (by decide) (fun k t a wc hI hc hp hr K hK => ?_) ?_
            · -- slot 36
              have q21 : a.tmps[21]?.getD undef = .pointer (some ⟨gs, 0, none⟩) := ev_get (hp (0, 21) (by simp [rm6Dp]))
              have HI := Aside0.mk hI
              clear hp hc hr hI
              go_simp
              exact hK _ HI.out
            refine StepsS.quiet (by decide) (fun k t a wc hI hc hp hr K hK => ?_) ?_
            · -- slot 37
              have q36 : a.tmps[36]?.getD undef = .pointer (some ⟨gs, 0, none⟩) := ev_get (hp (15, 36) (by simp [rm6Dp]))
              have HI := Aside0.mk hI
              clear hp hc hr hI
              go_simp
              exact hK _ HI.out
            refine StepsS.fin (RmJ w0 B gs gm ks2 L) (by kernel_rfl) (fun t wc a hI hc hp K hK => ?_) (fun t wc hJ => ?_)
            · -- the last one
              have q35 : a.tmps[35]?.getD undef = t := ev_get (hp 35 (by decide))
              have q37 : a.tmps[37]?.getD undef = .pointer (some ⟨gs, 0, none⟩) := ev_get (hp 37 (by decide))
              clear hp hc
              obtain ⟨hA, hB⟩ := hI.fin HR.out
              obtain ⟨c9, f9, A9, m9, c9, rfl⟩ := hA
              have H1 := Aside0.mk hB
              clear hB hI HW H0 HR HK2 HM HC HS HJ heq he c0 f0 HN
              go_simp
              exact hK _ ⟨H1.out⟩
            · -- and what follows
              simp only [ov, List.foldl_cons, List.foldl_nil, Act.put, List.setIfInBounds_toArray, List.set_cons_succ, List.set_cons_zero, rm6Val]
              have H1 := Aside0.mk hJ.out
              clear hJ HW H0 HR HK2 HM HC HS HJ heq he c0 f0 HN
              go_wp2
              go_ret
              exact ⟨rfl, _, H1.out⟩
      · rw [decide_eq_false hx] at heq
        have HT := Aside0.mk (HTK.out hx)
        clear HER HTK hx
        go_wp2
        go_roundw
        case rel => exact ⟨j + 1, hlt3, by go_num, trivial, HT.out⟩
        case measure => simp [intOf]; omega
    · exfalso
      have : j = ks.length := by rw [← HN.out]; omega
      rw [this, List.take_length] at HI
      exact HI.out HM.out
theorem removeKey_any (w : World) (gs gm k : Nat) (kv : Value) (ks : List Nat) (hk : IsKy w k) (hks : ∀ x ∈ ks, IsKy w x) (hkl : ks.length ≤ 1000000) (hS : Hold w0 B w (.blk gs (.cells #[kv, .map (some gm)] 95) :: .sl kyV kv ks :: L)) :
    Calls Tryz.prog 115 #[.pointer (some ⟨gs, 0, none⟩), kyV k] w fun e w' => ∃ r kv', e = .returned r ∧ ErrE (decide (k ∈ ks)) r ∧ Hold w0 B w' (.blk gs (.cells #[kv', .map (some gm)] 95) :: .sl kyV kv' (ks.erase k) :: L) := by
  by_cases hm : k ∈ ks
  · refine (removeKey_yes w gs gm k kv ks hk hks hkl hm hS).mono ?_
    rintro e w' ⟨rfl, kv', h⟩
    exact ⟨_, kv', rfl, by rw [decide_eq_true hm]; rfl, h⟩
  · refine (removeKey_no w gs gm k kv ks hk hks hkl hm hS).mono ?_
    rintro e w' ⟨g, rfl, h⟩
    rw [List.erase_of_not_mem hm]
    exact ⟨_, kv, rfl, by rw [decide_eq_false hm]; exact ⟨g, rfl⟩, h⟩
end
end Go.Proofs.YtpcbmjphffpplaaGreatDoor
namespace Go.Proofs.YtpcbmjphffpplaaGreatDoor
open Go.RowKit Go.Proofs.YtpcbmjphffpplaaGreatDoorW.PrintWords
set_option linter.unusedVariables false
set_option linter.unusedSimpArgs false
set_option maxRecDepth 100000
/-- Elements of so many cells each, as they are. -/
def flatS {α : Type} (enc : α → List Value) (n : Nat) (hl : ∀ x, (enc x).length = n) (h1 : ∀ x, ∀ u ∈ enc x, u.oneCell' = true) : Kd α where
  sz := n
  E := []
  K := fun _ x cs => cs = enc x
  M := fun _ _ _ x cs => cs = enc x
  K_len := by rintro _ x _ rfl; exact hl x
  K_one := by rintro _ x _ rfl; exact h1 x
  K_below := fun _ h => h
  K_of_M := fun h => h
  M_mono := fun _ h => h
  M_bound := fun h => h
  M_move := fun _ h => h
  M_lower := fun _ h => h
/-! ### what it computes -/
/-- A key: its ID, if it has one. A step: its kind, its key, its place, its ID, its text. What a step gives. -/
abbrev KD := Bool × ByteArray
abbrev KStp := Nat × Nat × Int × ByteArray × ByteArray
structure KSn where
  ok : Bool
  index : Int
  found : Int
  len : Nat
  all : List Nat
  names : List ByteArray
structure KSt where
  ks : List Nat
  ns : List ByteArray
def kdId (kd : List KD) (k : Nat) : Option ByteArray := match kd[k]? with | some (true, s) => some s | _ => none
/-- A step: the set behind it, and what it gives at once: whether it went well, an index, a key that is found. -/
def stepF (kd : List KD) (s : KSt) (x : KStp) : KSt × Bool × Int × Int :=
  match x.1 with
  | 0 => (⟨addF x.2.1 s.ks, s.ns⟩, decide (x.2.1 ∉ s.ks), -1, -1)
  | 1 => (⟨s.ks.erase x.2.1, s.ns⟩, decide (x.2.1 ∈ s.ks), -1, -1)
  | 2 => (s, true, idxF x.2.1 s.ks 0, -1)
  | 3 => if h : 0 ≤ x.2.2.1 ∧ x.2.2.1 < s.ks.length then (s, true, -1, ((s.ks[x.2.2.1.toNat]'(by omega) : Nat) : Int)) else (s, false, -1, -1)
  | 4 => match s.ks.find? (fun k => decide (kdId kd k = some x.2.2.2.1)) with | some k => (s, true, -1, (k : Int)) | none => (s, false, -1, -1)
  | 5 => (⟨[], []⟩, true, -1, -1)
  | 6 => (s, true, -1, -1)
  | 7 => (⟨s.ks, if x.2.2.2.1 = lKeys then s.ns else putN x.2.2.2.1 s.ns⟩, decide (x.2.2.2.1 ≠ lKeys), -1, -1)
  | 8 => (⟨s.ks, s.ns.filter fun t => !decide (t = x.2.2.2.1)⟩, true, -1, -1)
  | _ => (s, true, -1, -1)
def snOf (r : KSt × Bool × Int × Int) : KSn := ⟨r.2.1, r.2.2.1, r.2.2.2, r.1.ks.length, r.1.ks, sortN r.1.ns⟩
def runF (kd : List KD) : List KStp → KSt → List KSn
  | [], _ => []
  | x :: r, s => snOf (stepF kd s x) :: runF kd r (stepF kd s x).1
/-- The set behind so many steps. -/
def runS (kd : List KD) : List KStp → KSt → KSt
  | [], s => s
  | x :: r, s => runS kd r (stepF kd s x).1
theorem runF_snoc (kd : List KD) (x : KStp) : ∀ (l : List KStp) (s : KSt), runF kd (l ++ [x]) s = runF kd l s ++ [snOf (stepF kd (runS kd l s) x)] ∧ runS kd (l ++ [x]) s = (stepF kd (runS kd l s) x).1
  | [], s => ⟨rfl, rfl⟩
  | y :: r, s => by
    have ih := runF_snoc kd x r (stepF kd s y).1
    exact ⟨by show snOf _ :: runF kd (r ++ [x]) _ = _; rw [ih.1]; rfl, ih.2⟩
/-! ### what is held -/
/-- Many slices of one's own, as one. -/
def Asrt.sls {α : Type} (enc : α → Value) (l : List (Value × List α)) : Asrt where
  p := fun w f => ∀ x ∈ l, SlAt enc w f x.1 x.2
  loc := fun h hm x hx => (Asrt.sl enc x.1 x.2).loc (h x hx) hm
  mono := fun hm h x hx => (Asrt.sl enc x.1 x.2).mono hm (h x hx)
  bnd := fun h x hx => (Asrt.sl enc x.1 x.2).bnd (h x hx)
/-- A key's block, and its ID's. -/
structure KeyIs (w : World) (f : Nat → Prop) (x : Nat × Option ByteArray) : Prop where
  own : f x.1
  blk : ∃ o gp, w.heap[x.1]? = some (.cells (kyC (.pointer none) o gp) 93 (0, 0)) ∧ x.2 = none ∨ ∃ s g o gp, x.2 = some s ∧ f g ∧ w.heap[x.1]? = some (.cells (kyC (.pointer (some ⟨g, 0, none⟩)) o gp) 93 (0, 0)) ∧ w.heap[g]? = some (.cells #[.string s] 9 (0, 0))
def Asrt.keys (l : List (Nat × Option ByteArray)) : Asrt where
  p := fun w f => (∀ x ∈ l, KeyIs w f x) ∧ (l.map Prod.fst).Nodup
  loc := fun {w w1 f} h hm => ⟨fun x hx => by
    have h1 := h.1 x hx
    refine ⟨h1.own, ?_⟩
    rcases h1.blk with ⟨o, gp, ⟨hb, e⟩ | ⟨s, g, o, gp, e, hf, hb, hg⟩⟩
    · exact ⟨o, gp, .inl ⟨(hm _ h1.own (Array.getElem?_eq_some_iff.1 hb).1).trans hb, e⟩⟩
    · exact ⟨o, gp, .inr ⟨s, g, o, gp, e, hf, (hm _ h1.own (Array.getElem?_eq_some_iff.1 hb).1).trans hb, (hm _ hf (Array.getElem?_eq_some_iff.1 hg).1).trans hg⟩⟩, h.2⟩
  mono := fun {w f f'} hm h => ⟨fun x hx => by
    have h1 := h.1 x hx
    refine ⟨hm _ h1.own, ?_⟩
    rcases h1.blk with ⟨o, gp, ⟨hb, e⟩ | ⟨s, g, o, gp, e, hf, hb, hg⟩⟩
    · exact ⟨o, gp, .inl ⟨hb, e⟩⟩
    · exact ⟨o, gp, .inr ⟨s, g, o, gp, e, hm _ hf, hb, hg⟩⟩, h.2⟩
  bnd := fun {w f} h => ⟨fun x hx => by
    have h1 := h.1 x hx
    rcases h1.blk with ⟨o, gp, ⟨hb, e⟩ | ⟨s, g, o, gp, e, hf, hb, hg⟩⟩
    · exact ⟨⟨h1.own, (Array.getElem?_eq_some_iff.1 hb).1⟩, ⟨o, gp, .inl ⟨hb, e⟩⟩⟩
    · exact ⟨⟨h1.own, (Array.getElem?_eq_some_iff.1 hb).1⟩, ⟨o, gp, .inr ⟨s, g, o, gp, e, ⟨hf, (Array.getElem?_eq_some_iff.1 hg).1⟩, hb, hg⟩⟩⟩, h.2⟩
def Asrt.kyp (x g gp : Nat) (s : ByteArray) (o : Value) : Asrt where
  p := fun w f => f x ∧ f g ∧ w.heap[x]? = some (.cells (kyC (.pointer (some ⟨g, 0, none⟩)) o gp) 93 (0, 0)) ∧ w.heap[g]? = some (.cells #[.string s] 9 (0, 0))
  loc := fun {w w1 f} h hm => ⟨h.1, h.2.1, (hm _ h.1 (Array.getElem?_eq_some_iff.1 h.2.2.1).1).trans h.2.2.1, (hm _ h.2.1 (Array.getElem?_eq_some_iff.1 h.2.2.2).1).trans h.2.2.2⟩
  mono := fun {w f f'} hm h => ⟨hm _ h.1, hm _ h.2.1, h.2.2⟩
  bnd := fun {w f} h => ⟨⟨h.1, (Array.getElem?_eq_some_iff.1 h.2.2.1).1⟩, ⟨h.2.1, (Array.getElem?_eq_some_iff.1 h.2.2.2).1⟩, h.2.2⟩
section
variable {w0 w W : World} {B : Nat} {L : List Asrt} {α : Type} {enc : α → Value}
theorem Hold.slsNil (hS : Hold w0 B w L) (enc : α → Value) : Hold w0 B w (.sls enc [] :: L) :=
  hS.push (f' := fun _ => False) (fun x hx => by cases hx) (fun _ h => h.elim) (Chg.none_ _ _)
theorem Hold.slsAdd {v : Value} {xs : List α} {l : List (Value × List α)} (hS : Hold w0 B w (.sl enc v xs :: .sls enc l :: L)) : Hold w0 B w (.sls enc (l ++ [(v, xs)]) :: L) :=
  hS.fuse (fun f g h1 h2 x hx => by
    rcases List.mem_append.1 hx with hx | hx
    · exact (Asrt.sl enc x.1 x.2).mono (fun k hk => .inr hk) (h2 x hx)
    · obtain rfl := List.mem_singleton.1 hx
      exact (Asrt.sl enc v xs).mono (fun k hk => .inl hk) h1)
theorem Hold.slsRead (h1 : ∀ x, (enc x).oneCell' = true) (hS : Hold w0 B w L) (i : Nat) {l : List (Value × List α)} (hi : L[i]? = some (.sls enc l)) {v : Value} {xs : List α} (hm : (v, xs) ∈ l) : ∃ A c, v = .slice A xs.length c ∧ xs.length ≤ c ∧ (Kd.scalar enc h1).C w A xs.length xs := by
  obtain ⟨f, hp, _⟩ := hS.get i hi
  exact SlAt.reads h1 (hp _ hm)
theorem Hold.keysNil (hS : Hold w0 B w L) : Hold w0 B w (.keys [] :: L) :=
  hS.push (f' := fun _ => False) ⟨fun x hx => by (cases hx), List.nodup_nil⟩ (fun _ h => h.elim) (Chg.none_ _ _)
theorem Hold.keysIs (hS : Hold w0 B w L) (i : Nat) {l : List (Nat × Option ByteArray)} (hi : L[i]? = some (.keys l)) : (∀ x ∈ l, IsKy w x.1 ∧ KeyHas w x.1 x.2) ∧ (l.map Prod.fst).Nodup := by
  obtain ⟨f, hp, _⟩ := hS.get i hi
  have hc : ∀ {g o cs t}, w.heap[g]? = some (.cells cs t (0, 0)) → w.cell? ⟨g, o, none⟩ = cs[o]? := fun h => by simp [World.cell?, h]
  refine ⟨fun x hx => ?_, hp.2⟩
  obtain ⟨k, oid⟩ := x
  rcases (hp.1 _ hx).blk with ⟨o, gp, ⟨hb, e⟩ | ⟨s, g, o, gp, e, hf, hb, hg⟩⟩
  · obtain rfl : oid = none := e
    exact ⟨⟨_, _, hb⟩, by show w.cell? ⟨k, 1, none⟩ = _; rw [hc hb]; rfl⟩
  · obtain rfl : oid = some s := e
    exact ⟨⟨_, _, hb⟩, g, by rw [hc hb]; rfl, by rw [hc hg]; rfl⟩
/-- A new key: its block, and its ID's. -/
theorem Hold.keysAdd0 {x gp : Nat} {o : Value} {l : List (Nat × Option ByteArray)} (hS : Hold w0 B w (.blk x (.cells (kyC (.pointer none) o gp) 93) :: .keys l :: L)) : Hold w0 B w (.keys (l ++ [(x, none)]) :: L) := by
  have hne : x ∉ l.map Prod.fst := fun hm => by
    obtain ⟨F, h1, h2, h3⟩ := hS.own
    obtain ⟨y, hy, e⟩ := List.mem_map.1 hm
    have a1 : F 0 x := (h1 0 _ rfl).1
    have a2 : F 1 x := by
      have := ((h1 1 _ rfl).1 y hy).own
      rwa [e] at this
    exact absurd (h3 _ _ _ a1 a2) (by decide)
  refine hS.fuse (fun f g h1 h2 => ⟨fun y hy => ?_, ?_⟩)
  · rcases List.mem_append.1 hy with hy | hy
    · have := (Asrt.keys l).mono (fun k hk => (.inr hk : f k ∨ g k)) h2
      exact this.1 y hy
    · obtain rfl := List.mem_singleton.1 hy
      exact ⟨.inl h1.1, ⟨o, gp, .inl ⟨h1.2, rfl⟩⟩⟩
  · rw [List.map_append, List.nodup_append]
    exact ⟨h2.2, by simp, fun a ha b hb => by
      obtain rfl := List.mem_singleton.1 hb
      rintro rfl
      exact hne ha⟩
theorem Hold.keysAdd1 {x g gp : Nat} {s : ByteArray} {o : Value} {l : List (Nat × Option ByteArray)} (hS : Hold w0 B w (.blk x (.cells (kyC (.pointer (some ⟨g, 0, none⟩)) o gp) 93) :: .blk g (.cells #[.string s] 9) :: .keys l :: L)) : Hold w0 B w (.keys (l ++ [(x, some s)]) :: L) := by
  have hne : x ∉ l.map Prod.fst := fun hm => by
    obtain ⟨F, h1, h2, h3⟩ := hS.own
    obtain ⟨y, hy, e⟩ := List.mem_map.1 hm
    have a1 : F 0 x := (h1 0 _ rfl).1
    have a2 : F 2 x := by
      have := ((h1 2 _ rfl).1 y hy).own
      rwa [e] at this
    exact absurd (h3 _ _ _ a1 a2) (by decide)
  have h1 : Hold w0 B w (.kyp x g gp s o :: .keys l :: L) :=
    hS.fuse (fun f g h1 h2 => ⟨.inl h1.1, .inr h2.1, h1.2, h2.2⟩)
  refine h1.fuse (fun f g h1 h2 => ⟨fun y hy => ?_, ?_⟩)
  · rcases List.mem_append.1 hy with hy | hy
    · have := (Asrt.keys l).mono (fun k hk => (.inr hk : f k ∨ g k)) h2
      exact this.1 y hy
    · obtain rfl := List.mem_singleton.1 hy
      exact ⟨.inl h1.1, ⟨o, gp, .inr ⟨s, _, o, gp, rfl, .inl h1.2.1, h1.2.2.1, h1.2.2.2⟩⟩⟩
  · rw [List.map_append, List.nodup_append]
    exact ⟨h2.2, by simp, fun a ha b hb => by
      obtain rfl := List.mem_singleton.1 hb
      rintro rfl
      exact hne ha⟩
/-! ### the closure -/
set_option maxHeartbeats 4000000 in
theorem at_any (w : World) (gb k : Nat) (kv : Value) (ks : List Nat) (hk : IsKy w k) (hks : ∀ x ∈ ks, IsKy w x) (hS : Hold w0 B w (.blk gb (.cells #[kv] 49) :: .sl kyV kv ks :: L)) :
    Calls Tryz.prog 16 #[kyV k, .pointer (some ⟨gb, 0, none⟩)] w fun e w' => e = .returned (.int .i64 (idxF k ks 0)) ∧ w' = w := by
  obtain ⟨A, c, rfl, hc, hC⟩ := hS.slReads kyV_one 1 rfl
  obtain ⟨c0, _⟩ := hS.cell 0 rfl 0 (by simp)
  have hlt := hS.blk_lt 0 rfl
  have HC := Aside0.mk hC
  have HE := Aside0.mk (fun (x : Nat) (hx : x ∈ ks) => key_eq (hks x hx) hk)
  clear hC hS
  rw [kyV_eq k]
  have hll : ks.length ≤ 9223372036854775807 := HC.out.2.1
  go_enter Tryz.func16, Tryz.ntmps16
  go_wp2
  go_loopw [8] (fun i wr => ∃ j : Nat, j ≤ ks.length ∧ i = .int .i64 j ∧ wr = w ∧ idxF k (ks.drop j) j = idxF k ks 0) (fun i _ => ks.length - (intOf i).toNat)
  case atStart => exact ⟨0, Nat.zero_le _, rfl, rfl, rfl⟩
  case round =>
    obtain ⟨j, hj, rfl, rfl, hI⟩ := hrel
    by_cases hlt2 : j < ks.length
    · obtain ⟨ad, rfl, he⟩ := C1_get HC.out j hlt2
      have heq := HE.out ks[j] (List.getElem_mem hlt2)
      rw [List.drop_eq_getElem_cons hlt2] at hI
      generalize ks[j] = x at *
      have HI := Aside0.mk hI
      clear hI
      have hlt3 : j + 1 ≤ ks.length := hlt2
      unfold kyV at he
      by_cases hx : x = k
      · subst hx
        have HR : Aside0 (idxF x ks 0 = (j : Int)) := ⟨by rw [← HI.out]; unfold idxF; rw [if_pos rfl]⟩
        clear HI HE HC hk hks
        go_wp2
        go_ret
        exact ⟨by rw [HR.out]; rfl, rfl⟩
      · have HR : Aside0 (idxF k (ks.drop (j + 1)) (j + 1) = idxF k ks 0) := ⟨by rw [← HI.out]; conv => rhs; unfold idxF; rw [if_neg hx]⟩
        rw [decide_eq_false hx] at heq
        clear HI HE hk hks hx
        go_wp2
        go_roundw
        case rel => exact ⟨j + 1, hlt3, by go_num, trivial, HR.out⟩
        case measure => simp [intOf]; omega
    · obtain rfl : j = ks.length := by omega
      have HR : Aside0 (idxF k ks 0 = -1) := ⟨by rw [← hI, List.drop_of_length_le (Nat.le_refl _)]; rfl⟩
      clear hI HE HC hk hks
      go_wp2
      go_ret
      exact ⟨by rw [HR.out]; rfl, rfl⟩
end
end Go.Proofs.YtpcbmjphffpplaaGreatDoor
namespace Go.Proofs.YtpcbmjphffpplaaGreatDoor
open Go.RowKit Go.Proofs.YtpcbmjphffpplaaGreatDoorW.PrintWords
set_option linter.unusedVariables false
set_option linter.unusedSimpArgs false
set_option maxRecDepth 100000
theorem info5 : (Tryz.prog.info? 5).map (fun i => (i.zero, i.size, i.bytes)) = some (some (.int .u8 0), 1, 1) := by kernel_rfl
/-- The three words of a slice. -/
abbrev SlT := Option Addr × Nat × Nat
def slT (s : SlT) : Value := .slice s.1 s.2.1 s.2.2
theorem slT_one (s : SlT) : (slT s).oneCell' = true := rfl
/-- A key's data: its octets' words, whether it has an ID, its ID. -/
abbrev KDr := SlT × Bool × ByteArray
def kdV (x : KDr) : List Value := [.slice x.1.1 x.1.2.1 x.1.2.2, .bool x.2.1, .string x.2.2]
theorem kdV_len (x : KDr) : (kdV x).length = 3 := rfl
theorem kdV_one (x : KDr) : ∀ u ∈ kdV x, u.oneCell' = true := by
  intro u hu
  simp only [kdV, List.mem_cons, List.not_mem_nil, or_false] at hu
  rcases hu with rfl | rfl | rfl <;> rfl
abbrev kKD : Kd KDr := flatS kdV 3 kdV_len kdV_one
/-- A step. -/
def stV (x : KStp) : List Value := [.int .i64 (x.1 : Int), .int .i64 (x.2.1 : Int), .int .i64 x.2.2.1, .string x.2.2.2.1, .string x.2.2.2.2]
theorem stV_len (x : KStp) : (stV x).length = 5 := rfl
theorem stV_one (x : KStp) : ∀ u ∈ stV x, u.oneCell' = true := by
  intro u hu
  simp only [stV, List.mem_cons, List.not_mem_nil, or_false] at hu
  rcases hu with rfl | rfl | rfl | rfl | rfl <;> rfl
abbrev kStp : Kd KStp := flatS stV 5 stV_len stV_one
theorem flat_get {α : Type} {enc : α → List Value} {n : Nat} {hl : ∀ x, (enc x).length = n} {h1 : ∀ x, ∀ u ∈ enc x, u.oneCell' = true} {w : World} {A : Option Addr} {m : Nat} {xs : List α} (h : (flatS enc n hl h1).C w A m xs) (k : Nat) (hk : k < xs.length) : ∃ ad, A = some ad ∧ ∀ j v, (enc xs[k])[j]? = some v → (if j = 0 then w.cell? (ad.add (k * n)) else w.cell? ⟨(ad.add (k * n)).block, (ad.add (k * n)).off + j, none⟩) = some v := by
  obtain ⟨ad, c, e, hl, hK, hc⟩ := Kd.C_get h xs[k] (k : Int) (by omega) (by have := h.1; omega)
  simp only [Int.toNat_natCast, List.getD_eq_getElem?_getD, List.getElem?_eq_getElem hk, Option.getD_some] at hK hc
  obtain rfl : c = enc xs[k] := hK
  refine ⟨ad, e, fun j u hu => ?_⟩
  have := hc j u hu
  by_cases hj : j = 0
  · subst hj
    rw [if_pos rfl]
    rwa [Nat.add_zero] at this
  · rw [if_neg hj, ← add_field _ _ j (by omega)]
    exact this
/-- A key's octets can be read. -/
structure OctOk (w : World) (s : SlT) : Prop where
  out : ∃ bs, kB.C w s.1 s.2.1 bs ∧ 0 < bs.length ∧ bs.length ≤ 1000000
theorem OctOk.below {w w' : World} {s : SlT} (h : OctOk w s) (hb : Below w.heap.size w w') : OctOk w' s := by
  obtain ⟨bs, h1, h2⟩ := h.out
  exact ⟨bs, Kd.C_below h1 hb, h2⟩
def idOf (x : KDr) : Option ByteArray := if x.2.1 = true then some x.2.2 else none
/-- What the first loop holds. -/
structure MadeI (w : World) (gb : Nat) (kds : List KDr) (j : Nat) (wr : World) : Prop where
  out : ∃ mv l, l.map Prod.snd = (kds.take j).map idOf ∧ Hold w w.heap.size wr [.blk gb (.cells #[mv] 49), .sl kyV mv (l.map Prod.fst), .keys l]
theorem MadeI.next0 {w wz : World} {gb j x gp g7 : Nat} {kds : List KDr} {l : List (Nat × Option ByteArray)} {o v1 : Value} {ob : Obj} (hl : (l ++ [(x, none)]).map Prod.snd = (kds.take (j + 1)).map idOf)
    (h : Hold w w.heap.size wz [.blk x (.cells (kyC (.pointer none) o gp) 93), .blk g7 ob, .blk gb (.cells #[v1] 49), .sl kyV v1 (l.map Prod.fst ++ [x]), .keys l]) : MadeI w gb kds (j + 1) wz := by
  have h1 := Hold.keysAdd0 (Hold.pickA (M := [_, _, _, _, _]) (h : Hold w w.heap.size wz ([_, _, _, _, _] ++ [])) [0, 4, 2, 3] (by decide) (by simp) (M' := [_, _, _, _]) rfl)
  refine ⟨v1, _, hl, ?_⟩
  rw [List.map_append]
  exact Hold.pickA (M := [_, _, _]) (h1 : Hold w w.heap.size wz ([_, _, _] ++ [])) [1, 2, 0] (by decide) (by simp) (M' := [_, _, _]) rfl
theorem MadeI.next1 {w wz : World} {gb j x g gp g7 : Nat} {s : ByteArray} {kds : List KDr} {l : List (Nat × Option ByteArray)} {o v1 : Value} {ob : Obj} (hl : (l ++ [(x, some s)]).map Prod.snd = (kds.take (j + 1)).map idOf)
    (h : Hold w w.heap.size wz [.blk x (.cells (kyC (.pointer (some ⟨g, 0, none⟩)) o gp) 93), .blk g (.cells #[.string s] 9), .blk g7 ob, .blk gb (.cells #[v1] 49), .sl kyV v1 (l.map Prod.fst ++ [x]), .keys l]) : MadeI w gb kds (j + 1) wz := by
  have h1 := Hold.keysAdd1 (Hold.pickA (M := [_, _, _, _, _, _]) (h : Hold w w.heap.size wz ([_, _, _, _, _, _] ++ [])) [0, 1, 5, 3, 4] (by decide) (by simp) (M' := [_, _, _, _, _]) rfl)
  refine ⟨v1, _, hl, ?_⟩
  rw [List.map_append]
  exact Hold.pickA (M := [_, _, _]) (h1 : Hold w w.heap.size wz ([_, _, _] ++ [])) [1, 2, 0] (by decide) (by simp) (M' := [_, _, _]) rfl
/-- An empty literal of bytes. -/
theorem emptyRowK (w : World) : Hold w w.heap.size (w.alloc (.cells #[] 5)) [.row kB 5 (.slice (some ⟨w.heap.size, 0, none⟩) 0 0) []] :=
  ((Hold.start w).alloc (.cells #[] 5)).toRow 0 (d := kB) (n := 0) (c := 0) (xs := []) rfl (Reps.none _ _) rfl (Nat.le_refl _) (Nat.zero_le _) rfl
theorem below_cell {w w1 : World} {a : Addr} {v : Value} (hb : Below w.heap.size w w1) (h : w.cell? a = some v) : w1.cell? a = some v := (hb.cell (World.block_lt_of_cell? _ _ h)).trans h
end Go.Proofs.YtpcbmjphffpplaaGreatDoor
namespace Go.Proofs.YtpcbmjphffpplaaGreatDoor
open Go.RowKit Go.Proofs.YtpcbmjphffpplaaGreatDoorW.PrintWords
set_option linter.unusedVariables false
set_option linter.unusedSimpArgs false
set_option maxRecDepth 100000
/-- What a step gives, with the words of its two lists. -/
abbrev Sn := KSn × SlT × SlT
def snV (x : Sn) : List Value := [.bool x.1.ok, .int .i64 x.1.index, .int .i64 x.1.found, .int .i64 (x.1.len : Int), .slice x.2.1.1 x.2.1.2.1 x.2.1.2.2, .slice x.2.2.1 x.2.2.2.1 x.2.2.2.2]
theorem snV_len (x : Sn) : (snV x).length = 6 := rfl
theorem snV_one (x : Sn) : ∀ u ∈ snV x, u.oneCell' = true := by
  intro u hu
  simp only [snV, List.mem_cons, List.not_mem_nil, or_false] at hu
  rcases hu with rfl | rfl | rfl | rfl | rfl | rfl <;> rfl
abbrev kSn : Kd Sn := flatS snV 6 snV_len snV_one
def iV (k : Nat) : Value := .int .i64 (k : Int)
theorem iV_one (k : Nat) : (iV k).oneCell' = true := rfl
def allsOf (T : List Sn) : List (Value × List Nat) := T.map fun x => (slT x.2.1, x.1.all)
def namesOf (T : List Sn) : List (Value × List ByteArray) := T.map fun x => (slT x.2.2, x.1.names)
/-- A run's result, as it is held. -/
def RunH (T : List Sn) (v : Value) : List Asrt := [.row kSn 37 v T, .sls iV (allsOf T), .sls Value.string (namesOf T)]
/-- The made keys' blocks, by index. -/
def blkAt (l : List (Nat × Option ByteArray)) (k : Nat) : Nat := (l.map Prod.fst).getD k 0
def kdOf (kds : List KDr) : List KD := kds.map fun x => (x.2.1, x.2.2)
/-- A step that may be taken. -/
structure StpOk (n : Nat) (x : KStp) : Prop where
  kind : x.1 ≤ 8
  key : x.2.1 < n
  id : x.2.2.2.1.size ≤ maxLen
/-- The set, where it lies. -/
structure SetI (w : World) (s : KSt) (i : Nat) (l : List (Nat × Option ByteArray)) (sv : Value) (M : List Asrt) (wr : World) : Prop where
  out : ∃ gs gm kv n D, sv = .iface 83 (.pointer (some ⟨gs, 0, none⟩)) ∧ DMap D s.ns ∧ n ≤ i ∧ s.ns.length ≤ i ∧ s.ks.length ≤ i ∧ (∀ k ∈ s.ks, k < l.length) ∧
    Hold w w.heap.size wr (.blk gs (.cells #[kv, .map (some gm)] 95) :: .sl kyV kv (s.ks.map (blkAt l)) :: .hm gm n D :: M)
/-- The second loop. -/
structure RunI (w : World) (gb : Nat) (mv : Value) (kds : List KDr) (sts : List KStp) (l : List (Nat × Option ByteArray)) (i : Nat) (sv ov : Value) (wr : World) : Prop where
  out : ∃ T : List Sn, T.map Prod.fst = runF (kdOf kds) (sts.take i) ⟨[], []⟩ ∧
    SetI w (runS (kdOf kds) (sts.take i) ⟨[], []⟩) i l sv (.blk gb (.cells #[mv] 49) :: .sl kyV mv (l.map Prod.fst) :: .keys l :: RunH T ov) wr
theorem RunI.start {w wr w1 : World} {gb gs gm : Nat} {mv : Value} {kds : List KDr} {sts : List KStp} {l : List (Nat × Option ByteArray)} (h : Hold w w.heap.size wr [.blk gb (.cells #[mv] 49), .sl kyV mv (l.map Prod.fst), .keys l])
    (h1 : Hold wr wr.heap.size w1 [.blk gs (.cells #[.slice none 0 0, .map (some gm)] 95), .sl kyV (.slice none 0 0) [], .hm gm 0 (.map [])]) : RunI w gb mv kds sts l 0 (.iface 83 (.pointer (some ⟨gs, 0, none⟩))) (.slice none 0 0) w1 := by
  refine ⟨[], rfl, ⟨gs, gm, .slice none 0 0, 0, .map [], rfl, DMap.nil, Nat.le_refl _, Nat.le_refl _, Nat.le_refl _, fun k hk => (by cases hk), ?_⟩⟩
  have h2 := (((h.app h1).slsNil Value.string).slsNil iV).nil kSn 37
  exact Hold.pickA (M := [_, _, _, _, _, _, _, _, _]) (h2 : Hold w w.heap.size w1 ([_, _, _, _, _, _, _, _, _] ++ [])) [3, 4, 5, 6, 7, 8, 0, 1, 2] (by decide) (by simp) (M' := [_, _, _, _, _, _, _, _, _]) rfl
/-- What stands behind the set between a round's halves. -/
def Mid (gsn gst gb : Nat) (x : KStp) (ok : Bool) (ix fd : Int) (mv : Value) (l : List (Nat × Option ByteArray)) (T : List Sn) (ov : Value) : List Asrt :=
  .blk gsn (.cells #[.bool ok, .int .i64 ix, .int .i64 fd, .int .i64 0, .slice none 0 0, .slice none 0 0] 37) :: .blk gst (.cells #[.int .i64 (x.1 : Int), .int .i64 (x.2.1 : Int), .int .i64 x.2.2.1, .string x.2.2.2.1, .string x.2.2.2.2] 32) ::
    .blk gb (.cells #[mv] 49) :: .sl kyV mv (l.map Prod.fst) :: .keys l :: RunH T ov
/-- Behind the switch. -/
structure SwI (w : World) (r : KSt × Bool × Int × Int) (j gsn gst gb : Nat) (x : KStp) (mv : Value) (l : List (Nat × Option ByteArray)) (T : List Sn) (ov sv : Value) (wx : World) : Prop where
  out : SetI w r.1 (j + 1) l sv (Mid gsn gst gb x r.2.1 r.2.2.1 r.2.2.2 mv l T ov) wx
end Go.Proofs.YtpcbmjphffpplaaGreatDoor
namespace Go.Proofs.YtpcbmjphffpplaaGreatDoor
open Go.RowKit Go.Proofs.YtpcbmjphffpplaaGreatDoorW.PrintWords
set_option linter.unusedVariables false
set_option linter.unusedSimpArgs false
set_option maxRecDepth 100000
theorem blkAt_get {l : List (Nat × Option ByteArray)} {k : Nat} (hk : k < l.length) : blkAt l k = (l.map Prod.fst)[k]'(by simpa using hk) := by
  unfold blkAt
  rw [List.getD_eq_getElem?_getD, List.getElem?_eq_getElem (by simpa using hk), Option.getD_some]
theorem blkAt_mem {l : List (Nat × Option ByteArray)} {k : Nat} (hk : k < l.length) : (blkAt l k, l[k].2) ∈ l := by
  rw [blkAt_get hk, List.getElem_map]
  exact List.getElem_mem hk
theorem blkAt_inj {l : List (Nat × Option ByteArray)} (hnd : (l.map Prod.fst).Nodup) {a b : Nat} (ha : a < l.length) (hb : b < l.length) (h : blkAt l a = blkAt l b) : a = b := by
  rw [blkAt_get ha, blkAt_get hb] at h
  exact (List.getElem_inj hnd).1 h
theorem mem_mapf {f : Nat → Nat} {ks : List Nat} {k : Nat} (h : ∀ x ∈ ks, f x = f k → x = k) : f k ∈ ks.map f ↔ k ∈ ks :=
  ⟨fun hm => by
    obtain ⟨x, hx, e⟩ := List.mem_map.1 hm
    rw [← h x hx e]
    exact hx, fun hm => List.mem_map_of_mem hm⟩
theorem addF_map {f : Nat → Nat} {ks : List Nat} {k : Nat} (h : ∀ x ∈ ks, f x = f k → x = k) : addF (f k) (ks.map f) = (addF k ks).map f := by
  unfold addF
  by_cases hm : k ∈ ks
  · rw [if_pos hm, if_pos ((mem_mapf h).2 hm)]
  · rw [if_neg hm, if_neg (fun h2 => hm ((mem_mapf h).1 h2))]
    simp
theorem erase_map {f : Nat → Nat} {k : Nat} : ∀ {ks : List Nat} (h : ∀ x ∈ ks, f x = f k → x = k), (ks.map f).erase (f k) = (ks.erase k).map f
  | [], _ => rfl
  | y :: r, h => by
    have ih := erase_map (ks := r) (fun x hx => h x (List.mem_cons_of_mem _ hx))
    rw [List.map_cons, List.erase_cons, List.erase_cons]
    by_cases e : y = k
    · subst e
      simp
    · have e2 : ¬ f y = f k := fun h2 => e (h y (by simp) h2)
      rw [if_neg (by simpa using e2), if_neg (by simpa using e), List.map_cons, ih]
theorem idxF_map {f : Nat → Nat} {k : Nat} : ∀ {ks : List Nat} (h : ∀ x ∈ ks, f x = f k → x = k) (i : Nat), idxF (f k) (ks.map f) i = idxF k ks i
  | [], _, _ => rfl
  | y :: r, h, i => by
    have ih := idxF_map (ks := r) (fun x hx => h x (List.mem_cons_of_mem _ hx)) (i + 1)
    rw [List.map_cons]
    unfold idxF
    by_cases e : y = k
    · subst e
      simp
    · have e2 : ¬ f y = f k := fun h2 => e (h y (by simp) h2)
      rw [if_neg e, if_neg e2, ih]
theorem idxF_at : ∀ {L : List Nat} (hnd : L.Nodup) (k : Nat) (hk : k < L.length) (i : Nat), idxF L[k] L i = ((i + k : Nat) : Int)
  | x :: r, _, 0, _, i => by
    unfold idxF
    simp
  | x :: r, hnd, k + 1, hk, i => by
    have hk2 : k < r.length := by simpa using hk
    rw [List.nodup_cons] at hnd
    have ih := idxF_at hnd.2 k hk2 (i + 1)
    have e : ¬ x = r[k] := fun e => hnd.1 (e ▸ List.getElem_mem hk2)
    show idxF r[k] (x :: r) i = _
    unfold idxF
    rw [if_neg e, ih]
    congr 1
    omega
theorem idxF_made {l : List (Nat × Option ByteArray)} (hnd : (l.map Prod.fst).Nodup) {k : Nat} (hk : k < l.length) : idxF (blkAt l k) (l.map Prod.fst) 0 = (k : Int) := by
  rw [blkAt_get hk, idxF_at hnd]
  simp
/-- A key's ID, by its block. -/
def idAt (l : List (Nat × Option ByteArray)) (x : Nat) : Option ByteArray := (l.find? fun y => decide (y.1 = x)).bind Prod.snd
theorem idAt_get : ∀ {l : List (Nat × Option ByteArray)} (hnd : (l.map Prod.fst).Nodup) {x : Nat} {o : Option ByteArray} (h : (x, o) ∈ l), idAt l x = o
  | y :: r, hnd, x, o, h => by
    rw [List.map_cons, List.nodup_cons] at hnd
    unfold idAt
    rw [List.find?_cons]
    rcases List.mem_cons.1 h with e | h
    · subst e
      simp
    · have hne : ¬ y.1 = x := fun e => hnd.1 (e ▸ List.mem_map_of_mem (f := Prod.fst) h)
      rw [decide_eq_false hne]
      exact idAt_get hnd.2 h
theorem kdId_of {kds : List KDr} {k : Nat} (hk : k < kds.length) : kdId (kdOf kds) k = idOf kds[k] := by
  unfold kdId kdOf idOf
  rw [List.getElem?_map, List.getElem?_eq_getElem hk]
  rcases kds[k] with ⟨s, b, t⟩
  cases b <;> rfl
theorem idAt_kd {kds : List KDr} {l : List (Nat × Option ByteArray)} (hl : l.map Prod.snd = kds.map idOf) (hnd : (l.map Prod.fst).Nodup) {k : Nat} (hk : k < l.length) : idAt l (blkAt l k) = kdId (kdOf kds) k := by
  have hk2 : k < kds.length := by
    have := congrArg List.length hl
    simp at this
    omega
  rw [kdId_of hk2, idAt_get hnd (blkAt_mem hk)]
  have h1 : (l.map Prod.snd)[k]? = (kds.map idOf)[k]? := by rw [hl]
  rw [List.getElem?_map, List.getElem?_map, List.getElem?_eq_getElem hk, List.getElem?_eq_getElem hk2] at h1
  simpa using h1
theorem find_map {f : Nat → Nat} {p q : Nat → Bool} : ∀ {ks : List Nat} (h : ∀ x ∈ ks, p (f x) = q x), (ks.map f).find? p = (ks.find? q).map f
  | [], _ => rfl
  | y :: r, h => by
    have ih := find_map (ks := r) (fun x hx => h x (List.mem_cons_of_mem _ hx))
    rw [List.map_cons, List.find?_cons, List.find?_cons, h y (by simp), ih]
    cases q y <;> rfl
theorem lookF_kd {kds : List KDr} {l : List (Nat × Option ByteArray)} (hl : l.map Prod.snd = kds.map idOf) (hnd : (l.map Prod.fst).Nodup) {ks : List Nat} (hk : ∀ k ∈ ks, k < l.length) (s : ByteArray) : lookF (idAt l) s (ks.map (blkAt l)) = (ks.find? fun k => decide (kdId (kdOf kds) k = some s)).map (blkAt l) :=
  find_map (fun x hx => by rw [idAt_kd hl hnd (hk x hx)])
theorem addF_len (k : Nat) (ks : List Nat) : (addF k ks).length ≤ ks.length + 1 := by
  unfold addF
  split
  · omega
  · simp
theorem addF_mem {k : Nat} {ks : List Nat} {n : Nat} (hk : k < n) (h : ∀ x ∈ ks, x < n) : ∀ x ∈ addF k ks, x < n := by
  intro x hx
  unfold addF at hx
  split at hx
  · exact h x hx
  · rcases List.mem_append.1 hx with hx | hx
    · exact h x hx
    · obtain rfl := List.mem_singleton.1 hx
      exact hk
end Go.Proofs.YtpcbmjphffpplaaGreatDoor
namespace Go.Proofs.YtpcbmjphffpplaaGreatDoor
open Go.RowKit Go.Proofs.YtpcbmjphffpplaaGreatDoorW.PrintWords
set_option linter.unusedVariables false
set_option linter.unusedSimpArgs false
set_option maxRecDepth 100000
theorem nilAhead_set (nm : String) (hn : nm = "AddKey" ∨ nm = "RemoveKey" ∨ nm = "Index") (g : Nat) (w : World) : (nilAhead (Tryz.prog.types.size + Made.depth) 83 (.pointer (some ⟨g, 0, none⟩)) nm).run Tryz.prog w = .ok (some false) w := by
  rcases hn with rfl | rfl | rfl <;> kernel_rfl
theorem wp_nilCheck {P : Program} {o : Oper} {a : Act} {w : World} {K : Act → World → Prop} {Q : Exit → Act → World → Prop} {x : Operand} {t : TypeId} {v : Value} {nm : String} (ho : o.op = .nilCheck x) (hx : a.eval x = .func (.method nm) #[.iface t v] #[])
    (hrun : (nilAhead (P.types.size + Made.depth) t v nm).run P w = .ok (some false) w) (h : K (a.put o.dst (.func (.method nm) #[.iface t v] #[])) w) : Oper.wp P o a w K Q := by
  unfold Oper.wp
  simp [execOp, ho, hx, hrun, Result.andThen]
  exact h
/-- An error's value, or none. -/
def errV (ok : Bool) : Value := if ok = true then .nilIface else .iface 135 (.pointer (some ⟨0, 0, none⟩))
theorem errV_is (ok : Bool) : ErrE ok (errV ok) := by
  cases ok
  · exact ⟨0, rfl⟩
  · rfl
theorem errE_eql {ok : Bool} {r : Value} (h : ErrE ok r) (w : World) : (binOp .eql 53 r .nilIface).run Tryz.prog w = .ok (.bool ok) w := by
  cases ok
  · obtain ⟨g, rfl⟩ := h
    kernel_rfl
  · obtain rfl : r = .nilIface := h
    kernel_rfl
theorem errE_guard {ok : Bool} {r : Value} (h : ErrE ok r) (j : Nat) (w : World) : (eqGuard .eql 53 (.tmp j) (.const .nilIface) r .nilIface).run Tryz.prog w = .ok () w := by
  cases ok
  · obtain ⟨g, rfl⟩ := h
    kernel_rfl
  · obtain rfl : r = .nilIface := h
    kernel_rfl
/-- The set, held. -/
def KP (w0 : World) (gs gm n : Nat) (D : DataW Value) (M : List Asrt) (kv : Value) (ks : List Nat) (w : World) : Prop :=
  Hold w0 w0.heap.size w (.blk gs (.cells #[kv, .map (some gm)] 95) :: .sl kyV kv ks :: .hm gm n D :: M)
/-- Ahead of the one call, and behind it. -/
structure WiK (ok : Bool) (P0 P1 : World → Prop) (k : Nat) (t : Value) (w : World) : Prop where
  err : ErrE ok t
  at0 : k = 0 → P0 w
  at1 : k ≠ 0 → P1 w
theorem WiK.mk0 {ok : Bool} {P0 P1 : World → Prop} {w : World} (h : P0 w) : WiK ok P0 P1 0 (errV ok) w := ⟨errV_is ok, fun _ => h, fun e => absurd rfl e⟩
theorem WiK.mk1 {ok : Bool} {P0 P1 : World → Prop} {t : Value} {w : World} (he : ErrE ok t) (h : P1 w) : WiK ok P0 P1 1 t w := ⟨he, fun e => absurd e (by decide), fun _ => h⟩
/-- What a round's operations look at. -/
structure SwF (gb gst : Nat) (mv : Value) (ky : Nat) (ad : Addr) (b : Nat) (w : World) : Prop where
  m0 : w.cell? ⟨gb, 0, none⟩ = some mv
  s1 : w.cell? ⟨gst, 1, none⟩ = some (.int .i64 (ky : Int))
  el : w.cell? (ad.add ky) = some (.iface 81 (.pointer (some ⟨b, 0, none⟩)))
theorem WiK.both {ok : Bool} {P0 P1 F : World → Prop} (h0 : ∀ w, P0 w → F w) (h1 : ∀ w, P1 w → F w) (k : Nat) (t : Value) (w : World) (h : WiK ok P0 P1 k t w) : F w := by
  by_cases hk : k = 0
  · exact h0 w (h.at0 hk)
  · exact h1 w (h.at1 hk)
section
variable {w0 w : World} {gs gm n gsn gst gb : Nat} {D : DataW Value} {x : KStp} {ok : Bool} {ix fd : Int} {mv kv ov : Value} {l : List (Nat × Option ByteArray)} {T : List Sn} {ks : List Nat}
theorem KP.f {ad : Addr} {cm k kb : Nat} (hkb : blkAt l k = kb) (h : KP w0 gs gm n D (Mid gsn gst gb x ok ix fd (.slice (some ad) l.length cm) l T ov) kv ks w) (hk : k = x.2.1) (hx : k < l.length) : SwF gb gst (.slice (some ad) l.length cm) k ad kb w := by
  subst hkb
  subst hk
  have h' : Hold w0 w0.heap.size w _ := h
  refine ⟨(h'.cell 5 rfl 0 (by simp)).1, (h'.cell 4 rfl 1 (by simp)).1, ?_⟩
  obtain ⟨A, c, e, _, hC⟩ := h'.slReads kyV_one 6 rfl
  injection e with e1
  subst e1
  obtain ⟨ad', e2, he⟩ := C1_get hC x.2.1 (by simpa using hx)
  injection e2 with e2
  subst e2
  rw [he, ← blkAt_get hx]
  rfl
theorem KP.keys (h : KP w0 gs gm n D (Mid gsn gst gb x ok ix fd mv l T ov) kv ks w) : (∀ y ∈ l, IsKy w y.1 ∧ KeyHas w y.1 y.2) ∧ (l.map Prod.fst).Nodup :=
  Hold.keysIs (h : Hold w0 w0.heap.size w _) 7 rfl
theorem KP.isKy (h : KP w0 gs gm n D (Mid gsn gst gb x ok ix fd mv l T ov) kv ks w) {ks' : List Nat} (hks : ∀ k ∈ ks', k < l.length) : ∀ y ∈ ks'.map (blkAt l), IsKy w y := fun y hy => by
  obtain ⟨z, hz, rfl⟩ := List.mem_map.1 hy
  exact (h.keys.1 _ (blkAt_mem (hks z hz))).1
theorem KP.add {k kb : Nat} {ok' : Bool} (hkb : blkAt l k = kb) (hok : decide (k ∉ ks) = ok') (h : KP w0 gs gm n D (Mid gsn gst gb x ok ix fd mv l T ov) kv (ks.map (blkAt l)) w) (hks : ∀ k ∈ ks, k < l.length) (hk : k < l.length) (hkl : ks.length ≤ 1000000) :
    Calls Tryz.prog 105 #[.pointer (some ⟨gs, 0, none⟩), .iface 81 (.pointer (some ⟨kb, 0, none⟩))] w fun e w' => ∃ r, e = .returned r ∧ ErrE ok' r ∧ ∃ kv', KP w0 gs gm n D (Mid gsn gst gb x ok ix fd mv l T ov) kv' ((addF k ks).map (blkAt l)) w' := by
  subst hok
  subst hkb
  have hin : ∀ y ∈ ks, blkAt l y = blkAt l k → y = k := fun y hy e => blkAt_inj h.keys.2 (hks y hy) hk e
  refine (addKey_any w gs gm (blkAt l k) kv (ks.map (blkAt l)) (h.keys.1 _ (blkAt_mem hk)).1 (h.isKy hks) (by simpa using hkl) h).mono ?_
  rintro e w' ⟨r, kv', rfl, hr, h2⟩
  rw [addF_map hin] at h2
  refine ⟨r, rfl, ?_, kv', h2⟩
  have : (blkAt l k ∉ ks.map (blkAt l)) = (k ∉ ks) := by rw [mem_mapf hin]
  simp only [this] at hr
  exact hr
theorem KP.rem {k kb : Nat} {ok' : Bool} (hkb : blkAt l k = kb) (hok : decide (k ∈ ks) = ok') (h : KP w0 gs gm n D (Mid gsn gst gb x ok ix fd mv l T ov) kv (ks.map (blkAt l)) w) (hks : ∀ k ∈ ks, k < l.length) (hk : k < l.length) (hkl : ks.length ≤ 1000000) :
    Calls Tryz.prog 115 #[.pointer (some ⟨gs, 0, none⟩), .iface 81 (.pointer (some ⟨kb, 0, none⟩))] w fun e w' => ∃ r, e = .returned r ∧ ErrE ok' r ∧ ∃ kv', KP w0 gs gm n D (Mid gsn gst gb x ok ix fd mv l T ov) kv' ((ks.erase k).map (blkAt l)) w' := by
  subst hok
  subst hkb
  have hin : ∀ y ∈ ks, blkAt l y = blkAt l k → y = k := fun y hy e => blkAt_inj h.keys.2 (hks y hy) hk e
  refine (removeKey_any w gs gm (blkAt l k) kv (ks.map (blkAt l)) (h.keys.1 _ (blkAt_mem hk)).1 (h.isKy hks) (by simpa using hkl) h).mono ?_
  rintro e w' ⟨r, kv', rfl, hr, h2⟩
  rw [erase_map hin] at h2
  refine ⟨r, rfl, ?_, kv', h2⟩
  have : (blkAt l k ∈ ks.map (blkAt l)) = (k ∈ ks) := by rw [mem_mapf hin]
  simp only [this] at hr
  exact hr
theorem KP.idx {k kb : Nat} {idx : Int} (hkb : blkAt l k = kb) (hix : idxF k ks 0 = idx) (h : KP w0 gs gm n D (Mid gsn gst gb x ok ix fd mv l T ov) kv (ks.map (blkAt l)) w) (hks : ∀ k ∈ ks, k < l.length) (hk : k < l.length) :
    Calls Tryz.prog 109 #[.pointer (some ⟨gs, 0, none⟩), .iface 81 (.pointer (some ⟨kb, 0, none⟩))] w fun e w' => e = .returned (.int .i64 idx) ∧ w' = w := by
  subst hix
  subst hkb
  have hin : ∀ y ∈ ks, blkAt l y = blkAt l k → y = k := fun y hy e => blkAt_inj h.keys.2 (hks y hy) hk e
  have h2 := setIndex_any w gs gm n (blkAt l k) kv (ks.map (blkAt l)) (h.keys.1 _ (blkAt_mem hk)).1 (h.isKy hks) h
  rw [idxF_map hin] at h2
  exact h2
theorem KP.at' {k kb : Nat} (hkb : blkAt l k = kb) (h : KP w0 gs gm n D (Mid gsn gst gb x ok ix fd mv l T ov) kv ks w) (hk : k < l.length) :
    Calls Tryz.prog 16 #[.iface 81 (.pointer (some ⟨kb, 0, none⟩)), .pointer (some ⟨gb, 0, none⟩)] w fun e w' => e = .returned (.int .i64 (k : Int)) ∧ w' = w := by
  subst hkb
  have h5 : Hold w0 w0.heap.size w _ := Hold.pickA (M := [_, _, _, _, _, _, _, _]) ((h : Hold w0 w0.heap.size w _) : Hold w0 w0.heap.size w ([_, _, _, _, _, _, _, _] ++ RunH T ov)) [5, 6] (by decide) (by simp) (M' := [_, _]) rfl
  have h2 := at_any w gb (blkAt l k) mv (l.map Prod.fst) (h.keys.1 _ (blkAt_mem hk)).1 (fun y hy => by
    obtain ⟨z, hz, rfl⟩ := List.mem_map.1 hy
    exact (h.keys.1 z hz).1) h5
  rw [idxF_made h.keys.2 hk] at h2
  exact h2
theorem KP.key {i : Int} (h : KP w0 gs gm n D (Mid gsn gst gb x ok ix fd mv l T ov) kv (ks.map (blkAt l)) w) :
    Calls Tryz.prog 110 #[.pointer (some ⟨gs, 0, none⟩), .int .i64 i] w fun e w' => e = .returned (if h : 0 ≤ i ∧ i < ks.length then .tuple #[.iface 81 (.pointer (some ⟨blkAt l (ks[i.toNat]'(by omega)), 0, none⟩)), .bool true] else .tuple #[.nilIface, .bool false]) ∧ w' = w := by
  refine (setKey_any w gs gm n kv (ks.map (blkAt l)) i h).mono ?_
  rintro e w' ⟨rfl, rfl⟩
  refine ⟨?_, rfl⟩
  by_cases hi : 0 ≤ i ∧ i < (ks.length : Int)
  · rw [dif_pos hi, dif_pos (by simpa using hi), List.getElem_map]
    rfl
  · rw [dif_neg hi, dif_neg (by simpa using hi)]
theorem KP.keyYes {i : Int} {k kb : Nat} (h : KP w0 gs gm n D (Mid gsn gst gb x ok ix fd mv l T ov) kv (ks.map (blkAt l)) w) (hi : 0 ≤ i ∧ i < ks.length) (hk : ks[i.toNat]'(by omega) = k) (hkb : blkAt l k = kb) :
    Calls Tryz.prog 110 #[.pointer (some ⟨gs, 0, none⟩), .int .i64 i] w fun e w' => e = .returned (.tuple #[.iface 81 (.pointer (some ⟨kb, 0, none⟩)), .bool true]) ∧ w' = w := by
  have h2 := h.key (i := i)
  simp only [dif_pos hi, hk, hkb] at h2
  exact h2
theorem KP.keyNo {i : Int} (h : KP w0 gs gm n D (Mid gsn gst gb x ok ix fd mv l T ov) kv (ks.map (blkAt l)) w) (hi : ¬ (0 ≤ i ∧ i < ks.length)) :
    Calls Tryz.prog 110 #[.pointer (some ⟨gs, 0, none⟩), .int .i64 i] w fun e w' => e = .returned (.tuple #[.nilIface, .bool false]) ∧ w' = w := by
  have h2 := h.key (i := i)
  simp only [dif_neg hi] at h2
  exact h2
theorem KP.look {kds : List KDr} {s : ByteArray} (h : KP w0 gs gm n D (Mid gsn gst gb x ok ix fd mv l T ov) kv (ks.map (blkAt l)) w) (hl : l.map Prod.snd = kds.map idOf) (hks : ∀ k ∈ ks, k < l.length) (hkl : ks.length ≤ 1000000) :
    Calls Tryz.prog 113 #[.pointer (some ⟨gs, 0, none⟩), .string s] w fun e w' => e = .returned (match ks.find? (fun k => decide (kdId (kdOf kds) k = some s)) with | some k => .tuple #[.iface 81 (.pointer (some ⟨blkAt l k, 0, none⟩)), .bool true] | none => .tuple #[.nilIface, .bool false]) ∧ w' = w := by
  refine (lookup_any w gs gm kv (ks.map (blkAt l)) (idAt l) s (fun y hy => ?_) (by simpa using hkl) h).mono ?_
  · obtain ⟨z, hz, rfl⟩ := List.mem_map.1 hy
    have h1 := h.keys.1 _ (blkAt_mem (hks z hz))
    rw [← idAt_get h.keys.2 (blkAt_mem (hks z hz))] at h1
    exact h1
  · rintro e w' ⟨rfl, rfl⟩
    refine ⟨?_, rfl⟩
    rw [lookF_kd hl h.keys.2 hks]
    cases ks.find? (fun k => decide (kdId (kdOf kds) k = some s)) <;> rfl
theorem KP.lookYes {kds : List KDr} {s : ByteArray} {k kb : Nat} (h : KP w0 gs gm n D (Mid gsn gst gb x ok ix fd mv l T ov) kv (ks.map (blkAt l)) w) (hl : l.map Prod.snd = kds.map idOf) (hks : ∀ k ∈ ks, k < l.length) (hkl : ks.length ≤ 1000000) (hf : ks.find? (fun k => decide (kdId (kdOf kds) k = some s)) = some k) (hkb : blkAt l k = kb) :
    Calls Tryz.prog 113 #[.pointer (some ⟨gs, 0, none⟩), .string s] w fun e w' => e = .returned (.tuple #[.iface 81 (.pointer (some ⟨kb, 0, none⟩)), .bool true]) ∧ w' = w := by
  have h2 := h.look (s := s) hl hks hkl
  simp only [hf, hkb] at h2
  exact h2
theorem KP.lookNo {kds : List KDr} {s : ByteArray} (h : KP w0 gs gm n D (Mid gsn gst gb x ok ix fd mv l T ov) kv (ks.map (blkAt l)) w) (hl : l.map Prod.snd = kds.map idOf) (hks : ∀ k ∈ ks, k < l.length) (hkl : ks.length ≤ 1000000) (hf : ks.find? (fun k => decide (kdId (kdOf kds) k = some s)) = none) :
    Calls Tryz.prog 113 #[.pointer (some ⟨gs, 0, none⟩), .string s] w fun e w' => e = .returned (.tuple #[.nilIface, .bool false]) ∧ w' = w := by
  have h2 := h.look (s := s) hl hks hkl
  simp only [hf] at h2
  exact h2
theorem KP.drew (h : KP w0 gs gm n D (Mid gsn gst gb x ok ix fd mv l T ov) kv ks w) : KP w0 gs gm n D (Mid gsn gst gb x ok ix fd mv l T ov) kv ks w.drew := Hold.drew (h : Hold w0 w0.heap.size w _)
/-- The step's own answers are stored. -/
theorem KP.ok_ (h : KP w0 gs gm n D (Mid gsn gst gb x ok ix fd mv l T ov) kv ks w) (ok' : Bool) : KP w0 gs gm n D (Mid gsn gst gb x ok' ix fd mv l T ov) kv ks (w.setCell ⟨gsn, 0, none⟩ (.bool ok')) := Hold.store (h : Hold w0 w0.heap.size w _) 3 rfl 0 (.bool ok')
theorem KP.ix_ (h : KP w0 gs gm n D (Mid gsn gst gb x ok ix fd mv l T ov) kv ks w) (ix' : Int) : KP w0 gs gm n D (Mid gsn gst gb x ok ix' fd mv l T ov) kv ks (w.setCell ⟨gsn, 1, none⟩ (.int .i64 ix')) := Hold.store (h : Hold w0 w0.heap.size w _) 3 rfl 1 (.int .i64 ix')
theorem KP.fd_ (h : KP w0 gs gm n D (Mid gsn gst gb x ok ix fd mv l T ov) kv ks w) (fd' : Int) : KP w0 gs gm n D (Mid gsn gst gb x ok ix fd' mv l T ov) kv ks (w.setCell ⟨gsn, 2, none⟩ (.int .i64 fd')) := Hold.store (h : Hold w0 w0.heap.size w _) 3 rfl 2 (.int .i64 fd')
theorem KP.sn (h : KP w0 gs gm n D (Mid gsn gst gb x ok ix fd mv l T ov) kv ks w) : (w.cell? ⟨gsn, 0, none⟩ = some (.bool ok) ∧ w.frozen? ⟨gsn, 0, none⟩ = false) ∧ (w.cell? ⟨gsn, 1, none⟩ = some (.int .i64 ix) ∧ w.frozen? ⟨gsn, 1, none⟩ = false) ∧ (w.cell? ⟨gsn, 2, none⟩ = some (.int .i64 fd) ∧ w.frozen? ⟨gsn, 2, none⟩ = false) :=
  ⟨Hold.cell (h : Hold w0 w0.heap.size w _) 3 rfl 0 (by simp), Hold.cell (h : Hold w0 w0.heap.size w _) 3 rfl 1 (by simp), Hold.cell (h : Hold w0 w0.heap.size w _) 3 rfl 2 (by simp)⟩
end
end Go.Proofs.YtpcbmjphffpplaaGreatDoor
namespace Go.Proofs.YtpcbmjphffpplaaGreatDoor
open Go.RowKit Go.Proofs.YtpcbmjphffpplaaGreatDoorW.PrintWords
set_option linter.unusedVariables false
set_option linter.unusedSimpArgs false
set_option maxRecDepth 100000
/-! ### the order of texts does not hang on where they came from -/
theorem sortB_perm {a b : List (List UInt8)} (h : a.Perm b) : sortB a = sortB b := by
  unfold sortB
  refine List.Perm.eq_of_pairwise (le := fun x y => decide (x ≤ y) = true) (fun x y _ _ h1 h2 => List.le_antisymm (of_decide_eq_true h1) (of_decide_eq_true h2)) ?_ ?_ ((List.mergeSort_perm a _).trans (h.trans (List.mergeSort_perm b _).symm))
  · exact List.pairwise_mergeSort (le := fun x y : List UInt8 => decide (x ≤ y)) (fun x y z h1 h2 => decide_eq_true (List.le_trans (of_decide_eq_true h1) (of_decide_eq_true h2))) (fun x y => by
      rcases List.le_total x y with h | h
      · rw [decide_eq_true h]; rfl
      · rw [decide_eq_true h, Bool.or_true]) a
  · exact List.pairwise_mergeSort (le := fun x y : List UInt8 => decide (x ≤ y)) (fun x y z h1 h2 => decide_eq_true (List.le_trans (of_decide_eq_true h1) (of_decide_eq_true h2))) (fun x y => by
      rcases List.le_total x y with h | h
      · rw [decide_eq_true h]; rfl
      · rw [decide_eq_true h, Bool.or_true]) b
theorem sortN_perm {a b : List ByteArray} (h : a.Perm b) : sortN a = sortN b := by
  unfold sortN
  rw [sortB_perm (h.map toL)]
/-! ### a round's second half -/
structure RdC where
  gs : Nat
  gm : Nat
  n : Nat
  D : DataW Value
  gsn : Nat
  gst : Nat
  gb : Nat
  x : KStp
  ok : Bool
  ix : Int
  fd : Int
  nv : Value
  mv : Value
  ov : Value
  kv : Value
  l : List (Nat × Option ByteArray)
  nms : List ByteArray
  T : List Sn
  ks : List Nat
/-- What is held: the slice in the box is av (its elements xs); the length in the box is ln. -/
def RdC.L (c : RdC) (ln : Int) (bv av : Value) (xs : List Nat) : List Asrt :=
  .blk c.gs (.cells #[c.kv, .map (some c.gm)] 95) :: .sl kyV c.kv (c.ks.map (blkAt c.l)) :: .hm c.gm c.n c.D ::
    .blk c.gsn (.cells #[.bool c.ok, .int .i64 c.ix, .int .i64 c.fd, .int .i64 ln, bv, c.nv] 37) :: .sl iV av xs ::
    .blk c.gst (.cells #[.int .i64 (c.x.1 : Int), .int .i64 (c.x.2.1 : Int), .int .i64 c.x.2.2.1, .string c.x.2.2.2.1, .string c.x.2.2.2.2] 32) ::
    .blk c.gb (.cells #[c.mv] 49) :: .sl kyV c.mv (c.l.map Prod.fst) :: .keys c.l :: .sl Value.string c.nv c.nms :: RunH c.T c.ov
def RdP (c : RdC) (w0 : World) (ln : Int) (bv av : Value) (xs : List Nat) (w : World) : Prop := Hold w0 w0.heap.size w (c.L ln bv av xs)
section
variable {c : RdC} {w0 w : World} {ln : Int} {bv av : Value} {xs : List Nat}
theorem RdP.keys (h : RdP c w0 ln bv av xs w) : (∀ y ∈ c.l, IsKy w y.1 ∧ KeyHas w y.1 y.2) ∧ (c.l.map Prod.fst).Nodup :=
  Hold.keysIs (h : Hold w0 w0.heap.size w _) 8 rfl
theorem RdP.len {m : Nat} (h : RdP c w0 ln bv av xs w) (hm : c.ks.length = m) :
    Calls Tryz.prog 112 #[.pointer (some ⟨c.gs, 0, none⟩)] w fun e w' => e = .returned (.int .i64 (m : Int)) ∧ w' = w := by
  have h2 := setLen_any w c.gs c.gm c.n c.kv (c.ks.map (blkAt c.l)) c.D h
  rw [List.length_map, hm] at h2
  exact h2
theorem RdP.key {i k kb : Nat} (h : RdP c w0 ln bv av xs w) (hi : c.ks[i]? = some k) (hkb : blkAt c.l k = kb) :
    Calls Tryz.prog 110 #[.pointer (some ⟨c.gs, 0, none⟩), .int .i64 (i : Int)] w fun e w' => e = .returned (.tuple #[.iface 81 (.pointer (some ⟨kb, 0, none⟩)), .bool true]) ∧ w' = w := by
  obtain ⟨hl, hk⟩ := List.getElem?_eq_some_iff.1 hi
  refine (setKey_any w c.gs c.gm c.n c.kv (c.ks.map (blkAt c.l)) (i : Int) h).mono ?_
  rintro e w' ⟨rfl, rfl⟩
  refine ⟨?_, rfl⟩
  have hc : 0 ≤ (i : Int) ∧ (i : Int) < ((c.ks.map (blkAt c.l)).length : Int) := ⟨by omega, by rw [List.length_map]; omega⟩
  rw [dif_pos hc]
  simp only [Int.toNat_natCast, List.getElem_map, hk, hkb]
  rfl
theorem RdP.at' {k kb : Nat} (h : RdP c w0 ln bv av xs w) (hkb : blkAt c.l k = kb) (hk : k < c.l.length) :
    Calls Tryz.prog 16 #[.iface 81 (.pointer (some ⟨kb, 0, none⟩)), .pointer (some ⟨c.gb, 0, none⟩)] w fun e w' => e = .returned (.int .i64 (k : Int)) ∧ w' = w := by
  subst hkb
  have h5 : Hold w0 w0.heap.size w _ := Hold.pickA (M := [_, _, _, _, _, _, _, _, _, _]) ((h : Hold w0 w0.heap.size w _) : Hold w0 w0.heap.size w ([_, _, _, _, _, _, _, _, _, _] ++ RunH c.T c.ov)) [6, 7] (by decide) (by simp) (M' := [_, _]) rfl
  have h2 := at_any w c.gb (blkAt c.l k) c.mv (c.l.map Prod.fst) (h.keys.1 _ (blkAt_mem hk)).1 (fun y hy => by
    obtain ⟨z, hz, rfl⟩ := List.mem_map.1 hy
    exact (h.keys.1 z hz).1) h5
  rw [idxF_made h.keys.2 hk] at h2
  exact h2
theorem RdP.sn (h : RdP c w0 ln bv av xs w) : (w.cell? ⟨c.gsn, 0, none⟩ = some (.bool c.ok) ∧ w.cell? ⟨c.gsn, 1, none⟩ = some (.int .i64 c.ix) ∧ w.cell? ⟨c.gsn, 2, none⟩ = some (.int .i64 c.fd) ∧ w.cell? ⟨c.gsn, 3, none⟩ = some (.int .i64 ln) ∧ w.cell? ⟨c.gsn, 4, none⟩ = some bv ∧ w.cell? ⟨c.gsn, 5, none⟩ = some c.nv) ∧ w.frozen? ⟨c.gsn, 3, none⟩ = false ∧ w.frozen? ⟨c.gsn, 4, none⟩ = false := by
  have h' : Hold w0 w0.heap.size w _ := h
  exact ⟨⟨(h'.cell 3 rfl 0 (by simp)).1, (h'.cell 3 rfl 1 (by simp)).1, (h'.cell 3 rfl 2 (by simp)).1, (h'.cell 3 rfl 3 (by simp)).1, (h'.cell 3 rfl 4 (by simp)).1, (h'.cell 3 rfl 5 (by simp)).1⟩, (h'.cell 3 rfl 3 (by simp)).2, (h'.cell 3 rfl 4 (by simp)).2⟩
theorem RdP.drew (h : RdP c w0 ln bv av xs w) : RdP c w0 ln bv av xs w.drew := Hold.drew (h : Hold w0 w0.heap.size w _)
theorem RdP.alloc_ (h : RdP c w0 ln bv av xs w) (o : Obj) : RdP c w0 ln bv av xs (w.alloc o) := Hold.alloc_ (h : Hold w0 w0.heap.size w _) o
theorem RdP.ln_ (h : RdP c w0 ln bv av xs w) (ln' : Int) : RdP c w0 ln' bv av xs (w.setCell ⟨c.gsn, 3, none⟩ (.int .i64 ln')) := Hold.store (h : Hold w0 w0.heap.size w _) 3 rfl 3 (.int .i64 ln')
theorem RdP.bv_ (h : RdP c w0 ln bv av xs w) (v : Value) : RdP c w0 ln v av xs (w.setCell ⟨c.gsn, 4, none⟩ v) := Hold.store (h : Hold w0 w0.heap.size w _) 3 rfl 4 v
theorem RdP.form (h : RdP c w0 ln bv av xs w) : ∃ A cap, av = .slice A xs.length cap := by
  obtain ⟨A, cap, e, _⟩ := Hold.slReads iV_one (h : Hold w0 w0.heap.size w _) 4 rfl
  exact ⟨A, cap, e⟩
theorem infoI : (Tryz.prog.info? 3).map (fun i => (i.zero, i.size, i.bytes)) = some (some (iV 0), 1, 8) := by kernel_rfl
theorem RdP.app {m cap : Nat} {A A2 : Option Addr} {k c2 : Nat} (h : RdP c w0 ln bv (.slice A m cap) xs w) (hC : (Kd.scalar iV iV_one).C w A2 1 [k]) (hl : xs.length ≤ 1000000) :
    ∃ v1 w1, (Builtin.append_ #[30, 30] 30 #[.slice A m cap, .slice A2 1 c2]).run Tryz.prog w = .ok v1 w1 ∧ RdP c w0 ln bv v1 (xs ++ [k]) w1 :=
  Hold.slAppendRun (P := Tryz.prog) (h1 := iV_one) 4 (h : Hold w0 w0.heap.size w _) rfl 30 30 3 (iV 0) 8 Tryz.underlying30 infoI rfl A2 1 c2 hC (by decide) (by simp only [maxLen]; omega) (by omega)
end
/-- Ahead of the literal, behind it, and behind the append. -/
structure RdW (c : RdC) (w0 : World) (ln : Int) (bv : Value) (xs : List Nat) (k1 : Nat) (k : Nat) (t : Value × Value) (w : World) : Prop where
  at0 : k ≤ 1 → RdP c w0 ln bv bv xs w
  at1 : k = 1 → ∃ g, t.1 = .slice (some ⟨g, 0, none⟩) 1 1 ∧ (Kd.scalar iV iV_one).C w (some ⟨g, 0, none⟩) 1 [k1]
  at2 : 2 ≤ k → RdP c w0 ln bv t.2 (xs ++ [k1]) w
theorem RdW.f {c : RdC} {w0 : World} {ln : Int} {bv : Value} {xs : List Nat} {k1 k : Nat} {t : Value × Value} {w : World} (h : RdW c w0 ln bv xs k1 k t w) : w.cell? ⟨c.gsn, 4, none⟩ = some bv := by
  by_cases hk : k ≤ 1
  · exact (h.at0 hk).sn.1.2.2.2.2.1
  · exact (h.at2 (by omega)).sn.1.2.2.2.2.1
theorem RdW.at' {c : RdC} {w0 : World} {ln : Int} {bv : Value} {xs : List Nat} {k1 k : Nat} {t : Value × Value} {w : World} (h : RdW c w0 ln bv xs k1 k t w) {kb : Nat} (hkb : blkAt c.l k1 = kb) (hk : k1 < c.l.length) :
    Calls Tryz.prog 16 #[.iface 81 (.pointer (some ⟨kb, 0, none⟩)), .pointer (some ⟨c.gb, 0, none⟩)] w fun e w' => e = .returned (.int .i64 (k1 : Int)) ∧ w' = w := by
  by_cases h1 : k ≤ 1
  · exact (h.at0 h1).at' hkb hk
  · exact (h.at2 (by omega)).at' hkb hk
theorem putN_len (s : ByteArray) (ns : List ByteArray) : (putN s ns).length ≤ ns.length + 1 := by
  unfold putN
  split
  · omega
  · simp
theorem runF_length (kd : List KD) : ∀ (l : List KStp) (s : KSt), (runF kd l s).length = l.length
  | [], _ => rfl
  | x :: r, s => by
    show (runF kd r _).length + 1 = r.length + 1
    rw [runF_length kd r]
structure RdI (c : RdC) (w0 : World) (ln : Int) (j : Nat) (w : World) : Prop where
  out : ∃ av, RdP c w0 ln av av (c.ks.take j) w
theorem info37 : (Tryz.prog.info? 37).map (fun i => (i.zero, i.size, i.bytes)) = some (some (.agg #[.bool false, .int .i64 0, .int .i64 0, .int .i64 0, .slice none 0 0, .slice none 0 0]), 6, 80) := by kernel_rfl
theorem allsOf_add (T : List Sn) (x : Sn) : allsOf (T ++ [x]) = allsOf T ++ [(slT x.2.1, x.1.all)] := by simp [allsOf]
theorem namesOf_add (T : List Sn) (x : Sn) : namesOf (T ++ [x]) = namesOf T ++ [(slT x.2.2, x.1.names)] := by simp [namesOf]
theorem RunI.next {c : RdC} {w wz : World} {kds : List KDr} {sts : List KStp} {j : Nat} {ln : Nat} {av v1 : Value} {aT nT : SlT} {ns : List ByteArray}
    (h : Hold w w.heap.size wz ((c.L (ln : Int) av av c.ks).set 10 (.row kSn 37 v1 (c.T ++ [(⟨c.ok, c.ix, c.fd, ln, c.ks, c.nms⟩, aT, nT)]))))
    (ha : av = slT aT) (hnv : c.nv = slT nT)
    (hT : (c.T ++ [((⟨c.ok, c.ix, c.fd, ln, c.ks, c.nms⟩ : KSn), aT, nT)]).map Prod.fst = runF (kdOf kds) (sts.take (j + 1)) ⟨[], []⟩) (hs : runS (kdOf kds) (sts.take (j + 1)) ⟨[], []⟩ = ⟨c.ks, ns⟩)
    (hD : DMap c.D ns) (h1 : c.n ≤ j + 1) (h2 : ns.length ≤ j + 1) (h3 : c.ks.length ≤ j + 1) (h4 : ∀ k ∈ c.ks, k < c.l.length) :
    RunI w c.gb c.mv kds sts c.l (j + 1) (.iface 83 (.pointer (some ⟨c.gs, 0, none⟩))) v1 wz := by
  subst ha
  refine ⟨_, hT, ?_⟩
  rw [hs]
  refine ⟨c.gs, c.gm, c.kv, c.n, c.D, rfl, hD, h1, h2, h3, h4, ?_⟩
  have g1 := (Hold.pickA (M := [_, _, _, _, _, _, _, _, _, _, _, _, _]) (h : Hold w w.heap.size wz ([_, _, _, _, _, _, _, _, _, _, _, _, _] ++ [])) [4, 11, 0, 1, 2, 6, 7, 8, 10, 9, 12] (by decide) (by simp) (M' := [_, _, _, _, _, _, _, _, _, _, _]) rfl).slsAdd
  have g2 := (Hold.pickA (M := [_, _, _, _, _, _, _, _, _, _]) (g1 : Hold w w.heap.size wz ([_, _, _, _, _, _, _, _, _, _] ++ [])) [8, 9, 1, 2, 3, 4, 5, 6, 7, 0] (by decide) (by simp) (M' := [_, _, _, _, _, _, _, _, _, _]) rfl).slsAdd
  have g3 := Hold.pickA (M := [_, _, _, _, _, _, _, _, _]) (g2 : Hold w w.heap.size wz ([_, _, _, _, _, _, _, _, _] ++ [])) [1, 2, 3, 4, 5, 6, 7, 8, 0] (by decide) (by simp) (M' := [_, _, _, _, _, _, _, _, _]) rfl
  unfold RunH
  rw [allsOf_add, namesOf_add]
  rw [hnv] at g3
  exact g3
end Go.Proofs.YtpcbmjphffpplaaGreatDoor
