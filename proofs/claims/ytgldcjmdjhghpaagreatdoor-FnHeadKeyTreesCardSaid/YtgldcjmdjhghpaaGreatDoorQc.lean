/-
  fastjson's parseRawString: its contract.
  fastjson's parseRawKey: its contract.
-/
import Derived.Test.YtgldcjmdjhghpaaGreatDoorJ3
import Derived.Test.YtgldcjmdjhghpaaGreatDoorQb
import Derived.Deep.CutBlock
import Derived.Deep.DeepCutAuto
import Derived.IntWalk
namespace Go.Proofs.YtgldcjmdjhghpaaGreatDoor
open Go.RowKit Go.Proofs.YtgldcjmdjhghpaaGreatDoorW.PrintWords Go.ChangeShapes Go.WideShapes
set_option linter.unusedVariables false
set_option linter.unusedSimpArgs false
set_option maxRecDepth 100000
def flagAfter : Bool → Bs → Bool
  | e, [] => e
  | e, c :: r => flagAfter (c == 92 && !e) r
theorem flag_append : ∀ (p q : Bs) (e : Bool), flagAfter e (p ++ q) = flagAfter (flagAfter e p) q
  | [], q, e => rfl
  | c :: p, q, e => flag_append p q _
theorem scan_none : ∀ (s : Bs) (e : Bool), (34 : UInt8) ∉ s → scanStr e s = none
  | [], e, _ => rfl
  | c :: r, e, h => by
    have hc : ¬ (c = 34 ∧ e = false) := fun hh => h (by rw [hh.1]; simp)
    rw [scanStr, if_neg hc, scan_none r _ (fun hr => h (by simp [hr]))]
    rfl
theorem scan_pre : ∀ (p q : Bs) (e : Bool), (34 : UInt8) ∉ p → scanStr e (p ++ q) = (scanStr (flagAfter e p) q).map fun x => (p ++ x.1, x.2)
  | [], q, e, _ => by
    rw [List.nil_append]
    show scanStr e q = (scanStr e q).map _
    cases scanStr e q <;> rfl
  | c :: p, q, e, h => by
    have hc : ¬ (c = 34 ∧ e = false) := fun hh => h (by rw [hh.1]; simp)
    rw [List.cons_append, scanStr, if_neg hc, scan_pre p q _ (fun hr => h (by simp [hr]))]
    show Option.map _ (Option.map _ _) = Option.map _ _
    rw [Option.map_map]
    rfl
theorem flag_reps : ∀ (k : Nat), flagAfter false (List.replicate k (92 : UInt8)) = decide (k % 2 = 1)
  | 0 => rfl
  | 1 => rfl
  | k + 2 => by
    rw [List.replicate_succ, List.replicate_succ]
    show flagAfter false (List.replicate k 92) = _
    rw [flag_reps k]
    congr 1
    apply propext
    omega
/-- The signs ahead of a quotation mark: k of them. -/
structure Backs (p q : Bs) (k : Nat) : Prop where
  eq : p = q ++ List.replicate k 92
  stop : q = [] ∨ ∃ q' c, q = q' ++ [c] ∧ c ≠ 92
theorem Backs.flag {p q : Bs} {k : Nat} (h : Backs p q k) : flagAfter false p = decide (k % 2 = 1) := by
  rw [h.eq, flag_append]
  rcases h.stop with rfl | ⟨q', c, rfl, hc⟩
  · exact flag_reps k
  · rw [flag_append]
    show flagAfter (flagAfter (c == 92 && _) []) _ = _
    have : (c == 92) = false := by rw [beq_eq_false_iff_ne]; exact hc
    rw [this]
    exact flag_reps k
theorem raw_even {p q r : Bs} {k : Nat} (h : Backs p q k) (hp : (34 : UInt8) ∉ p) (hk : k % 2 = 0) : rawStr (p ++ 34 :: r) = some (p, r) := by
  unfold rawStr
  rw [scan_pre _ _ _ hp, h.flag, scanStr, if_pos ⟨rfl, by rw [decide_eq_false_iff_not]; omega⟩]
  simp
theorem raw_odd {p q r : Bs} {k : Nat} (h : Backs p q k) (hp : (34 : UInt8) ∉ p) (hk : k % 2 = 1) : rawStr (p ++ 34 :: r) = (rawStr r).map fun x => (p ++ 34 :: x.1, x.2) := by
  unfold rawStr
  rw [scan_pre _ _ _ hp, h.flag, scanStr, if_neg (by simp [hk])]
  rw [show decide (k % 2 = 1) = true from decide_eq_true hk]
  rw [Option.map_map]
  rfl
theorem raw_no {s : Bs} (h : (34 : UInt8) ∉ s) : rawStr s = none := scan_none s false h
theorem backs_zero {p : Bs} (h : p = [] ∨ ∃ p' c, p = p' ++ [c] ∧ c ≠ 92) : Backs p p 0 := ⟨by simp, h⟩
theorem last_of (p : Bs) (h : p ≠ []) : ∃ p' c, p = p' ++ [c] := ⟨p.dropLast, p.getLast h, (List.dropLast_concat_getLast h).symm⟩
/-- What has been read of a text, and what follows: as the whole. -/
structure Rest (S u s : Bs) : Prop where
  eq : S = u ++ s
  raw : rawStr S = (rawStr s).map fun x => (u ++ x.1, x.2)
theorem Rest.start (S : Bs) : Rest S [] S := ⟨rfl, by
  cases rawStr S <;> rfl⟩
theorem Rest.odd {S u p q r : Bs} {k : Nat} (h : Rest S u (p ++ 34 :: r)) (hb : Backs p q k) (hp : (34 : UInt8) ∉ p) (hk : k % 2 = 1) : Rest S (u ++ (p ++ [34])) r := by
  refine ⟨by rw [h.eq]; simp, ?_⟩
  rw [h.raw, raw_odd hb hp hk, Option.map_map]
  congr 1
  funext x
  simp
theorem Rest.even {S u p q r : Bs} {k : Nat} (h : Rest S u (p ++ 34 :: r)) (hb : Backs p q k) (hp : (34 : UInt8) ∉ p) (hk : k % 2 = 0) : rawStr S = some (u ++ p, r) := by
  rw [h.raw, raw_even hb hp hk]
  rfl
theorem Rest.no {S u s : Bs} (h : Rest S u s) (hp : (34 : UInt8) ∉ s) : rawStr S = none := by
  rw [h.raw, raw_no hp]
  rfl
/-- The text that is looked at, with the place of its first quotation mark. -/
structure At34 (t : ByteArray) (p r : Bs) : Prop where
  eq : t = bStr (p ++ 34 :: r)
  no : (34 : UInt8) ∉ p
theorem At34.size {t : ByteArray} {p r : Bs} (h : At34 t p r) : t.size = p.length + 1 + r.length := by
  rw [h.eq, bStr_size, List.length_append, List.length_cons]
  omega
theorem At34.tail {t : ByteArray} {p r : Bs} (h : At34 t p r) : t.extract (p.length + 1) t.size = bStr r := by
  rw [h.eq, bStr_drop]
  congr 1
  rw [show p ++ 34 :: r = (p ++ [34]) ++ r by simp]
  rw [List.drop_left' (by simp)]
theorem At34.head {t : ByteArray} {p r : Bs} (h : At34 t p r) : t.extract 0 p.length = bStr p := by
  rw [h.eq, bStr_take, List.take_left' rfl]
theorem At34.get {t : ByteArray} {p r : Bs} (h : At34 t p r) (k : Nat) (hk : k < t.size) (hp : k < p.length) : t[k]'hk = p[k] := by
  have h2 : k < (p ++ 34 :: r).length := by rw [List.length_append]; omega
  rw [tget h.eq k hk h2, List.getElem_append_left hp]
theorem At34.last {t : ByteArray} {p' r : Bs} {c : UInt8} (h : At34 t (p' ++ [c]) r) (n : Nat) (hn : n = p'.length) (hk : n < t.size) : t[n]'hk = c := by
  subst hn
  rw [h.get p'.length _ (by simp)]
  simp
/-- The slow road: what is looked at, what has been read. -/
structure Slow (S : Bs) (t : ByteArray) (u p r : Bs) (m : Nat) : Prop where
  at34 : At34 t p r
  rest : Rest S u (p ++ 34 :: r)
  last : ∃ p', p = p' ++ [92]
  len : p.length = m + 1
  bound : t.size ≤ 9223372036854775800
def szOf : Value → Nat
  | .string t => t.size
  | _ => 0
theorem Slow.lenS {S : Bs} {t t0 : ByteArray} {u p r : Bs} {m : Nat} (h : Slow S t u p r m) (h0 : t0 = bStr S) : t0.size = u.length + t.size := by
  have h1 := h.at34.size
  rw [h0, bStr_size, h.rest.eq, List.length_append, List.length_append, List.length_cons]
  omega
theorem Slow.headS {S : Bs} {t t0 : ByteArray} {u p r : Bs} {m : Nat} (h : Slow S t u p r m) (h0 : t0 = bStr S) : t0.extract 0 (u.length + (m + 1)) = bStr (u ++ p) := by
  rw [h0, bStr_take]
  congr 1
  rw [h.rest.eq, show u ++ (p ++ 34 :: r) = (u ++ p) ++ (34 :: r) by simp, List.take_left']
  rw [List.length_append, h.len]
structure Run (p q : Bs) (k : Nat) : Prop where
  eq : p = q ++ List.replicate k 92
  pos : 1 ≤ k
theorem Run.step {p q : Bs} {k : Nat} (h : Run p (q ++ [92]) k) : Run p q (k + 1) := ⟨by
  rw [h.eq, List.append_assoc]
  rfl, by omega⟩
def CutB (p : Bs) (w : World) (i : Value) (wx : World) : Prop := ∃ q k, Backs p q k ∧ 1 ≤ k ∧ i = .int .i64 (q.length : Int) ∧ wx = w
set_option maxHeartbeats 4000000 in
theorem rawStr_any (s : Bs) (w : World) (hl : s.length ≤ 9223372036854775800) :
    Calls Tryz.prog 64 #[.string (bStr s)] w (StrRes w (rawStr s)) := by
  rcases split_at 34 s with h34 | ⟨p, r, rfl, h34⟩
  · have HN := Aside0.mk (idx34_no s w h34)
    rw [raw_no h34]
    obtain ⟨t, ht⟩ : ∃ t, t = bStr s := ⟨_, rfl⟩
    rw [← ht] at HN ⊢
    clear ht h34 hl
    go_enter Tryz.func64, Tryz.ntmps64
    go_wp2_with fail
    refine HN.out.mono ?_
    rintro e w1 ⟨rfl, rfl⟩
    go_wp2_with fail
    refine (errNew_b _ _).mono ?_
    rintro e w1 ⟨rfl, hE⟩
    have HE := Aside0.mk hE
    clear hE
    go_wp2
    go_ret3
    exact StrRes.no HE.out rfl
  · have HN := Aside0.mk (idx34_at p r w h34)
    obtain ⟨t, ht⟩ : ∃ t, t = bStr (p ++ 34 :: r) := ⟨_, rfl⟩
    have HA := Aside0.mk (At34.mk ht h34)
    rw [← ht] at HN ⊢
    have hsz := HA.out.size
    have b1 : t.size ≤ 9223372036854775800 := by rw [ht, bStr_size]; exact hl
    have b2 : p.length < t.size := by omega
    have b3 : (p.length : Int) < (t.size : Int) := by omega
    obtain ⟨S, hS⟩ : ∃ S, S = p ++ 34 :: r := ⟨_, rfl⟩
    have HR : Aside0 (Rest S [] (p ++ 34 :: r)) := ⟨by rw [hS]; exact Rest.start _⟩
    rw [← hS]
    have HS := Aside0.mk (show t = bStr S by rw [hS]; exact ht)
    clear hS ht h34 hl hsz
    by_cases hfast : p = [] ∨ ∃ p' c, p = p' ++ [c] ∧ c ≠ 92
    · have HRES := Aside0.mk (HR.out.even (backs_zero hfast) HA.out.no rfl)
      rw [HRES.out, List.nil_append]
      clear HR
      rcases hfast with rfl | ⟨p', c, rfl, hc⟩
      · go_enter Tryz.func64, Tryz.ntmps64
        go_wp2_with fail
        refine HN.out.mono ?_
        rintro e w1 ⟨rfl, rfl⟩
        have b4 : 1 ≤ t.size := by omega
        have b5 : (1 : Int) ≤ (t.size : Int) := by omega
        go_wp2
        go_quiet (fail)
        go_wp2
        go_ret3
        exact StrRes.yes ((Hold.start w).drewN _).below (by rw [← HA.out.tail]; rfl)
      · obtain ⟨c1, c2, c3⟩ : NeC c 92 := neC 92 (toNat_ne hc)
        obtain ⟨n, hn⟩ : ∃ n, n = p'.length := ⟨_, rfl⟩
        have hpl : (p' ++ [c]).length = n + 1 := by rw [hn]; simp
        have b4 : n < t.size := by rw [hpl] at b2; omega
        have tk : t[n]'b4 = c := HA.out.last n hn b4
        have HH := Aside0.mk HA.out.head
        have HT := Aside0.mk HA.out.tail
        clear HA hc HRES
        rw [hpl] at HN b2 b3 HH HT
        clear hpl hn
        go_enter Tryz.func64, Tryz.ntmps64
        go_wp2_with fail
        refine HN.out.mono ?_
        rintro e w1 ⟨rfl, rfl⟩
        have b6 : n + 1 + 1 ≤ t.size := by omega
        have z1 : (((n + 1 : Nat) : Int) == 0) = false := by rw [beq_eq_false_iff_ne]; omega
        go_wp2
        go_quiet (fail)
        go_wp2
        go_ret3
        exact StrRes.yes ((Hold.start w).drewN _).below (by rw [← HH.out, ← HT.out]; rfl)
    · have hpne : p ≠ [] := fun h => hfast (.inl h)
      obtain ⟨p', c, hpc⟩ := last_of p hpne
      have hc : c = 92 := by
        rcases Decidable.em (c = 92) with h | h
        · exact h
        · exact absurd (.inr ⟨p', c, hpc, h⟩) hfast
      subst hc
      clear hfast hpne
      have HK : Aside0 (∃ p', p = p' ++ [92]) := ⟨p', hpc⟩
      obtain ⟨m, hm⟩ : ∃ m, m = p'.length := ⟨_, rfl⟩
      have hpl : p.length = m + 1 := by rw [hpc, hm]; simp
      have hk : m < t.size := by omega
      have tk : t[m]'hk = 92 := by
        rw [hpc] at HA
        exact HA.out.last m hm hk
      clear hpc hm
      have HPL := Aside0.mk hpl
      rw [hpl] at HN b2 b3
      clear hpl
      obtain ⟨res, hres⟩ : ∃ res, res = rawStr S := ⟨_, rfl⟩
      rw [← hres]
      have HV := Aside0.mk hres
      clear hres
      have z1 : (((m + 1 : Nat) : Int) == 0) = false := by rw [beq_eq_false_iff_ne]; omega
      have z2 : (((m : Int) + 1) == 0) = false := by rw [beq_eq_false_iff_ne]; omega
      have z3 : ¬ ((m : Int) + 1) = 0 := by omega
      have z4 : ¬ ((m : Int) + 1) < 0 := by omega
      go_enter Tryz.func64, Tryz.ntmps64
      go_wp2_with fail
      refine HN.out.mono ?_
      rintro e w1 ⟨rfl, rfl⟩
      go_wp2
      go_loop [0, 5] (fun sv nv => ∃ (t : ByteArray) (u p r : Bs) (m : Nat), sv = .string t ∧ nv = .int .i64 ((m : Int) + 1) ∧ Slow S t u p r m) (fun sv nv => szOf sv)
      case atStart => exact ⟨t, [], p, r, m, rfl, rfl, ⟨HA.out, HR.out, HK.out, HPL.out, b1⟩⟩
      case round =>
        clear HA HR HK HPL b2 b3 z1 z2 z3 z4 tk hk HN
        obtain ⟨t', u, p, r, m, rfl, rfl, hS⟩ := hrel
        obtain ⟨q0, hq0⟩ := hS.last
        have hl0 : q0.length = m := by
          have := hS.len
          rw [hq0, List.length_append, List.length_singleton] at this
          omega
        have HR0 := Aside0.mk (show Run p q0 1 from ⟨hq0, Nat.le_refl _⟩)
        have HSl := Aside0.mk hS
        have b4 : t'.size ≤ 9223372036854775800 := hS.bound
        have b5 : m + 1 < t'.size := by have h1 := hS.at34.size; have h2 := hS.len; omega
        have HL0 := Aside0.mk hl0
        clear hS hq0 hl0
        go_upto_block 2 with (fail)
        go_cut [7] from 33 to 43 (fun i wx => CutB p w i wx)
        case first =>
          go_wp2
          go_loop [7] (fun i => ∃ (q : Bs) (k : Nat), i = .int .i64 (q.length : Int) ∧ Run p q k) (fun i => (intOf i).toNat)
          case atStart => exact ⟨q0, 1, by rw [HL0.out], HR0.out⟩
          case round =>
            clear HR0 HL0
            obtain ⟨q, k, rfl, hRun⟩ := hrel
            rcases List.eq_nil_or_concat q with rfl | ⟨q', c, rfl⟩
            · have HB := Aside0.mk (show Backs p [] k from ⟨hRun.eq, .inl rfl⟩)
              have hk1 := hRun.pos
              clear hRun
              go_wp2
              go_meet
              exact ⟨[], k, HB.out, hk1, rfl, rfl⟩
            · rw [List.concat_eq_append] at *
              obtain ⟨j, hj⟩ : ∃ j, j = q'.length := ⟨_, rfl⟩
              have hql : (q' ++ [c]).length = j + 1 := by rw [hj]; simp
              have hpl : j + 1 < t'.size := by
                have h1 := HSl.out.at34.size
                have h2 := hRun.eq
                rw [h2, List.length_append, hql] at h1
                omega
              have hjt : j < t'.size := by omega
              have tk : t'[j]'hjt = c := by
                have hj2 : j < p.length := by rw [hRun.eq, List.length_append, hql]; omega
                rw [HSl.out.at34.get j hjt hj2]
                simp only [hRun.eq]
                rw [List.getElem_append_left (by rw [hql]; omega)]
                simp [hj]
              by_cases hc : c = 92
              · subst hc
                have HRn := Aside0.mk hRun.step
                have hk1 := hRun.pos
                clear hRun
                rw [hql]
                have HJ := Aside0.mk hj
                clear hj hql
                go_wp2
                go_round
                case rel => exact ⟨q', k + 1, by rw [← HJ.out], HRn.out⟩
                case measure => simp [intOf]
              · have HB := Aside0.mk (show Backs p (q' ++ [c]) k from ⟨hRun.eq, .inr ⟨q', c, rfl, hc⟩⟩)
                have hk1 := hRun.pos
                have N1 : NeC c 92 := neC 92 (toNat_ne hc)
                obtain ⟨n1, n2, n3⟩ := N1
                clear hRun hc
                have HQ := Aside0.mk hql
                rw [hql]
                clear hj hql
                go_wp2
                go_meet
                exact ⟨q' ++ [c], k, HB.out, hk1, by rw [HQ.out]; go_num, rfl⟩
        case rest =>
          obtain ⟨q, k, hB, hk1, rfl, rfl⟩ := hcut
          obtain ⟨j, hj⟩ : ∃ j, j = q.length := ⟨_, rfl⟩
          rw [← hj]
          have hmk : m + 1 = j + k := by
            have h1 := HSl.out.len
            rw [hB.eq, List.length_append, List.length_replicate, ← hj] at h1
            omega
          have HB := Aside0.mk hB
          have hs1 : (m : Int) + 1 - (j : Int) = (k : Int) := by omega
          have HMK := Aside0.mk hmk
          clear hB hj hmk HR0 HL0
          have hul := HSl.out.lenS HS.out
          have hu1 : (t.size : Int) - (t'.size : Int) = (u.length : Int) := by omega
          have hu2 : (u.length : Int) + ((m : Int) + 1) = ((u.length + (m + 1) : Nat) : Int) := by omega
          have hu3 : u.length + (m + 1) ≤ t.size := by omega
          obtain ⟨ul, hul2⟩ : ∃ ul, ul = u.length := ⟨_, rfl⟩
          have HHS := Aside0.mk (HSl.out.headS HS.out)
          rw [← hul2] at hu1 hu2 hu3 HHS
          have HU := Aside0.mk hul
          clear hul hul2
          rcases Nat.mod_two_eq_zero_or_one k with hev | hodd
          · have HRES : Aside0 (res = some (u ++ p, r)) := ⟨HV.out.trans (HSl.out.rest.even HB.out HSl.out.at34.no hev)⟩
            have HTl := Aside0.mk HSl.out.at34.tail
            rw [HSl.out.len] at HTl
            have e1 : ((k : Int) % 2 == 0) = true := by rw [beq_iff_eq]; omega
            have b6 : m + 1 + 1 ≤ t'.size := by omega
            clear hev HSl
            go_upto_region 11 with (fail)
            have hz1 : IntKind.i64.wrap ((t.size : Int) - (t'.size : Int)) = (ul : Int) := by rw [hu1]; exact IntWalk.i64_in _ (by omega)
            have hz2 : IntKind.i64.wrap ((ul : Int) + ((m : Int) + 1)) = ((ul + (m + 1) : Nat) : Int) := by rw [hu2]; exact IntWalk.i64_in _ (by omega)
            have hz3 : IntKind.i64.wrap ((m : Int) + 1 + 1) = (m : Int) + 1 + 1 := IntWalk.i64_in _ (by omega)
            have hz4 : ((m : Int) + 1 + 1).toNat = m + 1 + 1 := by omega
            have hz5 : (0 : Int) ≤ (m : Int) + 1 + 1 := by omega
            have hz6 : (m : Int) + 1 + 1 ≤ (t'.size : Int) := by omega
            have hz7 : ((ul + (m + 1) : Nat) : Int) ≤ (t.size : Int) := by omega
            clear hu1 hu2
            go_quiet (fail)
            go_wp2
            go_ret3
            rw [HRES.out]
            exact StrRes.yes ((Hold.start wc).drewN _).below (by rw [← HHS.out, ← HTl.out]; rfl)
          · have HR2 := Aside0.mk (HSl.out.rest.odd HB.out HSl.out.at34.no hodd)
            have HTl := Aside0.mk HSl.out.at34.tail
            rw [HSl.out.len] at HTl
            have hrl : r.length < t'.size := by have := HSl.out.at34.size; omega
            have e1 : ((k : Int) % 2 == 0) = false := by rw [beq_eq_false_iff_ne]; omega
            have b6 : m + 1 + 1 ≤ t'.size := by omega
            obtain ⟨u2, hu2e⟩ : ∃ u2, u2 = u ++ (p ++ [34]) := ⟨_, rfl⟩
            rw [← hu2e] at HR2
            clear hu2e hodd HHS hu1 hu2 hu3 HU
            rcases split_at 34 r with h34 | ⟨p2, r2, hr2, h34⟩
            · have HN2 := Aside0.mk (fun w : World => idx34_no r w h34)
              have HRES : Aside0 (res = none) := ⟨HV.out.trans (HR2.out.no h34)⟩
              clear h34
              go_wp2_with fail
              rw [show t'.extract (m + 1 + 1) t'.size = bStr r from HTl.out]
              refine (HN2.out _).mono ?_
              rintro e w1 ⟨rfl, rfl⟩
              go_wp2_with fail
              refine (errNew_b _ _).mono ?_
              rintro e w1 ⟨rfl, hE⟩
              have HE := Aside0.mk hE
              clear hE
              go_wp2
              go_ret3
              rw [HRES.out]
              exact StrRes.no HE.out rfl
            · have HN2 := Aside0.mk (fun w : World => idx34_at p2 r2 w h34)
              rw [← hr2] at HN2
              obtain ⟨t2, ht2⟩ : ∃ t2, t2 = bStr r := ⟨_, rfl⟩
              have HA2 := Aside0.mk (show At34 t2 p2 r2 from ⟨by rw [ht2, hr2], h34⟩)
              rw [hr2] at HR2
              have hsz2 := HA2.out.size
              have ht2s : t2.size = r.length := by rw [ht2, bStr_size]
              have b7 : t2.size ≤ 9223372036854775800 := by omega
              have b8 : p2.length < t2.size := by omega
              have b9 : t2.size < t'.size := by omega
              rw [← ht2] at HTl HN2
              have HS2 := Aside0.mk (show t.size = u2.length + t2.size by
                have h1 := HR2.out.eq
                have h2 := congrArg List.length h1
                rw [List.length_append] at h2
                have h3 := congrArg ByteArray.size HS.out
                rw [bStr_size] at h3
                have h4 := congrArg List.length hr2
                rw [ht2s, h3, h2, h4])
              have HH2 := Aside0.mk (show t.extract 0 (u2.length + p2.length) = bStr (u2 ++ p2) by
                rw [HS.out, bStr_take, HR2.out.eq]
                congr 1
                rw [show u2 ++ (p2 ++ 34 :: r2) = (u2 ++ p2) ++ (34 :: r2) by simp, List.take_left' (by rw [List.length_append])])
              have HTl2 := Aside0.mk HA2.out.tail
              clear ht2 hr2 h34 hsz2 ht2s hrl
              by_cases hfast : p2 = [] ∨ ∃ p' c, p2 = p' ++ [c] ∧ c ≠ 92
              · have HRES : Aside0 (res = some (u2 ++ p2, r2)) := ⟨HV.out.trans (HR2.out.even (backs_zero hfast) HA2.out.no rfl)⟩
                have hul := HS2.out
                have hu1 : (t.size : Int) - (t2.size : Int) = (u2.length : Int) := by omega
                obtain ⟨ul2, hul2⟩ : ∃ ul2, ul2 = u2.length := ⟨_, rfl⟩
                obtain ⟨n2, hn2⟩ : ∃ n2, n2 = p2.length := ⟨_, rfl⟩
                have hx1 : (ul2 : Int) + (n2 : Int) = ((ul2 + n2 : Nat) : Int) := by omega
                have hx2 : ul2 + n2 ≤ t.size := by omega
                rw [← hul2] at hu1 HH2
                rw [← hn2] at HN2 b8 HH2 HTl2
                have hz1 : IntKind.i64.wrap ((t.size : Int) - (t2.size : Int)) = (ul2 : Int) := by rw [hu1]; exact IntWalk.i64_in _ (by omega)
                have hz2 : IntKind.i64.wrap ((ul2 : Int) + (n2 : Int)) = ((ul2 + n2 : Nat) : Int) := by rw [hx1]; exact IntWalk.i64_in _ (by omega)
                have hz3 : IntKind.i64.wrap ((n2 : Int) + 1) = (n2 : Int) + 1 := IntWalk.i64_in _ (by omega)
                have hz4 : ((n2 : Int) + 1).toNat = n2 + 1 := by omega
                have hz5 : (0 : Int) ≤ (n2 : Int) + 1 := by omega
                have hz6 : (n2 : Int) + 1 ≤ (t2.size : Int) := by omega
                have hz7 : ((ul2 + n2 : Nat) : Int) ≤ (t.size : Int) := by omega
                have hz8 : n2 + 1 ≤ t2.size := by omega
                rcases hfast with rfl | ⟨p', c, rfl, hc⟩
                · obtain rfl : n2 = 0 := hn2
                  clear hu1 hul hul2
                  go_wp2_with fail
                  rw [show t'.extract (m + 1 + 1) t'.size = t2 from HTl.out]
                  refine (HN2.out _).mono ?_
                  rintro e w1 ⟨rfl, rfl⟩
                  go_upto_region 17 with (fail)
                  go_quiet (fail)
                  go_wp2
                  go_ret3
                  rw [HRES.out]
                  exact StrRes.yes ((Hold.start wc).drewN _).below (by rw [← HH2.out, ← HTl2.out]; rfl)
                · have hn3 : n2 = p'.length + 1 := by rw [hn2]; simp
                  obtain ⟨n3, hn4⟩ : ∃ n3, n3 = p'.length := ⟨_, rfl⟩
                  obtain rfl : n2 = n3 + 1 := by omega
                  have b10 : n3 < t2.size := by omega
                  have tk : t2[n3]'b10 = c := HA2.out.last n3 hn4 b10
                  have N1 : NeC c 92 := neC 92 (toNat_ne hc)
                  obtain ⟨c1, c2, c3⟩ := N1
                  have z1 : (((n3 + 1 : Nat) : Int) == 0) = false := by rw [beq_eq_false_iff_ne]; omega
                  clear hu1 hul hul2 hn2 hn3 hn4 hc
                  go_wp2_with fail
                  rw [show t'.extract (m + 1 + 1) t'.size = t2 from HTl.out]
                  refine (HN2.out _).mono ?_
                  rintro e w1 ⟨rfl, rfl⟩
                  go_upto_region 17 with (fail)
                  go_quiet (fail)
                  go_wp2
                  go_ret3
                  rw [HRES.out]
                  exact StrRes.yes ((Hold.start wc).drewN _).below (by rw [← HH2.out, ← HTl2.out]; rfl)
              · have hpne : p2 ≠ [] := fun h => hfast (.inl h)
                obtain ⟨p', c, hpc⟩ := last_of p2 hpne
                have hc : c = 92 := by
                  rcases Decidable.em (c = 92) with h | h
                  · exact h
                  · exact absurd (.inr ⟨p', c, hpc, h⟩) hfast
                subst hc
                clear hfast hpne
                obtain ⟨n3, hn4⟩ : ∃ n3, n3 = p'.length := ⟨_, rfl⟩
                have hpl : p2.length = n3 + 1 := by rw [hpc, hn4]; simp
                have b10 : n3 < t2.size := by omega
                have tk : t2[n3]'b10 = 92 := by
                  rw [hpc] at HA2
                  exact HA2.out.last n3 hn4 b10
                have HSl2 := Aside0.mk (show Slow S t2 u2 p2 r2 n3 from ⟨HA2.out, HR2.out, ⟨p', hpc⟩, hpl, b7⟩)
                rw [hpl] at HN2 b8
                clear hpc hn4 hpl HA2 HR2 HSl HH2 HTl2
                have z1 : (((n3 + 1 : Nat) : Int) == 0) = false := by rw [beq_eq_false_iff_ne]; omega
                have z2 : (((n3 : Int) + 1) == 0) = false := by rw [beq_eq_false_iff_ne]; omega
                have z3 : ¬ ((n3 : Int) + 1) = 0 := by omega
                have z4 : ¬ ((n3 : Int) + 1) < 0 := by omega
                go_wp2_with fail
                rw [show t'.extract (m + 1 + 1) t'.size = t2 from HTl.out]
                refine (HN2.out _).mono ?_
                rintro e w1 ⟨rfl, rfl⟩
                go_wp2
                go_round
                case rel => exact ⟨t2, u2, p2, r2, n3, rfl, by go_num, HSl2.out⟩
                case measure => exact b9
end Go.Proofs.YtgldcjmdjhghpaaGreatDoor
namespace Go.Proofs.YtgldcjmdjhghpaaGreatDoor
open Go.RowKit Go.Proofs.YtgldcjmdjhghpaaGreatDoorW.PrintWords Go.ChangeShapes Go.WideShapes
set_option linter.unusedVariables false
set_option linter.unusedSimpArgs false
set_option maxRecDepth 100000
structure Plains (s : Bs) (k : Nat) : Prop where
  out : ∀ c ∈ s.take k, plainKey c = true
theorem Plains.step {s : Bs} {k : Nat} (h : Plains s k) (hk : k < s.length) (hw : plainKey s[k] = true) : Plains s (k + 1) := ⟨fun c hc => by
  rw [List.take_succ_eq_append_getElem hk] at hc
  rcases List.mem_append.1 hc with hc | hc
  · exact h.out c hc
  · rw [List.mem_singleton] at hc
    rw [hc]
    exact hw⟩
theorem plain_no {c : UInt8} (h : plainKey c = false) : c = 34 ∨ c = 92 := by
  unfold plainKey at h
  by_cases h1 : c = 34
  · exact .inl h1
  · by_cases h2 : c = 92
    · exact .inr h2
    · simp [h1, h2] at h
theorem plain_yes {c : UInt8} (h : plainKey c = true) : NeC c 34 ∧ NeC c 92 := by
  unfold plainKey at h
  rw [Bool.and_eq_true, bne_iff_ne, bne_iff_ne] at h
  exact ⟨neC 34 (toNat_ne h.1), neC 92 (toNat_ne h.2)⟩
theorem Plains.none {s : Bs} (h : Plains s s.length) : rawKey s = none := by
  have hd : s.dropWhile plainKey = [] := by
    have := h.out
    rw [List.take_length] at this
    clear h
    induction s with
    | nil => rfl
    | cons c r ih => rw [List.dropWhile_cons_of_pos (this c (by simp))]; exact ih (fun d hd => this d (by simp [hd]))
  unfold rawKey
  rw [hd]
theorem Plains.parts {s : Bs} {k : Nat} (h : Plains s k) (hk : k < s.length) (hn : plainKey s[k] = false) : s.takeWhile plainKey = s.take k ∧ s.dropWhile plainKey = s[k] :: s.drop (k + 1) := by
  have h1 : s = s.take k ++ s.drop k := (List.take_append_drop k s).symm
  have h2 := List.drop_eq_getElem_cons hk
  constructor
  · conv => lhs; rw [h1]
    rw [List.takeWhile_append_of_pos h.out, h2, List.takeWhile_cons_of_neg (by rw [hn]; exact Bool.false_ne_true), List.append_nil]
  · conv => lhs; rw [h1]
    rw [List.dropWhile_append_of_pos h.out, h2, List.dropWhile_cons_of_neg (by rw [hn]; exact Bool.false_ne_true)]
theorem Plains.quote {s : Bs} {k : Nat} (h : Plains s k) (hk : k < s.length) (hn : s[k] = 34) : rawKey s = some (s.take k, s.drop (k + 1)) := by
  obtain ⟨h1, h2⟩ := h.parts hk (by rw [hn]; rfl)
  unfold rawKey
  rw [h2, hn]
  show (if (34 : UInt8) = 34 then _ else _) = _
  rw [if_pos rfl, h1]
theorem Plains.back {s : Bs} {k : Nat} (h : Plains s k) (hk : k < s.length) (hn : s[k] = 92) : rawKey s = rawStr s := by
  obtain ⟨h1, h2⟩ := h.parts hk (by rw [hn]; rfl)
  unfold rawKey
  rw [h2, hn]
  show (if (92 : UInt8) = 34 then _ else _) = _
  rw [if_neg (by decide)]
set_option maxHeartbeats 2000000 in
theorem rawKey_any (s : Bs) (w : World) (hl : s.length ≤ 9223372036854775800) :
    Calls Tryz.prog 80 #[.string (bStr s)] w (StrRes w (rawKey s)) := by
  have HRaw := Aside0.mk (fun w => rawStr_any s w hl)
  have hsz : (bStr s).size = s.length := bStr_size s
  have HD := Aside0.mk (bStr_drop s)
  have HTk := Aside0.mk (bStr_take s)
  obtain ⟨t, ht⟩ : ∃ t, t = bStr s := ⟨_, rfl⟩
  have HT := Aside0.mk ht
  rw [← ht] at HD HTk hsz HRaw ⊢
  clear ht
  have hl2 : t.size ≤ 9223372036854775800 := by omega
  have HZ := Aside0.mk hsz
  clear hsz hl
  obtain ⟨res, hres⟩ : ∃ res, res = rawKey s := ⟨_, rfl⟩
  rw [← hres]
  have HR := Aside0.mk hres
  clear hres
  go_enter Tryz.func80, Tryz.ntmps80
  go_wp2
  go_loop [8] (fun i => ∃ k : Nat, k ≤ t.size ∧ i = .int .i64 k ∧ Plains s k) (fun i => t.size - (intOf i).toNat)
  case atStart => exact ⟨0, Nat.zero_le _, rfl, ⟨fun c hc => by simp at hc⟩⟩
  case round =>
    obtain ⟨k, hk, rfl, hB⟩ := hrel
    have HK := Aside0.mk hB
    clear hB
    by_cases hlt : k < t.size
    · have hks : k < s.length := by have := HZ.out; omega
      have tk : t[k] = s[k] := tget HT.out k hlt hks
      cases hd : plainKey s[k] with
      | true =>
        have HN := Aside0.mk (HK.out.step hks hd)
        obtain ⟨c, hc⟩ : ∃ c, c = s[k] := ⟨_, rfl⟩
        rw [← hc] at tk hd
        clear hc
        obtain ⟨⟨a1, b1, d1⟩, ⟨a2, b2, d2⟩⟩ := plain_yes hd
        clear hd hks
        go_wp2
        go_round
        case rel => exact ⟨k + 1, hlt, by go_num, HN.out⟩
        case measure => simp [intOf]; omega
      | false =>
        rcases plain_no hd with h | h
        · have HRES : Aside0 (res = some (s.take k, s.drop (k + 1))) := ⟨HR.out.trans (HK.out.quote hks h)⟩
          rw [h] at tk
          clear h hd hks
          have hz3 : IntKind.i64.wrap ((k : Int) + 1) = (k : Int) + 1 := IntWalk.i64_in _ (by omega)
          have hz4 : ((k : Int) + 1).toNat = k + 1 := by omega
          have hz5 : (0 : Int) ≤ (k : Int) + 1 := by omega
          have hz6 : (k : Int) + 1 ≤ (t.size : Int) := by omega
          have hz7 : (k : Int) ≤ (t.size : Int) := by omega
          have hz8 : k + 1 ≤ t.size := by omega
          go_wp2
          go_quiet (fail)
          go_wp2
          go_ret3
          rw [HRES.out]
          exact StrRes.yes ((Hold.start w).drewN _).below (by rw [← HTk.out, ← HD.out]; rfl)
        · have HRES : Aside0 (res = rawStr s) := ⟨HR.out.trans (HK.out.back hks h)⟩
          rw [h] at tk
          clear h hd hks
          go_wp2_with fail
          refine (HRaw.out _).mono ?_
          rintro e w1 ⟨hb, he⟩
          have HBl := Aside0.mk hb
          clear hb
          have HRaw2 := Aside0.mk HRES.out
          cases hq : rawStr s with
          | none =>
            rw [hq] at he
            obtain ⟨a, b, g, rfl⟩ := he
            have HQ := Aside0.mk hq
            clear hq
            unfold errV
            go_wp2
            go_ret3
            rw [HRES.out, HQ.out]
            exact StrRes.no HBl.out rfl
          | some q =>
            rw [hq] at he
            obtain ⟨q1, q2⟩ := q
            obtain rfl : e = .returned (.tuple #[.string (bStr q1), .string (bStr q2), .nilIface]) := he
            have HQ := Aside0.mk hq
            clear hq
            go_wp2
            go_ret3
            rw [HRES.out, HQ.out]
            exact StrRes.yes HBl.out rfl
    · have HE : Aside0 (res = none) := ⟨HR.out.trans (Plains.none (by
        have h := HK.out
        rwa [show k = s.length by have := HZ.out; omega] at h))⟩
      go_wp2_with fail
      refine (errNew_b _ _).mono ?_
      rintro e w1 ⟨rfl, hE⟩
      have HE2 := Aside0.mk hE
      clear hE
      go_wp2
      go_ret3
      rw [HE.out]
      exact StrRes.no HE2.out rfl
end Go.Proofs.YtgldcjmdjhghpaaGreatDoor
