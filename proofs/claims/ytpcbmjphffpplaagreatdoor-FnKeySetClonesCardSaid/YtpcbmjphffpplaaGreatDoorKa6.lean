/-
  impl.KeyRun over readings in the printed kinds: its contract; what the law asks of a run.
  laws.keysLive: it is true.
  Keys, steps and runs as the laws read them; a run is the same as itself.
  Clones between the steps: what they leave as it was.
  laws.setFits; what a run's results are, one by one; kept results as a run's.
  A run is the same as itself (sameRun, as it is printed); clones between the steps.
-/
import Derived.Test.YtpcbmjphffpplaaGreatDoorKsr
import Derived.Test.YtpcbmjphffpplaaGreatDoorPFnKeySetClonesx0
import Derived.Test.YtpcbmjphffpplaaGreatDoorKa7
import Derived.Test.YtpcbmjphffpplaaGreatDoorKa5
import Derived.Test.YtpcbmjphffpplaaGreatDoorPFnKeySetClonesx12
namespace Go.Proofs.YtpcbmjphffpplaaGreatDoor
open Go.RowKit Go.Proofs.YtpcbmjphffpplaaGreatDoorW.PrintWords Go.Proofs.YtpcbmjphffpplaaGreatDoor.PFnKeySetClones
set_option linter.unusedVariables false
set_option linter.unusedSimpArgs false
set_option maxRecDepth 100000
theorem list_choice {α β : Type} : ∀ {P : Nat → α → β → Prop} (xs : List α), (∀ j x, xs[j]? = some x → ∃ y, P j x y) → ∃ ys : List β, ys.length = xs.length ∧ ∀ j x y, xs[j]? = some x → ys[j]? = some y → P j x y
  | _, [], _ => ⟨[], rfl, fun j x y h => by simp at h⟩
  | P, a :: r, h => by
    obtain ⟨ys, hl, hy⟩ := list_choice (P := fun j => P (j + 1)) r (fun j x hx => h (j + 1) x (by simpa using hx))
    obtain ⟨y0, h0⟩ := h 0 a rfl
    refine ⟨y0 :: ys, by simp [hl], fun j x y hx hy' => ?_⟩
    cases j with
    | zero =>
      simp only [List.getElem?_cons_zero, Option.some.injEq] at hx hy'
      subst hx hy'
      exact h0
    | succ j => exact hy j x y (by simpa using hx) (by simpa using hy')
theorem C_mapv {α β : Type} {enc : α → Value} {h1 : ∀ x, (enc x).oneCell' = true} {enc' : β → Value} {h1' : ∀ x, (enc' x).oneCell' = true} {w : World} {A : Option Addr} {n : Nat} {xs : List α} (g : α → β) (h : (Kd.scalar enc h1).C w A n xs) (he : ∀ x ∈ xs, enc' (g x) = enc x) : (Kd.scalar enc' h1').C w A n (xs.map g) := by
  refine ⟨by rw [List.length_map]; exact h.1, h.2.1, fun hn => ?_⟩
  obtain ⟨ad, e, hc⟩ := h.2.2 hn
  refine ⟨ad, e, fun j p hp => ?_⟩
  rw [List.getElem?_map] at hp
  obtain ⟨x, hx, rfl⟩ := Option.map_eq_some_iff.1 hp
  obtain ⟨c, hl, hK, hcell⟩ := hc j x hx
  have hK' : c = [enc x] := hK
  exact ⟨c, hl, by show c = [enc' (g x)]; rw [he x (List.mem_of_getElem? hx)]; exact hK', hcell⟩
/-- Keys that can be made. -/
def OctS (x : S45) : Prop := 0 < x.f0.length ∧ x.f0.length ≤ 1000000 ∧ ∀ i ∈ x.f0, 0 ≤ i ∧ i < 256
def kdS (l : List S45) : List KD := l.map fun x => (x.f1, x.f2)
theorem kds_of {w : World} {A : Option Addr} {l : List S45} (h : Kd.C k45 w A l.length l) (ho : ∀ x ∈ l, OctS x) : ∃ kds : List KDr, kds.length = l.length ∧ kKD.C w A l.length kds ∧ kdOf kds = kdS l ∧ ∀ x ∈ kds, OctOk w x.1 := by
  by_cases hn : 0 < l.length
  · obtain ⟨ad, rfl, hc⟩ := h.2.2 hn
    obtain ⟨kds, hl, hP⟩ := list_choice (P := fun j (x : S45) (y : KDr) => (∀ i u, (kdV y)[i]? = some u → w.cell? (ad.add (j * 3 + i)) = some u) ∧ (y.2.1, y.2.2) = (x.f1, x.f2) ∧ OctOk w y.1) l (fun j x hx => by
      obtain ⟨c, hlc, hK, hcell⟩ := hc j x hx
      obtain ⟨A0, c0, rfl, hle, hC⟩ := k45_open hK
      refine ⟨((A0, x.f0.length, c0), x.f1, x.f2), hcell, rfl, ?_⟩
      obtain ⟨o1, o2, o3⟩ := ho x (List.mem_of_getElem? hx)
      have hB : kB.C w A0 x.f0.length (x.f0.map fun i => UInt8.ofNat i.toNat) := C_mapv (fun i => UInt8.ofNat i.toNat) hC (fun i hi => by
        obtain ⟨h0, h1⟩ := o3 i hi
        show Value.int .u8 ((UInt8.ofNat i.toNat).toNat : Int) = .int .u8 i
        congr 1
        rw [UInt8.toNat_ofNat']
        omega)
      exact ⟨⟨_, hB, by simpa using o1, by simpa using o2⟩⟩)
    refine ⟨kds, hl, ⟨hl, h.2.1, fun _ => ⟨ad, rfl, fun j y hy => ?_⟩⟩, ?_, fun y hy => ?_⟩
    · have hj : j < l.length := by rw [← hl]; exact (List.getElem?_eq_some_iff.1 hy).1
      exact ⟨kdV y, rfl, rfl, (hP j l[j] y (List.getElem?_eq_getElem hj) hy).1⟩
    · unfold kdOf kdS
      apply List.ext_getElem (by simp [hl])
      intro j h1 h2
      have hj : j < l.length := by simpa using h2
      have hj2 : j < kds.length := by simpa using h1
      rw [List.getElem_map, List.getElem_map]
      exact (hP j l[j] kds[j] (List.getElem?_eq_getElem hj) (List.getElem?_eq_getElem hj2)).2.1
    · obtain ⟨j, hj, rfl⟩ := List.getElem_of_mem hy
      have hj2 : j < l.length := by rw [← hl]; exact hj
      exact (hP j l[j] kds[j] (List.getElem?_eq_getElem hj2) (List.getElem?_eq_getElem hj)).2.2
  · have : l = [] := List.eq_nil_of_length_eq_zero (by omega)
    subst this
    exact ⟨[], rfl, ⟨rfl, h.2.1, fun hh => absurd hh hn⟩, rfl, fun x hx => by cases hx⟩
/-- A step, as the run takes it. -/
def stS (x : S32) : KStp := (x.f0.toNat, x.f1.toNat, x.f2, x.f3, x.f4)
theorem sts_of {w : World} {A : Option Addr} {l : List S32} (h : Kd.C k32 w A l.length l) (hp : ∀ x ∈ l, 0 ≤ x.f0 ∧ 0 ≤ x.f1) : kStp.C w A l.length (l.map stS) := by
  refine ⟨List.length_map _, h.2.1, fun hn => ?_⟩
  obtain ⟨ad, rfl, hc⟩ := h.2.2 hn
  refine ⟨ad, rfl, fun j p hp' => ?_⟩
  rw [List.getElem?_map] at hp'
  obtain ⟨x, hx, rfl⟩ := Option.map_eq_some_iff.1 hp'
  obtain ⟨c, hl, hK, hcell⟩ := hc j x hx
  obtain rfl := k32_open hK
  obtain ⟨h0, h1⟩ := hp x (List.mem_of_getElem? hx)
  refine ⟨_, hl, ?_, hcell⟩
  show _ = stV (stS x)
  unfold stV stS
  simp only [Int.toNat_of_nonneg h0, Int.toNat_of_nonneg h1]
/-- What a step gives, in the printed words. -/
def snS (x : KSn) : S37 := ⟨x.ok, x.index, x.found, (x.len : Int), x.all.map (fun k : Nat => (k : Int)), x.names⟩
theorem run_reads {w0 w : World} {B : Nat} {T : List Sn} {v : Value} (h : Hold w0 B w (RunH T v)) : ∃ A c, v = .slice A T.length c ∧ T.length ≤ c ∧ Kd.C k37 w A T.length (T.map fun x => snS x.1) := by
  obtain ⟨A, c, rfl, hle, hC⟩ := h.reads 0 rfl
  refine ⟨A, c, rfl, hle, List.length_map _, hC.2.1, fun hn => ?_⟩
  obtain ⟨ad, rfl, hc⟩ := hC.2.2 hn
  refine ⟨ad, rfl, fun j p hp => ?_⟩
  rw [List.getElem?_map] at hp
  obtain ⟨x, hx, rfl⟩ := Option.map_eq_some_iff.1 hp
  have hm := List.mem_of_getElem? hx
  obtain ⟨cs, hl, hK, hcell⟩ := hc j x hx
  have hK' : cs = snV x := hK
  subst hK'
  obtain ⟨A4, c4, e4, l4, h4⟩ := h.slsRead iV_one 1 rfl (List.mem_map_of_mem (f := fun x : Sn => (slT x.2.1, x.1.all)) hm)
  obtain ⟨A5, c5, e5, l5, h5⟩ := h.slsRead (fun _ => rfl) 2 rfl (List.mem_map_of_mem (f := fun x : Sn => (slT x.2.2, x.1.names)) hm)
  have h4' : (Kd.int .i64).C w A4 (snS x.1).f4.length (snS x.1).f4 := by
    show (Kd.scalar (Value.int .i64) _).C w A4 (x.1.all.map fun k : Nat => (k : Int)).length _
    rw [List.length_map]
    exact C_mapv (fun k : Nat => (k : Int)) h4 (fun k _ => rfl)
  have hlen : (snS x.1).f4.length = x.1.all.length := List.length_map _
  refine ⟨snV x, rfl, ?_, hcell⟩
  have e : snV x = [.bool (snS x.1).f0, .int .i64 (snS x.1).f1, .int .i64 (snS x.1).f2, .int .i64 (snS x.1).f3, .slice A4 (snS x.1).f4.length c4, .slice A5 (snS x.1).f5.length c5] := by
    unfold snV
    have e4' : Value.slice x.2.1.1 x.2.1.2.1 x.2.1.2.2 = .slice A4 x.1.all.length c4 := e4
    have e5' : Value.slice x.2.2.1 x.2.2.2.1 x.2.2.2.2 = .slice A5 x.1.names.length c5 := e5
    rw [e4', e5', hlen]
    rfl
  rw [e]
  exact k37_mk w (snS x.1) (by rw [hlen]; exact l4) h4' l5 h5
/-- Steps that may be taken. -/
def StpS (n : Nat) (x : S32) : Prop := 0 ≤ x.f0 ∧ x.f0 ≤ 8 ∧ 0 ≤ x.f1 ∧ x.f1 < n ∧ x.f3.size ≤ maxLen
def runK (l : List S45) (m : List S32) : List KSn := runF (kdS l) (m.map stS) ⟨[], []⟩
theorem keyRunP (w : World) (A A2 : Option Addr) (c c2 : Nat) (l : List S45) (m : List S32) (hl : Kd.C k45 w A l.length l) (ho : ∀ x ∈ l, OctS x) (hn : l.length ≤ 1000) (hm : Kd.C k32 w A2 m.length m) (hmn : m.length ≤ 1000) (hs : ∀ x ∈ m, StpS l.length x) :
    Calls Tryz.prog 9 #[.slice A l.length c, .slice A2 m.length c2] w fun e w' => ∃ A3 c3, e = .returned (.slice A3 m.length c3) ∧ m.length ≤ c3 ∧ Kd.C k37 w' A3 m.length ((runK l m).map snS) ∧ Below w.heap.size w w' := by
  obtain ⟨kds, hkl, hC, hkd, hO⟩ := kds_of hl ho
  refine (keyRun_any w A A2 l.length c m.length c2 kds (m.map stS) hC hO hn (sts_of hm (fun x hx => ⟨(hs x hx).1, (hs x hx).2.2.1⟩)) hmn (fun y hy => ?_)).mono ?_
  · obtain ⟨x, hx, rfl⟩ := List.mem_map.1 hy
    obtain ⟨h0, h1, h2, h3, h4⟩ := hs x hx
    exact ⟨by show x.f0.toNat ≤ 8; omega, by show x.f1.toNat < kds.length; omega, h4⟩
  · rintro e w' ⟨v, T, rfl, hT, hH⟩
    obtain ⟨A3, c3, rfl, hle, hC3⟩ := run_reads hH
    have hTl : T.length = m.length := by
      have h := congrArg List.length hT
      rw [runF_length, List.length_map, List.length_map] at h
      exact h
    rw [hTl] at hle hC3 ⊢
    refine ⟨A3, c3, rfl, hle, ?_, hH.below⟩
    have e : (runK l m).map snS = T.map fun x => snS x.1 := by
      unfold runK
      rw [← hkd, ← hT, List.map_map]
      rfl
    rw [e]
    exact hC3
end Go.Proofs.YtpcbmjphffpplaaGreatDoor
namespace Go.Proofs.YtpcbmjphffpplaaGreatDoor
open Go.RowKit Go.Proofs.YtpcbmjphffpplaaGreatDoorW.PrintWords Go.Proofs.YtpcbmjphffpplaaGreatDoor.PFnKeySetClones
set_option linter.unusedVariables false
set_option linter.unusedSimpArgs false
set_option maxRecDepth 100000
theorem CK_litS {α : Type} {d : Kd α} (w : World) (e g : Nat) (hg : w.heap.size = g) (xs : List α) (cs : List Value) (hrep : Reps (d.K (w.alloc (.cells cs.toArray e))) d.sz xs cs) (hm : xs.length ≤ 9223372036854775807) :
    d.C (w.alloc (.cells cs.toArray e)) (some ⟨g, 0, none⟩) xs.length xs := by
  subst hg
  have h := OwnRow.lit (e := e) w w.heap.size hrep (Nat.le_refl _) hm
  obtain ⟨A, c, he, _, hC⟩ := h.reads
  injection he with he
  subst he
  exact hC
def lvK : S45 := ⟨[1], true, ⟨#[120]⟩⟩
def lvS : List S32 := [⟨0, 0, 0, ⟨#[]⟩, ⟨#[]⟩⟩, ⟨4, 0, 0, ⟨#[120]⟩, ⟨#[]⟩⟩]
theorem lv_run : (rd_T37 ((runK [lvK] lvS).map snS) 0).f0 = true ∧ (rd_T37 ((runK [lvK] lvS).map snS) 0).f3 = 1 ∧ (rd_T37 ((runK [lvK] lvS).map snS) 1).f0 = true ∧ (rd_T37 ((runK [lvK] lvS).map snS) 1).f2 = 0 := ⟨by rfl, by rfl, by rfl, by rfl⟩
set_option maxHeartbeats 4000000 in
theorem keysLive_any (w : World) : Calls Tryz.prog 6 #[] w fun e w' => e = .returned (.bool true) ∧ Below w.heap.size w w' := by
  have hu1 := Tryz.underlying45
  have hu2 := Tryz.underlying32
  have h1 : (Kd.int .u8).C (w.alloc (.cells #[.int .u8 1] 5)) (some ⟨w.heap.size, 0, none⟩) 1 [1] := C1_lit (enc := Value.int .u8) (h1 := fun _ => rfl) w 5 w.heap.size rfl [1] (by decide)
  have h2 : k45.C ((w.alloc (.cells #[.int .u8 1] 5)).alloc (.cells #[.slice (some ⟨w.heap.size, 0, none⟩) 1 1, .bool true, .string ⟨#[120]⟩] 45)) (some ⟨w.heap.size + 1, 0, none⟩) 1 [lvK] := CK_litS (d := k45) _ 45 (w.heap.size + 1) (World.size_alloc _ _) [lvK] [.slice (some ⟨w.heap.size, 0, none⟩) 1 1, .bool true, .string ⟨#[120]⟩] ((Reps.none _ _).snoc (k45_mk _ lvK (Nat.le_refl _) (Kd.C_below h1 ((Below.refl _ _).alloc (Nat.le_refl _) _))) rfl) (by decide)
  have h3 : k32.C (((w.alloc (.cells #[.int .u8 1] 5)).alloc (.cells #[.slice (some ⟨w.heap.size, 0, none⟩) 1 1, .bool true, .string ⟨#[120]⟩] 45)).alloc (.cells #[.int .i64 0, .int .i64 0, .int .i64 0, .string ⟨#[]⟩, .string ⟨#[]⟩, .int .i64 4, .int .i64 0, .int .i64 0, .string ⟨#[120]⟩, .string ⟨#[]⟩] 32)) (some ⟨w.heap.size + 1 + 1, 0, none⟩) 2 lvS := CK_litS (d := k32) _ 32 (w.heap.size + 1 + 1) (by rw [World.size_alloc, World.size_alloc]) lvS [.int .i64 0, .int .i64 0, .int .i64 0, .string ⟨#[]⟩, .string ⟨#[]⟩, .int .i64 4, .int .i64 0, .int .i64 0, .string ⟨#[120]⟩, .string ⟨#[]⟩] (((Reps.none _ _).snoc (k32_mk _ ⟨0, 0, 0, ⟨#[]⟩, ⟨#[]⟩⟩) rfl).snoc (k32_mk _ ⟨4, 0, 0, ⟨#[120]⟩, ⟨#[]⟩⟩) rfl) (by decide)
  have h2' := Kd.C_below h2 ((Below.refl _ _).alloc (Nat.le_refl _) (.cells #[.int .i64 0, .int .i64 0, .int .i64 0, .string ⟨#[]⟩, .string ⟨#[]⟩, .int .i64 4, .int .i64 0, .int .i64 0, .string ⟨#[120]⟩, .string ⟨#[]⟩] 32))
  have HR := Aside0.mk (keyRunP _ _ _ 1 2 [lvK] lvS h2' (fun x hx => by
    obtain rfl := List.mem_singleton.1 hx
    exact ⟨by decide, by decide, fun i hi => by
      obtain rfl := List.mem_singleton.1 hi
      decide⟩) (by decide) h3 (by decide) (fun x hx => by
    simp only [lvS, List.mem_cons, List.not_mem_nil, or_false] at hx
    rcases hx with rfl | rfl <;> exact ⟨by decide, by decide, by decide, by decide, by show _ ≤ maxLen; decide⟩))
  have HB : Aside0 (Below w.heap.size w (((w.alloc (.cells #[.int .u8 1] 5)).alloc (.cells #[.slice (some ⟨w.heap.size, 0, none⟩) 1 1, .bool true, .string ⟨#[120]⟩] 45)).alloc (.cells #[.int .i64 0, .int .i64 0, .int .i64 0, .string ⟨#[]⟩, .string ⟨#[]⟩, .int .i64 4, .int .i64 0, .int .i64 0, .string ⟨#[120]⟩, .string ⟨#[]⟩] 32))) := ⟨(((Below.refl _ _).alloc (Nat.le_refl _) _).alloc (by simp only [World.size_alloc]; omega) _).alloc (by simp only [World.size_alloc]; omega) _⟩
  clear h1 h2 h3 h2'
  go_enter Tryz.func6, Tryz.ntmps6
  go_wp2_with fail
  refine HR.out.mono ?_
  rintro e w1 ⟨A3, c3, rfl, hle, hC, hb⟩
  have HB1 := Aside0.mk (HB.out.trans (hb.mono HB.out.size))
  obtain ⟨r0, r1, r2, r3⟩ := lv_run
  obtain ⟨ad, A4, c4, A5, c5, rfl, e0, e1, e2, e3, _⟩ := at_T37 hC 0 (by decide) (by decide)
  obtain ⟨ad', A4', c4', A5', c5', ea, g0, g1, g2, g3, _⟩ := at_T37 hC 1 (by decide) (by decide)
  injection ea with ea
  subst ea
  rw [r0] at e0
  rw [r1] at e3
  rw [r2] at g0
  rw [r3] at g2
  clear HR HB hC hb e1 e2 g1 g3 r0 r1 r2 r3
  simp [Addr.add] at e0 e3 g0 g2
  go_wp2
  go_ret
  exact ⟨rfl, HB1.out⟩
end Go.Proofs.YtpcbmjphffpplaaGreatDoor
namespace Go.Proofs.YtpcbmjphffpplaaGreatDoor
open Go.RowKit Go.Proofs.YtpcbmjphffpplaaGreatDoorW.PrintWords Go.Proofs.YtpcbmjphffpplaaGreatDoorW.PrintLast Go.Proofs.YtpcbmjphffpplaaGreatDoorW.PrintMore Go.Proofs.YtpcbmjphffpplaaGreatDoor.PFnKeySetClones
set_option linter.unusedVariables false
set_option linter.unusedSimpArgs false
set_option maxRecDepth 100000
/-- Keys, as they are read. -/
structure KdR (w : World) (n : Nat) (v : Value) (ks : List KDr) : Prop where
  out : ∃ A c, v = .slice A n c ∧ n ≤ c ∧ kKD.C w A n ks ∧ ∀ x ∈ ks, OctOk w x.1
theorem KdR.below {w w' : World} {n : Nat} {v : Value} {ks : List KDr} (h : KdR w n v ks) (hb : Below w.heap.size w w') : KdR w' n v ks := by
  obtain ⟨A, c, h1, h2, h3, h4⟩ := h.out
  exact ⟨A, c, h1, h2, Kd.C_below h3 hb, fun x hx => (h4 x hx).below hb⟩
theorem kd_reads {w0 w : World} {n : Nat} {v : Value} (h : KdI w0 n v w) : ∃ ks, ks.length = n ∧ KdR w n v ks ∧ Below w0.heap.size w0 w := by
  obtain ⟨ks, rs, h1, h2, h3, hH⟩ := h.out
  obtain ⟨A, c, rfl, hle, hC⟩ := hH.reads 0 rfl
  rw [h1] at hle hC
  refine ⟨ks, h1, ⟨A, c, by rw [h1], hle, hC, fun x hx => ?_⟩, hH.below⟩
  have hm : slT x.1 ∈ rs.map Prod.fst := by rw [← h2]; exact List.mem_map_of_mem hx
  obtain ⟨r, hr, e⟩ := List.mem_map.1 hm
  obtain ⟨A', c', e2, hle2, hC2⟩ := hH.rowsRead 1 rfl (v := r.1) (xs := r.2) hr
  obtain ⟨o1, o2, o3⟩ := h3 r hr
  rw [e] at e2
  have e2' : Value.slice x.1.1 x.1.2.1 x.1.2.2 = .slice A' r.2.length c' := e2
  injection e2' with e3 e4 e5
  have hB : kB.C w A' r.2.length (r.2.map fun i => UInt8.ofNat i.toNat) := C_mapv (fun i => UInt8.ofNat i.toNat) hC2 (fun i hi => by
    obtain ⟨h0, h1⟩ := o3 i hi
    show Value.int .u8 ((UInt8.ofNat i.toNat).toNat : Int) = .int .u8 i
    congr 1
    rw [UInt8.toNat_ofNat']
    omega)
  refine ⟨r.2.map fun i => UInt8.ofNat i.toNat, ?_, by simpa using o1, by simpa using o2⟩
  rw [e3, e4]
  exact hB
structure StR (w : World) (n m : Nat) (v : Value) (sts : List KStp) : Prop where
  out : ∃ A c, v = .slice A m c ∧ m ≤ c ∧ kStp.C w A m sts
  ok : ∀ x ∈ sts, StpOk n x
theorem StR.below {w w' : World} {n m : Nat} {v : Value} {sts : List KStp} (h : StR w n m v sts) (hb : Below w.heap.size w w') : StR w' n m v sts := by
  obtain ⟨A, c, h1, h2, h3⟩ := h.out
  exact ⟨⟨A, c, h1, h2, Kd.C_below h3 hb⟩, h.ok⟩
theorem mv_reads {w0 w : World} {n m : Nat} {v : Value} (h : MvI w0 n m v w) : ∃ sts, sts.length = m ∧ StR w n m v sts ∧ Below w0.heap.size w0 w := by
  obtain ⟨sts, h1, h2, hH⟩ := h.out
  obtain ⟨A, c, rfl, hle, hC⟩ := hH.reads 0 rfl
  rw [h1] at hle hC
  exact ⟨sts, h1, ⟨⟨A, c, by rw [h1], hle, hC⟩, h2⟩, hH.below⟩
/-- What a run gives, as it is read. -/
structure RnR (w : World) (m : Nat) (v : Value) (rs : List KSn) : Prop where
  out : ∃ A c, v = .slice A m c ∧ m ≤ c ∧ Kd.C k37 w A m (rs.map snS)
theorem RnR.below {w w' : World} {m : Nat} {v : Value} {rs : List KSn} (h : RnR w m v rs) (hb : Below w.heap.size w w') : RnR w' m v rs := by
  obtain ⟨A, c, h1, h2, h3⟩ := h.out
  exact ⟨A, c, h1, h2, Kd.C_below h3 hb⟩
theorem keyRunQ (w : World) (n m : Nat) (v v2 : Value) (ks : List KDr) (sts : List KStp) (hk : KdR w n v ks) (hn : n ≤ 1000) (hs : StR w n m v2 sts) (hm : m ≤ 1000) :
    Calls Tryz.prog 9 #[v, v2] w fun e w' => ∃ v3, e = .returned v3 ∧ RnR w' m v3 (runF (kdOf ks) sts ⟨[], []⟩) ∧ Below w.heap.size w w' := by
  obtain ⟨A, c, rfl, hc, hC, hO⟩ := hk.out
  obtain ⟨A2, c2, rfl, hc2, hC2⟩ := hs.out
  have hkl : ks.length = n := hC.1
  have hsl : sts.length = m := hC2.1
  refine (keyRun_any w A A2 n c m c2 ks sts hC hO hn hC2 hm (fun x hx => by rw [hkl]; exact hs.ok x hx)).mono ?_
  rintro e w' ⟨v3, T, rfl, hT, hH⟩
  obtain ⟨A3, c3, rfl, hle, hC3⟩ := run_reads hH
  have hTl : T.length = m := by
    have h := congrArg List.length hT
    rw [runF_length, List.length_map, hsl] at h
    exact h
  rw [hTl] at hle hC3 ⊢
  refine ⟨_, rfl, ⟨A3, c3, rfl, hle, ?_⟩, hH.below⟩
  have e : (runF (kdOf ks) sts ⟨[], []⟩).map snS = T.map fun x => snS x.1 := by
    rw [← hT, List.map_map]
    rfl
  rw [e]
  exact hC3
end Go.Proofs.YtpcbmjphffpplaaGreatDoor
namespace Go.Proofs.YtpcbmjphffpplaaGreatDoor
open Go.RowKit Go.Proofs.YtpcbmjphffpplaaGreatDoorW.PrintWords
set_option linter.unusedVariables false
set_option linter.unusedSimpArgs false
theorem run_app (kd : List KD) : ∀ (a b : List KStp) (s : KSt), runF kd (a ++ b) s = runF kd a s ++ runF kd b (runS kd a s) ∧ runS kd (a ++ b) s = runS kd b (runS kd a s)
  | [], b, s => ⟨rfl, rfl⟩
  | x :: r, b, s => by
    have ih := run_app kd r b (stepF kd s x).1
    exact ⟨by show snOf _ :: runF kd (r ++ b) _ = _; rw [ih.1]; rfl, ih.2⟩
def cloneS : KStp := (6, 0, 0, ByteArray.empty, ByteArray.empty)
/-- Steps W with clones between the steps ss, whose places are P. -/
structure WRel (n : Nat) (ss W : List KStp) (P : List Nat) : Prop where
  st : ∀ kd s, runS kd W s = runS kd ss s
  ln : P.length = ss.length
  at_ : ∀ kd s i, i < ss.length → ∃ p, P[i]? = some p ∧ p < W.length ∧ (runF kd W s)[p]? = (runF kd ss s)[i]?
  ok : ∀ x ∈ W, StpOk n x
theorem WRel.nil (n : Nat) : WRel n [] [] [] := ⟨fun _ _ => rfl, rfl, fun _ _ i h => absurd h (Nat.not_lt_zero _), fun x hx => by cases hx⟩
theorem WRel.clone {n : Nat} {ss W : List KStp} {P : List Nat} (h : WRel n ss W P) (hn : 0 < n) : WRel n ss (W ++ [cloneS]) P := by
  refine ⟨fun kd s => ?_, h.ln, fun kd s i hi => ?_, fun x hx => ?_⟩
  · rw [(run_app kd W [cloneS] s).2, h.st]
    rfl
  · obtain ⟨p, h1, h2, h3⟩ := h.at_ kd s i hi
    refine ⟨p, h1, by simp; omega, ?_⟩
    rw [(run_app kd W [cloneS] s).1, List.getElem?_append_left (by rw [runF_length]; exact h2), h3]
  · rcases List.mem_append.1 hx with hx | hx
    · exact h.ok x hx
    · obtain rfl := List.mem_singleton.1 hx
      exact ⟨by show 6 ≤ 8; omega, hn, Nat.zero_le _⟩
theorem WRel.take {n : Nat} {ss W : List KStp} {P : List Nat} {x : KStp} (h : WRel n ss W P) (hx : StpOk n x) : WRel n (ss ++ [x]) (W ++ [x]) (P ++ [W.length]) := by
  refine ⟨fun kd s => ?_, by simp [h.ln], fun kd s i hi => ?_, fun y hy => ?_⟩
  · rw [(run_app kd W [x] s).2, (run_app kd ss [x] s).2, h.st]
  · rw [(run_app kd W [x] s).1, (run_app kd ss [x] s).1, h.st]
    by_cases hlt : i < ss.length
    · obtain ⟨p, h1, h2, h3⟩ := h.at_ kd s i hlt
      refine ⟨p, ?_, by simp; omega, ?_⟩
      · rw [List.getElem?_append_left (by rw [h.ln]; exact hlt), h1]
      · rw [List.getElem?_append_left (by rw [runF_length]; exact h2), List.getElem?_append_left (by rw [runF_length]; exact hlt), h3]
    · have e : i = ss.length := by simp at hi; omega
      subst e
      refine ⟨W.length, ?_, by simp, ?_⟩
      · rw [List.getElem?_append_right (by rw [h.ln]; exact Nat.le_refl _), h.ln]
        simp
      · rw [List.getElem?_append_right (by rw [runF_length]; exact Nat.le_refl _), List.getElem?_append_right (by rw [runF_length]; exact Nat.le_refl _), runF_length, runF_length]
        simp
  · rcases List.mem_append.1 hy with hy | hy
    · exact h.ok y hy
    · obtain rfl := List.mem_singleton.1 hy
      exact hx
/-- What is kept is the run without clones. -/
theorem WRel.kept {n : Nat} {ss W : List KStp} {P : List Nat} (h : WRel n ss W P) (kd : List KD) (s : KSt) (K : List KSn) (hl : K.length = P.length) (hk : ∀ (i p : Nat), P[i]? = some p → K[i]? = (runF kd W s)[p]?) : K = runF kd ss s := by
  apply List.ext_getElem?
  intro i
  by_cases hi : i < ss.length
  · obtain ⟨p, h1, h2, h3⟩ := h.at_ kd s i hi
    rw [hk i p h1, h3]
  · rw [List.getElem?_eq_none (by rw [hl, h.ln]; omega), List.getElem?_eq_none (by rw [runF_length]; omega)]
end Go.Proofs.YtpcbmjphffpplaaGreatDoor
namespace Go.Proofs.YtpcbmjphffpplaaGreatDoor
open Go.RowKit Go.Proofs.YtpcbmjphffpplaaGreatDoorW.PrintWords Go.Proofs.YtpcbmjphffpplaaGreatDoorW.PrintLast Go.Proofs.YtpcbmjphffpplaaGreatDoorW.PrintMore Go.Proofs.YtpcbmjphffpplaaGreatDoor.PFnKeySetClones
set_option linter.unusedVariables false
set_option linter.unusedSimpArgs false
set_option maxRecDepth 100000
/-- Whether there are 1 to 20 keys, and at most 120 steps. -/
def setFits (n m : Nat) : Bool := decide (0 < n) && (decide (n ≤ 20) && decide (m ≤ 120))
set_option maxHeartbeats 2000000 in
theorem setFits_any (w : World) (A A2 : Option Addr) (n c m c2 : Nat) (hn : n ≤ 9223372036854775807) (hm : m ≤ 9223372036854775807) :
    Calls Tryz.prog 5 #[.slice A n c, .slice A2 m c2] w fun e w' => e = .returned (.bool (setFits n m)) ∧ w' = w := by
  by_cases h1 : 0 < n
  · by_cases h2 : n ≤ 20
    · by_cases h3 : m ≤ 120
      · have HR : Aside0 (setFits n m = true) := ⟨by simp [setFits, h1, h2, h3]⟩
        have e1 : (0 : Int) < (n : Int) := by omega
        have e2 : (n : Int) ≤ 20 := by omega
        have e3 : (m : Int) ≤ 120 := by omega
        go_enter Tryz.func5, Tryz.ntmps5
        go_wp2
        go_ret
        exact ⟨by rw [HR.out]; simp [e1, e2, e3], rfl⟩
      · have HR : Aside0 (setFits n m = false) := ⟨by simp [setFits, h3]⟩
        have e1 : (0 : Int) < (n : Int) := by omega
        have e2 : (n : Int) ≤ 20 := by omega
        have e3 : ¬ (m : Int) ≤ 120 := by omega
        go_enter Tryz.func5, Tryz.ntmps5
        go_wp2
        go_ret
        exact ⟨by rw [HR.out]; simp [e1, e2, e3], rfl⟩
    · have HR : Aside0 (setFits n m = false) := ⟨by simp [setFits, h2]⟩
      have e1 : (0 : Int) < (n : Int) := by omega
      have e2 : ¬ (n : Int) ≤ 20 := by omega
      go_enter Tryz.func5, Tryz.ntmps5
      go_wp2
      go_ret
      exact ⟨by rw [HR.out]; simp [e1, e2], rfl⟩
  · have HR : Aside0 (setFits n m = false) := ⟨by simp [setFits, h1]⟩
    have e1 : ¬ (0 : Int) < (n : Int) := by omega
    go_enter Tryz.func5, Tryz.ntmps5
    go_wp2
    go_ret
    exact ⟨by rw [HR.out]; simp [e1], rfl⟩
/-- A result's own lists, where its words say. -/
structure InR (w : World) (x : Sn) : Prop where
  l4 : (snS x.1).f4.length = x.2.1.2.1
  c4 : x.2.1.2.1 ≤ x.2.1.2.2
  r4 : (Kd.int .i64).C w x.2.1.1 x.2.1.2.1 (snS x.1).f4
  l5 : x.1.names.length = x.2.2.2.1
  c5 : x.2.2.2.1 ≤ x.2.2.2.2
  r5 : Kd.string.C w x.2.2.1 x.2.2.2.1 x.1.names
theorem InR.below {w w' : World} {x : Sn} (h : InR w x) (hb : Below w.heap.size w w') : InR w' x := ⟨h.l4, h.c4, Kd.C_below h.r4 hb, h.l5, h.c5, Kd.C_below h.r5 hb⟩
theorem rn_get {w : World} {m : Nat} {A : Option Addr} {rs : List KSn} (h : Kd.C k37 w A m (rs.map snS)) (i : Nat) (hi : i < rs.length) : ∃ ad, A = some ad ∧ ∃ x : Sn, x.1 = rs[i] ∧ InR w x ∧ ∀ j v, (snV x)[j]? = some v → (if j = 0 then w.cell? (ad.add (i * 6)) else w.cell? ⟨(ad.add (i * 6)).block, (ad.add (i * 6)).off + j, none⟩) = some v := by
  have hl : (rs.map snS).length = m := h.1
  obtain ⟨ad, e, hc⟩ := h.2.2 (by rw [← hl, List.length_map]; omega)
  obtain ⟨c, hlc, hK, hcell⟩ := hc i (snS rs[i]) (by rw [List.getElem?_map, List.getElem?_eq_getElem hi]; rfl)
  obtain ⟨A4, c4, A5, c5, rfl, l4, h4, l5, h5⟩ := k37_open hK
  refine ⟨ad, e, (rs[i], (A4, (snS rs[i]).f4.length, c4), (A5, (snS rs[i]).f5.length, c5)), rfl, ⟨rfl, l4, h4, rfl, l5, h5⟩, fun j u hu => ?_⟩
  have := hcell j u hu
  by_cases hj : j = 0
  · subst hj
    rw [if_pos rfl]
    rwa [Nat.add_zero] at this
  · rw [if_neg hj, ← add_field _ _ j (by omega)]
    exact this
theorem rn_of {w0 w : World} {B : Nat} {L : List Asrt} (T : List Sn) (v : Value) (i : Nat) (hH : Hold w0 B w L) (hi : L[i]? = some (.row kSn 37 v T)) (hr : ∀ x ∈ T, InR w x) : RnR w T.length v (T.map Prod.fst) := by
  obtain ⟨A, c, rfl, hle, hC⟩ := hH.reads i hi
  refine ⟨A, c, rfl, hle, by rw [List.length_map, List.length_map], hC.2.1, fun hn => ?_⟩
  obtain ⟨ad, e, hc⟩ := hC.2.2 hn
  refine ⟨ad, e, fun j p hp => ?_⟩
  rw [List.map_map, List.getElem?_map] at hp
  obtain ⟨x, hx, rfl⟩ := Option.map_eq_some_iff.1 hp
  obtain ⟨cs, hl, hK, hcell⟩ := hc j x hx
  have hK' : cs = snV x := hK
  subst hK'
  have hI := hr x (List.mem_of_getElem? hx)
  refine ⟨snV x, hl, ?_, hcell⟩
  have h4 := hI.r4
  have h5 := hI.r5
  have e4 := hI.l4
  have e5 := hI.l5
  obtain ⟨y, ⟨A4, n4, c4⟩, ⟨A5, n5, c5⟩⟩ := x
  simp only at h4 h5 e4 e5
  subst e4 e5
  exact k37_mk w (snS y) hI.c4 h4 hI.c5 h5
end Go.Proofs.YtpcbmjphffpplaaGreatDoor
namespace Go.Proofs.YtpcbmjphffpplaaGreatDoor
open Go.RowKit Go.Proofs.YtpcbmjphffpplaaGreatDoorW.PrintWords Go.Proofs.YtpcbmjphffpplaaGreatDoorW.PrintLast Go.Proofs.YtpcbmjphffpplaaGreatDoorW.PrintMore Go.Proofs.YtpcbmjphffpplaaGreatDoor.PFnKeySetClones
set_option linter.unusedVariables false
set_option linter.unusedSimpArgs false
theorem wrap_succ {i n : Nat} (h : i < n) (hn : n ≤ 9223372036854775807) : wrap64 ((i : Int) + 1) = ((i + 1 : Nat) : Int) := by unfold wrap64; omega
theorem eqI_l0 (l : List Int) (hl : l.length ≤ 9223372036854775807) : ∀ (d i k : Nat), i ≤ l.length → l.length - i = d → d < k → slices_Equal_int_int.l0 k l l (l.length : Int) (i : Int) = some true
  | 0, i, k, h1, h2, h3 => by
    obtain ⟨k, rfl⟩ : ∃ m, k = m + 1 := ⟨k - 1, by omega⟩
    simp only [slices_Equal_int_int.l0]
    rw [if_neg (by omega)]
  | d + 1, i, k, h1, h2, h3 => by
    obtain ⟨k, rfl⟩ : ∃ m, k = m + 1 := ⟨k - 1, by omega⟩
    have hi : i < l.length := by omega
    simp only [slices_Equal_int_int.l0]
    rw [if_pos (by omega), if_pos (by omega), if_pos (by omega), if_pos (by omega), if_pos trivial, wrap_succ hi hl]
    exact eqI_l0 l hl d (i + 1) k (by omega) (by omega) (by omega)
theorem eqS_l0 (l : List ByteArray) (hl : l.length ≤ 9223372036854775807) : ∀ (d i k : Nat), i ≤ l.length → l.length - i = d → d < k → slices_Equal_string_string.l0 k l l (l.length : Int) (i : Int) = some true
  | 0, i, k, h1, h2, h3 => by
    obtain ⟨k, rfl⟩ : ∃ m, k = m + 1 := ⟨k - 1, by omega⟩
    simp only [slices_Equal_string_string.l0]
    rw [if_neg (by omega)]
  | d + 1, i, k, h1, h2, h3 => by
    obtain ⟨k, rfl⟩ : ∃ m, k = m + 1 := ⟨k - 1, by omega⟩
    have hi : i < l.length := by omega
    simp only [slices_Equal_string_string.l0]
    rw [if_pos (by omega), if_pos (by omega), if_pos (by omega), if_pos (by omega), if_pos trivial, wrap_succ hi hl]
    exact eqS_l0 l hl d (i + 1) k (by omega) (by omega) (by omega)
/-- Lists of a length that can be walked. -/
def LenOk (x : S37) (M : Nat) : Prop := x.f4.length ≤ M ∧ x.f5.length ≤ M
theorem same_set (x : S37) (y : S32) (M k : Nat) (h : LenOk x M) (hM : M ≤ 9223372036854775807) (hk : M < k) : laws_sameSet.f k x.f0 x.f1 x.f2 x.f3 x.f4 x.f5 x.f0 x.f1 x.f2 x.f3 x.f4 x.f5 y.f0 y.f1 y.f2 y.f3 y.f4 = some true := by
  have e1 : slices_Equal_int_int.f k x.f4 x.f4 = some true := by
    unfold slices_Equal_int_int.f
    rw [if_pos rfl]
    exact eqI_l0 _ (by have := h.1; omega) _ 0 k (Nat.zero_le _) rfl (by have := h.1; omega)
  have e2 : slices_Equal_string_string.f k x.f5 x.f5 = some true := by
    unfold slices_Equal_string_string.f
    rw [if_pos rfl]
    exact eqS_l0 _ (by have := h.2; omega) _ 0 k (Nat.zero_le _) rfl (by have := h.2; omega)
  unfold laws_sameSet.f laws_sameSeen.f
  simp [e1, e2]
theorem same_l0 (xs : List S37) (ys : List S32) (M : Nat) (hl : xs.length = ys.length) (hx : ∀ x ∈ xs, LenOk x M) (hM : M ≤ 9223372036854775807) (hM2 : ys.length ≤ M) : ∀ (d i k : Nat), i ≤ ys.length → ys.length - i = d → M + d + 1 < k → laws_sameRun.l0 k xs xs ys (ys.length : Int) (i : Int) = some true
  | 0, i, k, h1, h2, h3 => by
    obtain ⟨k, rfl⟩ : ∃ m, k = m + 1 := ⟨k - 1, by omega⟩
    simp only [laws_sameRun.l0]
    rw [if_neg (by omega)]
  | d + 1, i, k, h1, h2, h3 => by
    obtain ⟨k, rfl⟩ : ∃ m, k = m + 1 := ⟨k - 1, by omega⟩
    have hi : i < ys.length := by omega
    have hi2 : i < xs.length := by omega
    have hr : rd_T37 xs (i : Int) = xs[i] := by unfold rd_T37; simp [List.getD_eq_getElem?_getD, hi2]
    simp only [laws_sameRun.l0]
    rw [if_pos (by omega), if_pos (by omega), if_pos (by omega), if_pos (by omega), if_pos (by omega), hr, same_set _ _ M k (hx _ (List.getElem_mem hi2)) hM (by omega), Option.bind_some, if_pos rfl, wrap_succ hi (by omega)]
    exact same_l0 xs ys M hl hx hM hM2 d (i + 1) k (by omega) (by omega) (by omega)
theorem same_f (xs : List S37) (ys : List S32) (M : Nat) (hl : xs.length = ys.length) (hx : ∀ x ∈ xs, LenOk x M) (hM : M ≤ 9223372036854775807) (hM2 : ys.length ≤ M) : laws_sameRun.f (M + ys.length + 4) xs xs ys = some true := by
  unfold laws_sameRun.f
  rw [if_pos (by rw [hl])]
  have e : ((xs.length : Int) != (ys.length : Int)) = false := by rw [hl]; simp
  rw [e]
  simp only [laws_sameRun.j0]
  rw [if_neg (by decide)]
  exact same_l0 xs ys M hl hx hM hM2 ys.length 0 _ (Nat.zero_le _) rfl (by omega)
theorem lens_of {w : World} {A : Option Addr} {n : Nat} {xs : List S37} (h : Kd.C k37 w A n xs) : ∀ x ∈ xs, LenOk x 9223372036854775807 := fun x hx => by
  obtain ⟨j, hj, rfl⟩ := List.getElem_of_mem hx
  have hn : 0 < n := by have := h.1; omega
  obtain ⟨ad, _, hc⟩ := h.2.2 hn
  obtain ⟨c, _, hK, _⟩ := hc j _ (List.getElem?_eq_getElem hj)
  obtain ⟨A4, c4, A5, c5, _, l4, h4, l5, h5⟩ := k37_open hK
  exact ⟨h4.2.1, h5.2.1⟩
/-- A step, in the printed words. -/
def st32 (x : KStp) : S32 := ⟨(x.1 : Int), (x.2.1 : Int), x.2.2.1, x.2.2.2.1, x.2.2.2.2⟩
theorem st32_C {w : World} {A : Option Addr} {m : Nat} {sts : List KStp} (h : kStp.C w A m sts) : Kd.C k32 w A m (sts.map st32) := by
  refine ⟨by rw [List.length_map]; exact h.1, h.2.1, fun hn => ?_⟩
  obtain ⟨ad, e, hc⟩ := h.2.2 hn
  refine ⟨ad, e, fun j p hp => ?_⟩
  rw [List.getElem?_map] at hp
  obtain ⟨x, hx, rfl⟩ := Option.map_eq_some_iff.1 hp
  obtain ⟨c, hl, hK, hcell⟩ := hc j x hx
  have hK' : c = stV x := hK
  subst hK'
  exact ⟨stV x, hl, k32_mk w (st32 x), hcell⟩
theorem sameRun_any (w : World) (m : Nat) (v1 v2 v3 : Value) (rs : List KSn) (n : Nat) (sts : List KStp) (h1 : RnR w m v1 rs) (h2 : RnR w m v2 rs) (h3 : StR w n m v3 sts) :
    Calls Tryz.prog 10 #[v1, v2, v3] w fun e w' => e = .returned (.bool true) ∧ Below w.heap.size w w' := by
  obtain ⟨A1, c1, rfl, l1, hC1⟩ := h1.out
  obtain ⟨A2, c2, rfl, l2, hC2⟩ := h2.out
  obtain ⟨A3, c3, rfl, l3, hC3⟩ := h3.out
  have e1 : (rs.map snS).length = m := hC1.1
  have hS := st32_C hC3
  have e3 : (sts.map st32).length = m := hS.1
  have hf := same_f (rs.map snS) (sts.map st32) 9223372036854775807 (by rw [e1, e3]) (lens_of hC1) (Nat.le_refl _) (by rw [e3]; exact hS.2.1)
  have h := laws_sameRun.calls _ A1 c1 (rs.map snS) A2 c2 (rs.map snS) A3 c3 (sts.map st32) true w (by rw [e1]; exact hC1) (by rw [e1]; exact l1) (by rw [e1]; exact hC2) (by rw [e1]; exact l2) (by rw [e3]; exact hS) (by rw [e3]; exact l3) hf
  rw [e1, e3] at h
  exact h
end Go.Proofs.YtpcbmjphffpplaaGreatDoor
