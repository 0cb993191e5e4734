/-
  jwk's symmetric key: KeyID; its set: LookupKeyID: their contracts.
  maps.Copy into an empty map: its contract. A slice that is made, and copied into.
  jwk's set: Clone: its contract. Printed by ksigen.py.
  jwk's symmetric key: how one is made, and its fields k and kid set: contracts.
-/
import Derived.Test.YtpcbmjphffpplaaGreatDoorKa1
import Derived.Test.YtpcbmjphffpplaaGreatDoorKa2
import Derived.Deep.DeepCutAuto
import Derived.Deep.CutBlock
import Derived.Lib.SliceRun
namespace Go.Proofs.YtpcbmjphffpplaaGreatDoor
open Go.RowKit Go.Proofs.YtpcbmjphffpplaaGreatDoorW.PrintWords
set_option linter.unusedVariables false
set_option linter.unusedSimpArgs false
set_option maxRecDepth 100000
/-- A key's ID, where it lies. -/
def KeyHas (w : World) (x : Nat) (o : Option ByteArray) : Prop :=
  match o with
  | none => w.cell? ⟨x, 1, none⟩ = some (.pointer none)
  | some s => ∃ g, w.cell? ⟨x, 1, none⟩ = some (.pointer (some ⟨g, 0, none⟩)) ∧ w.cell? ⟨g, 0, none⟩ = some (.string s)
set_option maxHeartbeats 2000000 in
theorem keyID_any (w : World) (x : Nat) (o : Option ByteArray) (hk : IsKy w x) (h : KeyHas w x o) :
    Calls Tryz.prog 87 #[.pointer (some ⟨x, 0, none⟩)] w fun e w' => e = .returned (.tuple #[.string (o.getD ByteArray.empty), .bool o.isSome]) ∧ w' = w := by
  obtain ⟨cs, t, hb⟩ := hk
  have hlt := blk_lt hb
  clear hb
  cases o with
  | none =>
    have h1 : w.cell? ⟨x, 1, none⟩ = some (.pointer none) := h
    clear h
    go_enter Tryz.func87, Tryz.ntmps87
    go_wp2
    go_ret2
    exact ⟨rfl, rfl⟩
  | some s =>
    obtain ⟨g, h1, h2⟩ := h
    go_enter Tryz.func87, Tryz.ntmps87
    go_wp2
    go_ret2
    exact ⟨rfl, rfl⟩
/-- The first key that has an ID. -/
def lookF (id : Nat → Option ByteArray) (s : ByteArray) (ks : List Nat) : Option Nat := ks.find? fun k => decide (id k = some s)
def lookV (o : Option Nat) : Value :=
  match o with
  | some k => .tuple #[kyV k, .bool true]
  | none => .tuple #[.nilIface, .bool false]
section
variable {w0 : World} {B : Nat} {L : List Asrt}
set_option maxHeartbeats 4000000 in
theorem lookup_any (w : World) (gs gm : Nat) (kv : Value) (ks : List Nat) (id : Nat → Option ByteArray) (s : ByteArray) (hks : ∀ x ∈ ks, IsKy w x ∧ KeyHas w x (id x)) (hkl : ks.length ≤ 1000000) (hS : Hold w0 B w (.blk gs (.cells #[kv, .map (some gm)] 95) :: .sl kyV kv ks :: L)) :
    Calls Tryz.prog 113 #[.pointer (some ⟨gs, 0, none⟩), .string s] w fun e w' => e = .returned (lookV (lookF id s ks)) ∧ w' = w := by
  obtain ⟨A, c, rfl, hc, hC⟩ := hS.slReads kyV_one 1 rfl
  obtain ⟨c0, f0⟩ := hS.cell 0 rfl 0 (by simp)
  have hlt := hS.blk_lt 0 rfl
  have HC := Aside0.mk hC
  have HE : Aside0 (∀ j (h : j < ks.length), (Calls Tryz.prog 87 #[.pointer (some ⟨ks[j], 0, none⟩)] w fun e w' => e = .returned (.tuple #[.string ((id ks[j]).getD ByteArray.empty), .bool (id ks[j]).isSome]) ∧ w' = w)) := ⟨fun j h => keyID_any w ks[j] _ (hks _ (List.getElem_mem h)).1 (hks _ (List.getElem_mem h)).2⟩
  obtain ⟨r, hr⟩ : ∃ r, r = lookF id s ks := ⟨_, rfl⟩
  rw [← hr]
  have HR := Aside0.mk hr
  have HF : Aside0 (∀ j (h : j < ks.length), (∀ i (h : i < j), id (ks[i]'(by omega)) ≠ some s) → id ks[j] = some s → r = some ks[j]) := ⟨fun j h hn he => by
    rw [hr]
    unfold lookF
    rw [List.find?_eq_some_iff_getElem]
    exact ⟨by simpa using he, j, h, rfl, fun i hi => by simpa using hn i hi⟩⟩
  have HN : Aside0 ((∀ i (h : i < ks.length), id (ks[i]'(by omega)) ≠ some s) → r = none) := ⟨fun hn => by
    rw [hr]
    unfold lookF
    rw [List.find?_eq_none]
    intro x hx
    obtain ⟨i, hi, rfl⟩ := List.getElem_of_mem hx
    simpa using hn i hi⟩
  obtain ⟨n, hn⟩ : ∃ n, n = ks.length := ⟨_, rfl⟩
  have HL := Aside0.mk hn
  rw [← hn] at c0 hc hkl
  clear hC hS hks hr hn
  have hll : n ≤ 9223372036854775807 := by omega
  go_enter Tryz.func113, Tryz.ntmps113
  go_wp2
  go_loopw [15] (fun i wr => ∃ j : Nat, j ≤ n ∧ i = .int .i64 j ∧ wr = w ∧ ∀ i (h : i < j) (h' : i < ks.length), id (ks[i]'h') ≠ some s) (fun i _ => n - (intOf i).toNat)
  case atStart => exact ⟨0, Nat.zero_le _, rfl, rfl, fun i h => absurd h (Nat.not_lt_zero _)⟩
  case round =>
    obtain ⟨j, hj, rfl, rfl, hI⟩ := hrel
    have HI := Aside0.mk hI
    clear hI
    by_cases hlt2 : j < n
    · have hjl : j < ks.length := by rw [← HL.out]; exact hlt2
      obtain ⟨ad, rfl, he⟩ := C1_get HC.out j hjl
      have hcall := HE.out j hjl
      have HF1 : Aside0 (id ks[j] = some s → r = some ks[j]) := ⟨HF.out j hjl (fun i h => HI.out i h (by omega))⟩
      have HI1 : Aside0 (id ks[j] ≠ some s → ∀ i (h : i < j + 1) (h' : i < ks.length), id (ks[i]'h') ≠ some s) := ⟨fun h i hi h' => by
        rcases Nat.lt_or_ge i j with h1 | h1
        · exact HI.out i h1 h'
        · obtain rfl : i = j := by omega
          exact h⟩
      have hlt3 : j + 1 ≤ n := hlt2
      clear HE HF HI HC HN
      generalize ks[j] = x at *
      obtain ⟨o, ho⟩ : ∃ o, o = id x := ⟨_, rfl⟩
      rw [← ho] at hcall HF1 HI1
      clear ho
      rw [kyV_eq x] at he
      have HCall := Aside0.mk hcall
      clear hcall
      cases o with
      | none =>
        have HI2 : Aside0 (∀ i (h : i < j + 1) (h' : i < ks.length), id (ks[i]'h') ≠ some s) := ⟨HI1.out (by simp)⟩
        clear HI1 HF1
        go_wp2_with fail
        refine HCall.out.mono ?_
        rintro e w1 ⟨rfl, rfl⟩
        clear HCall
        go_wp2
        go_roundw
        case rel => exact ⟨j + 1, hlt3, by go_num, trivial, HI2.out⟩
        case measure => simp [intOf]; omega
      | some t =>
        by_cases hts : t = s
        · subst hts
          have HF2 : Aside0 (r = some x) := ⟨HF1.out rfl⟩
          clear HI1 HF1
          go_wp2_with fail
          refine HCall.out.mono ?_
          rintro e w1 ⟨rfl, rfl⟩
          clear HCall
          go_wp2
          go_ret2
          rw [HF2.out]
          exact ⟨rfl, rfl⟩
        · have HI2 : Aside0 (∀ i (h : i < j + 1) (h' : i < ks.length), id (ks[i]'h') ≠ some s) := ⟨HI1.out (fun e => hts (Option.some.inj e))⟩
          have hbe : (t.toList == s.toList) = false := strK_ne (fun e => hts (e.trans (by rw [ByteArray.toList_eq])))
          clear HI1 HF1
          go_wp2_with fail
          refine HCall.out.mono ?_
          rintro e w1 ⟨rfl, rfl⟩
          clear HCall
          go_wp2
          go_roundw
          case rel => exact ⟨j + 1, hlt3, by go_num, trivial, HI2.out⟩
          case measure => simp [intOf]; omega
    · obtain rfl : j = n := by omega
      have HN2 : Aside0 (r = none) := ⟨HN.out (fun i h => HI.out i (by rw [HL.out]; exact h) h)⟩
      clear HE HC HF HI HN HR
      go_wp2
      go_ret2
      rw [HN2.out]
      exact ⟨rfl, rfl⟩
end
end Go.Proofs.YtpcbmjphffpplaaGreatDoor
namespace Go.Proofs.YtpcbmjphffpplaaGreatDoor
open Go.RowKit Go.Proofs.YtpcbmjphffpplaaGreatDoorW.PrintWords
set_option linter.unusedVariables false
set_option linter.unusedSimpArgs false
set_option maxRecDepth 100000
theorem DMap.perm {D : DataW Value} {ns ms : List ByteArray} (h : DMap D ns) (hp : ns.Perm ms) : DMap D ms :=
  ⟨h.tidy, fun s => by rw [h.has]; exact decide_eq_decide.2 hp.mem_iff, hp.nodup_iff.1 h.nd, by rw [h.size, hp.length_eq]⟩
structure CopyR (w0 : World) (B gd g n r : Nat) (D : DataW Value) (ns : List ByteArray) (L : List Asrt) (wr : World) : Prop where
  out : ∃ vis left cnt D2, (∀ s, left (kS s) = (decide (s ∈ ns) && !decide (s ∈ vis))) ∧ vis.length + cnt ≤ ns.length ∧ (∀ s ∈ vis, s ∈ ns) ∧ DMap D2 vis ∧ Hold w0 B wr (.rng g r n D left cnt :: .hm gd vis.length D2 :: L)
section
variable {w0 : World} {B : Nat} {L : List Asrt}
set_option maxHeartbeats 4000000 in
theorem mapsCopy_any (w : World) (gd g n : Nat) (D : DataW Value) (ns : List ByteArray) (hD : DMap D ns) (hn : ns.length ≤ 1000000) (hS : Hold w0 B w (.hm gd 0 (.map []) :: .hm g n D :: L)) :
    Calls Tryz.prog 118 #[.map (some gd), .map (some g)] w fun e w' => e = .returned (.tuple #[]) ∧ ∃ D2, DMap D2 ns ∧ Hold w0 B w' (.hm gd ns.length D2 :: .hm g n D :: L) := by
  have HS := Aside0.mk hS
  have HD := Aside0.mk hD
  clear hS hD
  go_enter Tryz.func118, Tryz.ntmps118
  go_wp2_with (at_range; refine Hold.mapRange 1 HS.out rfl rfl (.tmp 6) 88 20 rfl Tryz.underlying88 rfl ?_; intro w6 h6; have H7 := Aside0.mk h6; clear h6)
  have H8 : Aside0 (Hold w0 B w6 (.rng g w.heap.size n D (Maps.has D) (Maps.size D) :: .hm gd 0 (.map []) :: L)) := ⟨H7.out.pickA (M := [_, _]) [1, 0] (by decide) (by simp) (M' := [_, _]) rfl⟩
  clear H7 HS
  go_frame
  generalize w.heap.size = r5 at *
  go_loopw [4] (fun _ wr => CopyR w0 B gd g n r5 D ns L wr) (fun _ wr => wr.rangeLeft g r5)
  case atStart => exact ⟨[], Maps.has D, Maps.size D, .map [], fun s => (by rw [HD.out.has]; simp), (by rw [HD.out.size]; simp), fun s h => (by cases h), DMap.nil, H8.out⟩
  case round =>
    obtain ⟨vis, left, cnt, D2, hleft, hcnt, hvis, hD2, hR⟩ := hrel.out
    clear hrel H8
    have HR := Aside0.mk hR
    have HV := Aside0.mk (And.intro hleft (And.intro hcnt (And.intro hvis hD2)))
    clear hR hleft hcnt hvis hD2
    go_wp2_with (at_next; refine Hold.mapNext 0 HR.out rfl rfl (.tmp 7) rfl rfl ?_ ?_)
    · intro h0 hl0
      have hp : vis.Perm ns := (List.perm_ext_iff_of_nodup HV.out.2.2.2.nd HD.out.nd).2 (fun s => ⟨fun h => HV.out.2.2.1 s h, fun h => by
        have := hl0 (kS s)
        rw [HV.out.1, decide_eq_true h, Bool.true_and] at this
        simpa using this⟩)
      have h9 := HR.out.rngDone 0 rfl
      rw [hp.length_eq] at h9
      have HE := Aside0.mk (h9.pickA (M := [_, _]) [1, 0] (by decide) (by simp) (M' := [_, _]) rfl)
      have HP := Aside0.mk (HV.out.2.2.2.perm hp)
      clear h9 h0 hl0 hp HR
      go_wp2
      go_end0
      exact ⟨rfl, D2, HP.out, HE.out⟩
    · intro s v w2 cnt1 hs9 hlk hat hH hlt9 hen
      have hlt5 : vis.length < ns.length := by have := HV.out.2.1; omega
      have hmem : s ∈ ns ∧ s ∉ vis := by
        rw [HV.out.1] at hlk
        simpa using hlk
      have HH := Aside0.mk hH
      have hmx : vis.length < maxLen := by simp only [maxLen]; omega
      have hnew : ∀ w3, Hold w0 B w3 (.rng g r5 n D (fun z => left z && !z.sameKey (kS s)) cnt1 :: .hm gd (vis.length + 1) (D2.put (kS s) (.held v)) :: L) → CopyR w0 B gd g n r5 D ns L w3 ∧ w3.rangeLeft g r5 < wr.rangeLeft g r5 := fun w3 h3 => by
        refine ⟨⟨vis ++ [s], (fun z => left z && !z.sameKey (kS s)), cnt1, D2.put (kS s) (.held v), ?_, ?_, ?_, ?_, ?_⟩, ?_⟩
        · intro t
          show (left (kS t) && !(kS t).sameKey (kS s)) = _
          rw [HV.out.1, sameKey_kS]
          by_cases e : t = s
          · subst e; simp
          · simp [e]
        · have := HV.out.2.1
          simp
          omega
        · intro t ht
          rcases List.mem_append.1 ht with ht | ht
          · exact HV.out.2.2.1 t ht
          · obtain rfl := List.mem_singleton.1 ht
            exact hmem.1
        · have := HV.out.2.2.2.put s (.held v)
          rwa [show putN s vis = vis ++ [s] from if_neg hmem.2] at this
        · rw [List.length_append]
          exact h3
        · rw [h3.rngLeft 0 rfl, HR.out.rngLeft 0 rfl]
          exact hlt9
      have HN := Aside0.mk hnew
      clear hnew hmem hat hlk hH hlt9 HV
      go_wp2_with (at_mapUpdate; refine Hold.mapPut 1 HH.out rfl rfl (.tmp 13) (.tmp 14) (.tmp 15) 88 20 rfl Tryz.underlying88 s v rfl rfl rfl hmx hs9 ?_; intro w3 h3; have H3 := Aside0.mk (HN.out w3 h3); clear h3)
      (try simp only [Act.put])
      go_roundw
      case rel => exact H3.out.1
      case measure => exact H3.out.2
end
/-! ### a slice that is made is one's own; copy into the whole of it -/
section
variable {w0 w W : World} {B : Nat} {L : List Asrt} {α β : Type} {enc : α → Value} {enc' : β → Value} {P : Program}
theorem Hold.toSl {h1 : ∀ x, (enc x).oneCell' = true} {e : Nat} {v : Value} {xs : List α} (hS : Hold w0 B w L) (i : Nat) (hi : L[i]? = some (.row (Kd.scalar enc h1) e v xs)) : Hold w0 B w (L.set i (.sl enc v xs)) := by
  refine hS.upd i hi (fun f hp => ⟨f, ?_, fun k h => .inl h, Chg.none_ _ _⟩)
  have hr : (Kd.scalar enc h1).R e w 0 f v xs := hp
  obtain ⟨A, c, rfl, hle, hC⟩ := Kd.R_reads hr
  obtain ⟨h0, inner, ho, hrp⟩ := hr
  rcases ho.2 with ⟨e1, hn⟩ | ⟨g, cap, cur, e1, _, hh, hnc, hcm, hcs, htake⟩
  · injection e1 with e1 e2 e3
    subst e1 e3
    have : xs = [] := List.eq_nil_of_length_eq_zero hn
    subst this
    exact ⟨.inl ⟨rfl, rfl⟩⟩
  · injection e1 with e1 e2 e3
    subst e1 e3
    have hc : ∀ o, w.cell? ⟨g, o, none⟩ = cur[o]? := fun o => by simp [World.cell?, hh]
    have hcs' : c ≤ cur.size := by
      have h2 := hcs
      rw [show c * (Kd.scalar enc h1).sz = c from Nat.mul_one c] at h2
      omega
    refine ⟨.inr ⟨g, 0, c, rfl, h0 g (by simp [Value.ownBlock]), (Array.getElem?_eq_some_iff.1 hh).1, hle, hcm, fun j hj => ⟨?_, by simp [World.frozen?, hh]⟩, fun j x hx => ?_⟩⟩
    · rw [hc, Nat.zero_add, Array.getElem?_eq_getElem (by omega)]
      rfl
    · obtain ⟨hj, rfl⟩ := List.getElem?_eq_some_iff.1 hx
      obtain ⟨ad, hA, hcell⟩ := C1_get hC j hj
      injection hA with hA
      subst hA
      rw [Nat.zero_add]
      rwa [add_plain] at hcell
/-- copy(s, ys), as many as there are. -/
theorem Hold.slCopyRun {h1' : ∀ x, (enc' x).oneCell' = true} (i : Nat) (hS : Hold w0 B W L) {v : Value} {xs : List α} {ys : List β} (hi : L[i]? = some (.sl enc v xs)) (hl : ys.length = xs.length) (t ty e : TypeId)
    (hu : P.underlying t = some (.slice e)) (hs : (P.info? e).map (·.size) = some 1) (A : Option Addr) (m c : Nat) (hC : (Kd.scalar enc' h1').C W A m ys) :
    ∃ w1, (Builtin.copy_ #[t, t] ty #[v, .slice A m c]).run P W = .ok (.int .i64 (m : Int)) w1 ∧ Hold w0 B w1 (L.set i (.sl enc' v ys)) := by
  obtain ⟨f, hp, hb, hk⟩ := hS.focus i hi
  obtain rfl : m = ys.length := hC.1.symm
  by_cases h0 : ys.length = 0
  · have hy : ys = [] := List.eq_nil_of_length_eq_zero h0
    have hx : xs = [] := List.eq_nil_of_length_eq_zero (by omega)
    subst hy hx
    refine ⟨W, ?_, hk W (.sl enc' v []) f ?_ (fun k h => .inl h) (Chg.none_ _ _)⟩
    · rcases hp.out with ⟨rfl, _⟩ | ⟨g, off, cap, rfl, _⟩
      · exact run_copy_none (P := P) W t t ty e _ A 0 0 0 c hu hs (by simp)
      · exact run_copy_none (P := P) W t t ty e _ A 0 cap 0 c hu hs (by simp)
    · rcases hp.out with ⟨e, _⟩ | ⟨g, off, cap, e, r1, r2, r3, r4, r5, r6⟩
      · exact ⟨.inl ⟨e, rfl⟩⟩
      · exact ⟨.inr ⟨g, off, cap, e, r1, r2, r3, r4, r5, fun j x hx => by simp at hx⟩⟩
  · obtain ⟨ad, rfl, hcs⟩ := hC.2.2 (by omega)
    rcases hp.out with ⟨_, e⟩ | ⟨g, off, cap, rfl, hf, hlt, h2, h3, h4, h5⟩
    · rw [e] at hl; exact absurd hl h0
    have hnews : ∀ j u, (ys.map enc')[j]? = some u → W.cell? (ad.add j) = some u := fun j u hu => by
      rw [List.getElem?_map] at hu
      obtain ⟨y, hy, rfl⟩ := Option.map_eq_some_iff.1 hu
      obtain ⟨cs, _, hK, hcc⟩ := hcs j y hy
      have hK' : cs = [enc' y] := hK
      subst hK'
      have := hcc 0 _ rfl
      have e : j * (Kd.scalar enc' h1').sz + 0 = j := by show j * 1 + 0 = j; omega
      rwa [e] at this
    have hone : ∀ u ∈ ys.map enc', u.oneCell' = true := fun u hu => by
      obtain ⟨y, _, rfl⟩ := List.mem_map.1 hu
      exact h1' y
    have hsp : ∀ j, j < (ys.map enc').length → (W.cell? ⟨g, off + j, none⟩).isSome = true ∧ W.frozen? ⟨g, off + j, none⟩ = false := fun j hj => by
      have hj' : j < ys.length := by simpa using hj
      exact h4 j (by omega)
    have hrun := run_copy_cells (P := P) W t t ty e g off xs.length cap ad ys.length c (ys.map enc') hu hs (by simp [hl]) hnews (fun j hj => (hsp j hj).1) (fun j hj => (hsp j hj).2) hone
    refine ⟨W.setCells g off (ys.map enc'), by rw [hrun]; simp [goInt], ?_⟩
    have hin := World.cell?_setCells_in g (ys.map enc') off W (fun j hj => (hsp j (by simpa using hj)).1)
    have hout := fun (p : Addr) => World.cell?_setCells_out g (ys.map enc') off W p
    have hsm := setCells_same g (ys.map enc') off W
    refine hk _ (.sl enc' _ ys) f ⟨.inr ⟨g, off, cap, by rw [hl], hf, by rw [hsm.2.2.2]; exact hlt, by omega, h3, fun j hj => ⟨?_, by rw [World.frozen?_setCells]; exact (h4 j hj).2⟩, fun j y hy => ?_⟩⟩ (fun k h => .inl h) ⟨hsm.1, hsm.2.1, hsm.2.2.1, by rw [hsm.2.2.2]; exact Nat.le_refl _, fun k hk hn => setCells_far _ _ k (fun e => hn (e ▸ hf))⟩
    · rcases Nat.lt_or_ge j ys.length with hj2 | hj2
      · rw [hin j (by simpa using hj2)]
        rfl
      · rw [hout _ (fun _ _ => .inr (by show _ ≤ off + j; simp; omega))]
        exact (h4 j hj).1
    · obtain ⟨hj, rfl⟩ := List.getElem?_eq_some_iff.1 hy
      rw [hin j (by simpa using hj), List.getElem_map]
end
end Go.Proofs.YtpcbmjphffpplaaGreatDoor
namespace Go.Proofs.YtpcbmjphffpplaaGreatDoor
open Go.RowKit Go.Proofs.YtpcbmjphffpplaaGreatDoorW.PrintWords
set_option linter.unusedVariables false
set_option linter.unusedSimpArgs false
set_option maxRecDepth 100000
/-- A key, or none, as a value of the type Key. -/
def kyO (o : Option Nat) : Value :=
  match o with
  | none => .nilIface
  | some k => kyV k
theorem kyO_one (o : Option Nat) : (kyO o).oneCell' = true := by cases o <;> rfl
theorem infoKyO : (Tryz.prog.info? 58).map (fun i => (i.zero, i.size, i.bytes)) = some (some (kyO none), 1, 16) := infoKy
/-- What holds ahead of a region's one call, and behind it. -/
structure Wi2 (P0 P1 : World → Prop) (k : Nat) (t : Unit) (w : World) : Prop where
  at0 : k = 0 → P0 w
  at1 : k ≠ 0 → P1 w
theorem Wi2.both {P0 P1 F : World → Prop} (h0 : ∀ w, P0 w → F w) (h1 : ∀ w, P1 w → F w) (k : Nat) (t : Unit) (w : World) (h : Wi2 P0 P1 k t w) : F w := by
  by_cases hk : k = 0
  · exact h0 w (h.at0 hk)
  · exact h1 w (h.at1 hk)
theorem Wi2.mk0 {P0 P1 : World → Prop} {t : Unit} {w : World} (h : P0 w) : Wi2 P0 P1 0 t w := ⟨fun _ => h, fun e => absurd rfl e⟩
theorem Wi2.mk1 {P0 P1 : World → Prop} {t : Unit} {w : World} (h : P1 w) : Wi2 P0 P1 1 t w := ⟨fun e => absurd e (by decide), fun _ => h⟩
/-- A step of copy whose run is known. -/
theorem wp_copy {P : Program} {o : Oper} {a : Act} {w w1 : World} {K : Act → World → Prop} {Q : Exit → Act → World → Prop} {s x : Operand} {t : TypeId} {v y v1 : Value} (hgd : o.guard = none) (ho : o.op = .call { callee := .builtin .copy, args := #[s, x], argTypes := #[t, t] }) (hs : a.eval s = v) (hx : a.eval x = y)
    (hrun : (Builtin.copy_ #[t, t] o.type #[v, y]).run P w = .ok v1 w1) (h : K (a.put o.dst v1) w1) : Oper.wp P o a w K Q := by
  unfold Oper.wp
  simp [execOp, ho, resolve, invoke, builtin, hs, hx, hrun, Result.andThen]
  exact h
theorem get_ev2 {a : Act} {j : Nat} {v : Value} (h : a.tmps[j]?.getD undef = v) : a.eval (.tmp j) = v := by
  show a.tmps.getD j undef = v
  rw [Array.getD_eq_getD_getElem?]
  exact h
section
variable (w0 : World) (B gs gm n : Nat) (kv : Value) (ks : List Nat) (D : DataW Value) (gs2 gm2 : Nat) (v2 : Value) (L : List Asrt)
/-- Clone: what is held ahead of the keys' copy. -/
def Cl0 (w : World) : Prop := Hold w0 B w (.sl kyO v2 (List.replicate ks.length none) :: .blk gs2 (.cells #[v2, .map (some gm2)] 95) :: .hm gm2 0 (.map []) :: .blk gs (.cells #[kv, .map (some gm)] 95) :: .sl kyV kv ks :: .hm gm n D :: L)
def Cl1 (w : World) : Prop := Hold w0 B w (.sl kyV v2 ks :: .blk gs2 (.cells #[v2, .map (some gm2)] 95) :: .hm gm2 0 (.map []) :: .blk gs (.cells #[kv, .map (some gm)] 95) :: .sl kyV kv ks :: .hm gm n D :: L)
def Cl2 (ns : List ByteArray) (w : World) : Prop := ∃ D2, DMap D2 ns ∧ Hold w0 B w (.blk gs2 (.cells #[v2, .map (some gm2)] 95) :: .sl kyV v2 ks :: .hm gm2 ns.length D2 :: .blk gs (.cells #[kv, .map (some gm)] 95) :: .sl kyV kv ks :: .hm gm n D :: L)
/-- What the region's own operations look at. -/
structure ClF (w : World) : Prop where
  a0 : w.cell? ⟨gs2, 0, none⟩ = some v2
  a1 : w.cell? ⟨gs2, 1, none⟩ = some (.map (some gm2))
  b0 : w.cell? ⟨gs, 0, none⟩ = some kv
  b1 : w.cell? ⟨gs, 1, none⟩ = some (.map (some gm))
end
section
variable {w0 : World} {B gs gm n : Nat} {kv : Value} {ks : List Nat} {D : DataW Value} {gs2 gm2 : Nat} {v2 : Value} {L : List Asrt} {ns : List ByteArray}
theorem Cl0.f {w : World} (h : Cl0 w0 B gs gm n kv ks D gs2 gm2 v2 L w) : ClF gs gm kv gs2 gm2 v2 w :=
  ⟨(Hold.cell h 1 rfl 0 (by simp)).1, (Hold.cell h 1 rfl 1 (by simp)).1, (Hold.cell h 3 rfl 0 (by simp)).1, (Hold.cell h 3 rfl 1 (by simp)).1⟩
theorem Cl1.f {w : World} (h : Cl1 w0 B gs gm n kv ks D gs2 gm2 v2 L w) : ClF gs gm kv gs2 gm2 v2 w :=
  ⟨(Hold.cell h 1 rfl 0 (by simp)).1, (Hold.cell h 1 rfl 1 (by simp)).1, (Hold.cell h 3 rfl 0 (by simp)).1, (Hold.cell h 3 rfl 1 (by simp)).1⟩
theorem Cl2.f {w : World} (h : Cl2 w0 B gs gm n kv ks D gs2 gm2 v2 L ns w) : ClF gs gm kv gs2 gm2 v2 w := by
  obtain ⟨D2, _, h⟩ := h
  exact ⟨(Hold.cell h 0 rfl 0 (by simp)).1, (Hold.cell h 0 rfl 1 (by simp)).1, (Hold.cell h 3 rfl 0 (by simp)).1, (Hold.cell h 3 rfl 1 (by simp)).1⟩
theorem Cl0.copy {w : World} {A : Option Addr} {c m : Nat} {A2 : Option Addr} {c2 m2 : Nat} (h : Cl0 w0 B gs gm n (.slice A m c) ks D gs2 gm2 (.slice A2 m2 c2) L w) (hm : m = ks.length) :
    ∃ w1, (Builtin.copy_ #[49, 49] 3 #[.slice A2 m2 c2, .slice A m c]).run Tryz.prog w = .ok (.int .i64 (m : Int)) w1 ∧ Cl1 w0 B gs gm n (.slice A m c) ks D gs2 gm2 (.slice A2 m2 c2) L w1 := by
  subst hm
  obtain ⟨A', c', e, _, hC⟩ := Hold.slReads kyV_one (h : Hold w0 B w _) 4 rfl
  injection e with e1 e2 e3
  subst e1 e3
  exact Hold.slCopyRun (P := Tryz.prog) (h1' := kyV_one) 0 (h : Hold w0 B w _) rfl (by simp) 49 3 58 Tryz.underlying49 (by kernel_rfl) A ks.length c hC
theorem Cl1.maps {w : World} (h : Cl1 w0 B gs gm n kv ks D gs2 gm2 v2 L w) (hD : DMap D ns) (hn : ns.length ≤ 1000000) :
    Calls Tryz.prog 118 #[.map (some gm2), .map (some gm)] w fun e w' => e = .returned (.tuple #[]) ∧ Cl2 w0 B gs gm n kv ks D gs2 gm2 v2 L ns w' := by
  have h1 := Hold.pickA (M := [_, _, _, _, _, _]) (h : Hold w0 B w ([_, _, _, _, _, _] ++ L)) [2, 5, 0, 1, 3, 4] (by decide) (by simp) (M' := [_, _, _, _, _, _]) rfl
  refine (mapsCopy_any w gm2 gm n D ns hD hn h1).mono ?_
  rintro e w' ⟨rfl, D2, hd, h2⟩
  exact ⟨rfl, D2, hd, Hold.pickA (M := [_, _, _, _, _, _]) (h2 : Hold w0 B w' ([_, _, _, _, _, _] ++ L)) [3, 2, 0, 4, 5, 1] (by decide) (by simp) (M' := [_, _, _, _, _, _]) rfl⟩
end
def cl3Val (gs gs2 : Nat) (A A1 : Option Addr) (m c cc : Nat) (t : Unit) (d : Nat) : Value :=
  match d with
  | 15 => .pointer (some ⟨gs2, 0, none⟩)
  | 16 => .pointer (some ⟨gs2, 0, none⟩)
  | 17 => .pointer (some ⟨gs2, 0, none⟩)
  | 18 => .slice A1 m cc
  | 19 => .pointer (some ⟨gs, 0, none⟩)
  | 20 => .pointer (some ⟨gs, 0, none⟩)
  | 21 => .pointer (some ⟨gs, 0, none⟩)
  | 22 => .slice A m c
  | 23 => .int .i64 (m : Int)
  | _ => undef
def cl3Dp (i : Nat) : List (Nat × Nat) :=
  match i with
  | 1 => [(0, 15)]
  | 2 => [(1, 16)]
  | 3 => [(2, 17)]
  | 5 => [(4, 19)]
  | 6 => [(5, 20)]
  | 7 => [(6, 21)]
  | 8 => [(3, 18), (7, 22)]
  | _ => []
def cl4Val (gs gs2 gm gm2 : Nat) (t : Unit) (d : Nat) : Value :=
  match d with
  | 24 => .pointer (some ⟨gs2, 0, none⟩)
  | 25 => .pointer (some ⟨gs2, 0, none⟩)
  | 26 => .pointer (some ⟨gs2, 1, none⟩)
  | 27 => .map (some gm2)
  | 28 => .pointer (some ⟨gs, 0, none⟩)
  | 29 => .pointer (some ⟨gs, 0, none⟩)
  | 30 => .pointer (some ⟨gs, 1, none⟩)
  | 31 => .map (some gm)
  | 32 => .tuple #[]
  | _ => undef
def cl4Dp (i : Nat) : List (Nat × Nat) :=
  match i with
  | 1 => [(0, 24)]
  | 2 => [(1, 25)]
  | 3 => [(2, 26)]
  | 5 => [(4, 28)]
  | 6 => [(5, 29)]
  | 7 => [(6, 30)]
  | 8 => [(3, 27), (7, 31)]
  | _ => []
section
variable {w0 : World} {B : Nat} {L : List Asrt}
set_option maxHeartbeats 8000000 in
theorem clone_any (w : World) (gs gm n : Nat) (kv : Value) (ks : List Nat) (D : DataW Value) (ns : List ByteArray) (hD : DMap D ns) (hn : ns.length ≤ 1000000) (hkl : ks.length ≤ 1000000) (hS : Hold w0 B w (.blk gs (.cells #[kv, .map (some gm)] 95) :: .sl kyV kv ks :: .hm gm n D :: L)) :
    Calls Tryz.prog 107 #[.pointer (some ⟨gs, 0, none⟩)] w fun e w' => ∃ gs2 gm2 v2, e = .returned (.tuple #[.iface 83 (.pointer (some ⟨gs2, 0, none⟩)), .nilIface]) ∧ Cl2 w0 B gs gm n kv ks D gs2 gm2 v2 L ns w' := by
  obtain ⟨A, c, rfl, hc, hC⟩ := hS.slReads kyV_one 1 rfl
  have HS := Aside0.mk hS
  have HD := Aside0.mk hD
  clear hS hC hD
  obtain ⟨m, hm⟩ : ∃ m, m = ks.length := ⟨_, rfl⟩
  have HM := Aside0.mk hm
  rw [← hm] at hc hkl HS ⊢
  clear hm
  go_enter Tryz.func107, Tryz.ntmps107
  go_wp2_with fail
  refine (newSet_any w).mono ?_
  rintro e w1 ⟨gs2, gm2, rfl, hH⟩
  have H1 := Aside0.mk (HS.out.app hH)
  clear hH
  obtain ⟨c0, f0⟩ := H1.out.cell 3 rfl 0 (by simp)
  have hlt := H1.out.blk_lt 3 rfl
  have hml : m ≤ 9223372036854775807 := by omega
  go_upto_region 3 with (first | ((with_reducible refine at_dst (N := 12) rfl ?_); refine Hold.make (enc := kyO) (h1 := kyO_one) H1.out 58 rfl rfl 49 (.tmp 11) (.tmp 11) rfl (m : Int) rfl rfl Tryz.underlying49 none 16 infoKyO rfl (by decide) (by omega) (by omega) ?_; intro v1 w2 h2; rw [Int.toNat_natCast] at h2; have H2 := Aside0.mk h2; clear h2; obtain ⟨A1, cc, rfl, hle1⟩ := H2.out.rowForm 0 rfl m (by simp); obtain ⟨d0, g0⟩ := H2.out.cell 1 rfl 0 (by simp); have hlt2 := H2.out.blk_lt 1 rfl))
  have H3 : Aside0 (Cl0 w0 B gs gm n (.slice A m c) ks D gs2 gm2 (.slice A1 m cc) L (w2.setCell ⟨gs2, 0, none⟩ (.slice A1 m cc))) := ⟨by
    have h := (H2.out.toSl 0 rfl).store 1 rfl 0 (.slice A1 m cc)
    rw [HM.out] at h ⊢
    exact Hold.pickA (M := [_, _, _, _, _, _, _]) (h : Hold w0 B _ ([_, _, _, _, _, _, _] ++ L)) [0, 1, 3, 4, 5, 6] (by decide) (by simp) (M' := [_, _, _, _, _, _]) rfl⟩
  clear H1 H2 HS c0 f0 d0 g0 hlt hlt2
  generalize World.setCell w2 _ _ = w3 at *
  have H0 : Aside0 (Wi2 (Cl0 w0 B gs gm n (.slice A m c) ks D gs2 gm2 (.slice A1 m cc) L) (Cl1 w0 B gs gm n (.slice A m c) ks D gs2 gm2 (.slice A1 m cc) L) 0 () w3.drew) := ⟨Wi2.mk0 (Hold.drew (H3.out : Hold w0 B w3 _))⟩
  have HW : Aside0 (∀ k t w, Wi2 (Cl0 w0 B gs gm n (.slice A m c) ks D gs2 gm2 (.slice A1 m cc) L) (Cl1 w0 B gs gm n (.slice A m c) ks D gs2 gm2 (.slice A1 m cc) L) k t w → ClF gs gm (.slice A m c) gs2 gm2 (.slice A1 m cc) w) := ⟨Wi2.both (fun w h => h.f) (fun w h => h.f)⟩
  refine wp_region_any (by kernel_rfl) ?_
  change wpAny _ _ _ _ _ _ _ (World.drew _)
  refine region_chainT _ _ [15, 16, 17, 18, 19, 20, 21, 22, 23] (cl3Val gs gs2 A A1 m c cc) cl3Dp (fun _ => []) [8] (Wi2 (Cl0 w0 B gs gm n (.slice A m c) ks D gs2 gm2 (.slice A1 m cc) L) (Cl1 w0 B gs gm n (.slice A m c) ks D gs2 gm2 (.slice A1 m cc) L)) (by kernel_rfl) (by kernel_rfl) (by kernel_rfl) (by kernel_rfl) (()) ?_ ?_ ?_
  case' refine_1 => exact H0.out
  refine StepsT.quiet (by decide) (fun k t a wc hI hc hp hr K hK => ?_) ?_
  · -- slot 15
    have q4 : a.tmps[4]?.getD undef = .pointer (some ⟨gs2, 0, none⟩) := ev_get (hc 4 (by decide))
    have HI := Aside0.mk hI
    clear hp hc hr hI
    go_simp
    exact hK _ HI.out
  refine StepsT.quiet (by decide) (fun k t a wc hI hc hp hr K hK => ?_) ?_
  · -- slot 16
    have q15 : a.tmps[15]?.getD undef = .pointer (some ⟨gs2, 0, none⟩) := ev_get (hp (0, 15) (by simp [cl3Dp]))
    have HI := Aside0.mk hI
    clear hp hc hr hI
    go_simp
    exact hK _ HI.out
  refine StepsT.quiet (by decide) (fun k t a wc hI hc hp hr K hK => ?_) ?_
  · -- slot 17
    have q16 : a.tmps[16]?.getD undef = .pointer (some ⟨gs2, 0, none⟩) := ev_get (hp (1, 16) (by simp [cl3Dp]))
    have HI := Aside0.mk hI
    clear hp hc hr hI
    go_simp
    exact hK _ HI.out
  refine StepsT.quiet (by decide) (fun k t a wc hI hc hp hr K hK => ?_) ?_
  · -- slot 18
    have q17 : a.tmps[17]?.getD undef = .pointer (some ⟨gs2, 0, none⟩) := ev_get (hp (2, 17) (by simp [cl3Dp]))
    have HI := Aside0.mk hI
    clear hp hc hr hI
    obtain ⟨a0, a1, b0, b1⟩ := HW.out k t _ HI.out
    go_simp
    exact hK _ HI.out
  refine StepsT.quiet (by decide) (fun k t a wc hI hc hp hr K hK => ?_) ?_
  · -- slot 19
    have q0 : a.tmps[0]?.getD undef = .pointer (some ⟨gs, 0, none⟩) := ev_get (hc 0 (by decide))
    have HI := Aside0.mk hI
    clear hp hc hr hI
    go_simp
    exact hK _ HI.out
  refine StepsT.quiet (by decide) (fun k t a wc hI hc hp hr K hK => ?_) ?_
  · -- slot 20
    have q19 : a.tmps[19]?.getD undef = .pointer (some ⟨gs, 0, none⟩) := ev_get (hp (4, 19) (by simp [cl3Dp]))
    have HI := Aside0.mk hI
    clear hp hc hr hI
    go_simp
    exact hK _ HI.out
  refine StepsT.quiet (by decide) (fun k t a wc hI hc hp hr K hK => ?_) ?_
  · -- slot 21
    have q20 : a.tmps[20]?.getD undef = .pointer (some ⟨gs, 0, none⟩) := ev_get (hp (5, 20) (by simp [cl3Dp]))
    have HI := Aside0.mk hI
    clear hp hc hr hI
    go_simp
    exact hK _ HI.out
  refine StepsT.quiet (by decide) (fun k t a wc hI hc hp hr K hK => ?_) ?_
  · -- slot 22
    have q21 : a.tmps[21]?.getD undef = .pointer (some ⟨gs, 0, none⟩) := ev_get (hp (6, 21) (by simp [cl3Dp]))
    have HI := Aside0.mk hI
    clear hp hc hr hI
    obtain ⟨a0, a1, b0, b1⟩ := HW.out k t _ HI.out
    go_simp
    exact hK _ HI.out
  refine StepsT.call 0 rfl (fun t a wc hI hc hp hr K hK => ?_) ?_
  · -- slot 23
    have q18 : a.tmps[18]?.getD undef = .slice A1 m cc := ev_get (hp (3, 18) (by simp [cl3Dp]))
    have q22 : a.tmps[22]?.getD undef = .slice A m c := ev_get (hp (7, 22) (by simp [cl3Dp]))
    have HI := Aside0.mk hI
    clear hp hc hr hI
    obtain ⟨w9, hrun, h9⟩ := (HI.out.at0 rfl).copy HM.out
    rw [if_pos (by rfl)]
    exact wp_copy rfl rfl (get_ev2 q18) (get_ev2 q22) hrun (hK () w9 (Wi2.mk1 h9) (fun _ _ => rfl))
  exact StepsT.nil _
  · intro t wc hJ
    simp only [ov, List.foldl_cons, List.foldl_nil, Act.put, List.setIfInBounds_toArray, List.set_cons_succ, List.set_cons_zero, cl3Val]
    have H4 := Aside0.mk (hJ.at1 (by decide))
    clear hJ H0 HW H3
    go_upto_region 4 with (fail)
    have H0 : Aside0 (Wi2 (Cl1 w0 B gs gm n (.slice A m c) ks D gs2 gm2 (.slice A1 m cc) L) (Cl2 w0 B gs gm n (.slice A m c) ks D gs2 gm2 (.slice A1 m cc) L ns) 0 () wc.drew) := ⟨Wi2.mk0 (Hold.drew (H4.out : Hold w0 B wc _))⟩
    have HW : Aside0 (∀ k t w, Wi2 (Cl1 w0 B gs gm n (.slice A m c) ks D gs2 gm2 (.slice A1 m cc) L) (Cl2 w0 B gs gm n (.slice A m c) ks D gs2 gm2 (.slice A1 m cc) L ns) k t w → ClF gs gm (.slice A m c) gs2 gm2 (.slice A1 m cc) w) := ⟨Wi2.both (fun w h => h.f) (fun w h => h.f)⟩
    refine wp_region_any (by kernel_rfl) ?_
    change wpAny _ _ _ _ _ _ _ (World.drew _)
    refine region_chainT _ _ [24, 25, 26, 27, 28, 29, 30, 31, 32] (cl4Val gs gs2 gm gm2) cl4Dp (fun _ => []) [8] (Wi2 (Cl1 w0 B gs gm n (.slice A m c) ks D gs2 gm2 (.slice A1 m cc) L) (Cl2 w0 B gs gm n (.slice A m c) ks D gs2 gm2 (.slice A1 m cc) L ns)) (by kernel_rfl) (by kernel_rfl) (by kernel_rfl) (by kernel_rfl) (()) ?_ ?_ ?_
    case' refine_1 => exact H0.out
    refine StepsT.quiet (by decide) (fun k t a wc hI hc hp hr K hK => ?_) ?_
    · -- slot 24
      have q4 : a.tmps[4]?.getD undef = .pointer (some ⟨gs2, 0, none⟩) := ev_get (hc 4 (by decide))
      have HI := Aside0.mk hI
      clear hp hc hr hI
      go_simp
      exact hK _ HI.out
    refine StepsT.quiet (by decide) (fun k t a wc hI hc hp hr K hK => ?_) ?_
    · -- slot 25
      have q24 : a.tmps[24]?.getD undef = .pointer (some ⟨gs2, 0, none⟩) := ev_get (hp (0, 24) (by simp [cl4Dp]))
      have HI := Aside0.mk hI
      clear hp hc hr hI
      go_simp
      exact hK _ HI.out
    refine StepsT.quiet (by decide) (fun k t a wc hI hc hp hr K hK => ?_) ?_
    · -- slot 26
      have q25 : a.tmps[25]?.getD undef = .pointer (some ⟨gs2, 0, none⟩) := ev_get (hp (1, 25) (by simp [cl4Dp]))
      have HI := Aside0.mk hI
      clear hp hc hr hI
      go_simp
      exact hK _ HI.out
    refine StepsT.quiet (by decide) (fun k t a wc hI hc hp hr K hK => ?_) ?_
    · -- slot 27
      have q26 : a.tmps[26]?.getD undef = .pointer (some ⟨gs2, 1, none⟩) := ev_get (hp (2, 26) (by simp [cl4Dp]))
      have HI := Aside0.mk hI
      clear hp hc hr hI
      obtain ⟨a0, a1, b0, b1⟩ := HW.out k t _ HI.out
      go_simp
      exact hK _ HI.out
    refine StepsT.quiet (by decide) (fun k t a wc hI hc hp hr K hK => ?_) ?_
    · -- slot 28
      have q0 : a.tmps[0]?.getD undef = .pointer (some ⟨gs, 0, none⟩) := ev_get (hc 0 (by decide))
      have HI := Aside0.mk hI
      clear hp hc hr hI
      go_simp
      exact hK _ HI.out
    refine StepsT.quiet (by decide) (fun k t a wc hI hc hp hr K hK => ?_) ?_
    · -- slot 29
      have q28 : a.tmps[28]?.getD undef = .pointer (some ⟨gs, 0, none⟩) := ev_get (hp (4, 28) (by simp [cl4Dp]))
      have HI := Aside0.mk hI
      clear hp hc hr hI
      go_simp
      exact hK _ HI.out
    refine StepsT.quiet (by decide) (fun k t a wc hI hc hp hr K hK => ?_) ?_
    · -- slot 30
      have q29 : a.tmps[29]?.getD undef = .pointer (some ⟨gs, 0, none⟩) := ev_get (hp (5, 29) (by simp [cl4Dp]))
      have HI := Aside0.mk hI
      clear hp hc hr hI
      go_simp
      exact hK _ HI.out
    refine StepsT.quiet (by decide) (fun k t a wc hI hc hp hr K hK => ?_) ?_
    · -- slot 31
      have q30 : a.tmps[30]?.getD undef = .pointer (some ⟨gs, 1, none⟩) := ev_get (hp (6, 30) (by simp [cl4Dp]))
      have HI := Aside0.mk hI
      clear hp hc hr hI
      obtain ⟨a0, a1, b0, b1⟩ := HW.out k t _ HI.out
      go_simp
      exact hK _ HI.out
    refine StepsT.call 0 rfl (fun t a wc hI hc hp hr K hK => ?_) ?_
    · -- slot 32
      have q27 : a.tmps[27]?.getD undef = .map (some gm2) := ev_get (hp (3, 27) (by simp [cl4Dp]))
      have q31 : a.tmps[31]?.getD undef = .map (some gm) := ev_get (hp (7, 31) (by simp [cl4Dp]))
      have HI := Aside0.mk hI
      clear hp hc hr hI
      go_simp
      refine ((HI.out.at0 rfl).maps HD.out hn).mono ?_
      rintro e w9 ⟨rfl, h9⟩
      exact hK () w9 (Wi2.mk1 h9) (fun _ _ => rfl)
    exact StepsT.nil _
    · intro t wc hJ
      simp only [ov, List.foldl_cons, List.foldl_nil, Act.put, List.setIfInBounds_toArray, List.set_cons_succ, List.set_cons_zero, cl4Val]
      have H5 := Aside0.mk (hJ.at1 (by decide))
      clear hJ
      go_wp2_with fail
      go_ret2
      exact ⟨_, _, _, rfl, H5.out⟩
end
end Go.Proofs.YtpcbmjphffpplaaGreatDoor
namespace Go.Proofs.YtpcbmjphffpplaaGreatDoor
open Go.RowKit Go.Proofs.YtpcbmjphffpplaaGreatDoorW.PrintWords
set_option linter.unusedVariables false
set_option linter.unusedSimpArgs false
set_option maxRecDepth 100000
/-- A key's cells: its ID's place, its octets, its private fields. -/
def kyC (i o : Value) (gp : Nat) : Array Value := #[.pointer none, i, .pointer none, .pointer none, o, .pointer none, .pointer none, .pointer none, .map (some gp)]
theorem kyC_eq (i o : Value) (gp : Nat) : kyC i o gp = #[.pointer none, i, .pointer none, .pointer none, o, .pointer none, .pointer none, .pointer none, .map (some gp)] := rfl
section
variable {w0 : World} {B : Nat} {L : List Asrt}
set_option maxHeartbeats 2000000 in
theorem newKey_any (w : World) : Calls Tryz.prog 23 #[] w fun e w' => ∃ x gp, e = .returned (.pointer (some ⟨x, 0, none⟩)) ∧ Hold w w.heap.size w' [.blk x (.cells (kyC (.pointer none) (.slice none 0 0) gp) 93)] := by
  have hu := Tryz.underlying93
  have hmm := @run_makeMap Tryz.prog
  have H1 := (Hold.start w).mapMade
  have H2' := H1.alloc (.cells (kyC (.pointer none) (.slice none 0 0) w.heap.size) 93)
  rw [World.size_alloc] at H2'
  have H2 := Aside0.mk (H2'.pick [0] (by decide) (L' := [.blk (w.heap.size + 1) (.cells (kyC (.pointer none) (.slice none 0 0) w.heap.size) 93)]) rfl)
  clear H2' H1
  go_enter Tryz.func23, Tryz.ntmps23
  go_wp2
  go_ret
  exact ⟨_, _, rfl, H2.out⟩
theorem sixteen : (Tryz.prog.info? 5).map (fun i => (i.zero, i.size, i.bytes)) = some (some (bV 0), 1, 1) := by kernel_rfl
theorem ta_bytes (v : Value) (W : World) : (Instr.typeAssert (.iface 22 v) 20 22 true).run Tryz.prog W = .ok (.tuple #[v, .bool true]) W := by kernel_rfl
theorem ta_text (v : Value) (W : World) : (Instr.typeAssert (.iface 9 v) 20 9 true).run Tryz.prog W = .ok (.tuple #[v, .bool true]) W := by kernel_rfl
set_option maxHeartbeats 8000000 in
/-- The field k. -/
theorem setOct_any (w : World) (x gp e : Nat) (i o v : Value) (bs : List UInt8) (hm : 0 < bs.length) (hm2 : bs.length ≤ 1000000) (hS : Hold w0 B w (.blk x (.cells (kyC i o gp) 93) :: .row kB e v bs :: L)) :
    Calls Tryz.prog 30 #[.pointer (some ⟨x, 0, none⟩), .string ⟨#[107]⟩, .iface 22 v] w fun e w' => ∃ o', e = .returned .nilIface ∧ Hold w0 B w' (.blk x (.cells (kyC i o' gp) 93) :: L) := by
  obtain ⟨A, c, rfl, hc, hC⟩ := hS.reads 1 rfl
  obtain ⟨ad, rfl, _⟩ := hC.2.2 hm
  have HS := Aside0.mk hS
  have hlt := hS.blk_lt 0 rfl
  obtain ⟨c4, f4⟩ := hS.cell 0 rfl 4 (by simp [kyC])
  clear hC hS
  obtain ⟨m, hml⟩ : ∃ m, m = bs.length := ⟨_, rfl⟩
  have HM := Aside0.mk hml
  rw [← hml] at hm hm2 hc HS ⊢
  clear hml
  have hml : m ≤ 9223372036854775807 := by omega
  have hta := ta_bytes
  have hnil := fun W : World => Lib.run_eql_slice_nil (P := Tryz.prog) W 22 5 (some ad) m c 0 0 Tryz.underlying22
  go_enter Tryz.func30, Tryz.ntmps30
  go_upto_region 52 with (first | ((with_reducible refine at_dst (N := 136) rfl ?_); refine Hold.make (enc := bV) (h1 := fun _ => rfl) HS.out 5 rfl rfl 22 (.tmp 135) (.tmp 135) rfl (m : Int) rfl rfl Tryz.underlying22 0 1 sixteen rfl (by decide) (by omega) (by omega) ?_; intro v1 w2 h2; rw [Int.toNat_natCast] at h2; have H2 := Aside0.mk h2; clear h2; obtain ⟨A1, cc, rfl, hle1⟩ := H2.out.rowForm 0 rfl m (by simp); obtain ⟨d0, g0⟩ := H2.out.cell 1 rfl 4 (by simp [kyC]); have hlt2 := H2.out.blk_lt 1 rfl))
  have hS3 : Hold w0 B (w2.setCell ⟨x, 4, none⟩ (.slice A1 m cc)) (.sl bV (.slice A1 m cc) (List.replicate m 0) :: .blk x (.cells (kyC i (.slice A1 m cc) gp) 93) :: .row kB e (.slice (some ad) m c) bs :: L) := (H2.out.toSl 0 rfl).store 1 rfl 4 (.slice A1 m cc)
  obtain ⟨A', c', e1, _, hC⟩ := hS3.reads 2 rfl
  injection e1 with e1 e2 e3
  subst e1 e3
  rw [← e2] at hC
  clear e2
  obtain ⟨w9, hrun, h9⟩ := Hold.slCopyRun (P := Tryz.prog) (h1' := fun _ => rfl) 0 hS3 rfl (by rw [List.length_replicate, HM.out]) 22 3 5 Tryz.underlying22 (by kernel_rfl) (some ad) m c hC
  have H9 := Aside0.mk (Hold.pickA (M := [_, _, _]) (h9 : Hold w0 B w9 ([_, _, _] ++ L)) [1] (by decide) (by simp) (M' := [_]) rfl)
  obtain ⟨e0, f0⟩ := hS3.cell 1 rfl 4 (by simp [kyC])
  clear h9 hS3 H2 HS hC d0 g0 c4 f4 hlt hlt2 hnil hta
  go_wp2_with ((with_reducible refine at_bi (b := .copy) (xs := #[.tmp 142, .tmp 143]) rfl ?_); refine wpList_plain rfl fun K hK => ?_; refine wp_copy rfl rfl rfl rfl hrun ?_; refine hK _ _ ?_; clear hK K)
  go_ret
  exact ⟨_, rfl, H9.out⟩
set_option maxHeartbeats 8000000 in
theorem setKidNL_any (w : World) (x gp : Nat) (i o : Value) (s : ByteArray) (hS : Hold w0 B w (.blk x (.cells (kyC i o gp) 93) :: L)) :
    Calls Tryz.prog 30 #[.pointer (some ⟨x, 0, none⟩), .string ⟨#[107, 105, 100]⟩, .iface 9 (.string s)] w fun e w' => ∃ g, e = .returned .nilIface ∧ Hold w0 B w' (.blk x (.cells (kyC (.pointer (some ⟨g, 0, none⟩)) o gp) 93) :: .blk g (.cells #[.string s] 9) :: L) := by
  have hlt := hS.blk_lt 0 rfl
  obtain ⟨c4, f4⟩ := hS.cell 0 rfl 1 (by simp [kyC])
  have hA := (hS.store 0 rfl 1 (.pointer (some ⟨w.heap.size, 0, none⟩))).alloc (.cells #[.string s] 9)
  have hz : (w.setCell ⟨x, 1, none⟩ (.pointer (some ⟨w.heap.size, 0, none⟩))).heap.size = w.heap.size := by simp
  rw [hz] at hA
  have H1 : Aside0 (Hold w0 B ((w.setCell ⟨x, 1, none⟩ (.pointer (some ⟨w.heap.size, 0, none⟩))).alloc (.cells #[.string s] 9)) (.blk w.heap.size (.cells #[.string s] 9) :: .blk x (.cells (kyC (.pointer (some ⟨w.heap.size, 0, none⟩)) o gp) 93) :: L)) := ⟨hA⟩
  have H2 := Aside0.mk (Hold.pickA (M := [_, _]) (H1.out : Hold w0 B _ ([_, _] ++ L)) [1, 0] (by decide) (by simp) (M' := [_, _]) rfl)
  have hta := ta_text
  clear hS H1 hA hz
  go_enter Tryz.func30, Tryz.ntmps30
  go_wp2
  go_ret
  exact ⟨w.heap.size, rfl, H2.out⟩
/-- The field kid. -/
theorem setKid_any (w : World) (x gp : Nat) (i o : Value) (s : ByteArray) (hS : Hold w0 B w (.blk x (.cells (kyC i o gp) 93) :: L)) :
    Calls Tryz.prog 24 #[.pointer (some ⟨x, 0, none⟩), .string ⟨#[107, 105, 100]⟩, .iface 9 (.string s)] w fun e w' => ∃ g, e = .returned .nilIface ∧ Hold w0 B w' (.blk x (.cells (kyC (.pointer (some ⟨g, 0, none⟩)) o gp) 93) :: .blk g (.cells #[.string s] 9) :: L) := by
  have HS := Aside0.mk hS
  clear hS
  go_enter Tryz.func24, Tryz.ntmps24
  go_wp2_with fail
  refine (setKidNL_any w x gp i o s HS.out).mono ?_
  rintro e w1 ⟨g, rfl, h1⟩
  have H1 := Aside0.mk h1
  clear h1 HS
  go_wp2
  go_ret
  exact ⟨_, rfl, H1.out⟩
theorem setOctS_any (w : World) (x gp e : Nat) (i o v : Value) (bs : List UInt8) (hm : 0 < bs.length) (hm2 : bs.length ≤ 1000000) (hS : Hold w0 B w (.blk x (.cells (kyC i o gp) 93) :: .row kB e v bs :: L)) :
    Calls Tryz.prog 24 #[.pointer (some ⟨x, 0, none⟩), .string ⟨#[107]⟩, .iface 22 v] w fun e w' => ∃ o', e = .returned .nilIface ∧ Hold w0 B w' (.blk x (.cells (kyC i o' gp) 93) :: L) := by
  have HS := Aside0.mk hS
  clear hS
  go_enter Tryz.func24, Tryz.ntmps24
  go_wp2_with fail
  refine (setOct_any w x gp e i o v bs hm hm2 HS.out).mono ?_
  rintro e w1 ⟨g, rfl, h1⟩
  have H1 := Aside0.mk h1
  clear h1 HS
  go_wp2
  go_ret
  exact ⟨_, rfl, H1.out⟩
/-- A new key. -/
theorem newSym_any (w : World) (e : Nat) (v : Value) (bs : List UInt8) (hm : 0 < bs.length) (hm2 : bs.length ≤ 1000000) (hS : Hold w0 B w (.row kB e v bs :: L)) :
    Calls Tryz.prog 15 #[v] w fun e w' => ∃ x o gp, e = .returned (.tuple #[kyV x, .nilIface]) ∧ Hold w0 B w' (.blk x (.cells (kyC (.pointer none) o gp) 93) :: L) := by
  have HS := Aside0.mk hS
  clear hS
  go_enter Tryz.func15, Tryz.ntmps15
  go_wp2_with fail
  refine (newKey_any w).mono ?_
  rintro e1 w1 ⟨x, gp, rfl, h1⟩
  have H1 := Aside0.mk (HS.out.app h1)
  clear h1 HS
  go_wp2_with fail
  refine (setOctS_any w1 x gp e (.pointer none) (.slice none 0 0) v bs hm hm2 H1.out).mono ?_
  rintro e2 w2 ⟨o, rfl, h2⟩
  have H2 := Aside0.mk h2
  clear h2 H1
  go_wp2
  go_ret2
  exact ⟨_, _, _, rfl, H2.out⟩
end
end Go.Proofs.YtpcbmjphffpplaaGreatDoor
