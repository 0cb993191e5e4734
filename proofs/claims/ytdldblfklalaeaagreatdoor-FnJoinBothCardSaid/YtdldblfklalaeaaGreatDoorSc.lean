/-
  encoding/base64: DecodedLen; Decode of three letters without padding: their contracts. (Under way.)
  encoding/base64: what a loop of Decode keeps. (The plain part.)
  encoding/base64: Decode on letters and signs of padding: its contract. (Printed by decgen.py.)
  laws.partAwake: Decode of its fixed text, Encode of its fixed bytes. (Under way.)
  slices.Grow over bytes of the call's own; AppendEncode of encoding/base64 and of inner/base64; impl.EncodedBehind: their contracts.
  inner/base64: Decode with the letters of URLs, padded or not; impl.Decoded: their contracts.
-/
import Derived.Test.YtdldblfklalaeaaGreatDoorSb
import Derived.Test.YtdldblfklalaeaaGreatDoorQuantS
import Derived.Test.YtdldblfklalaeaaGreatDoorAsm
import Derived.BigQuiet
import Derived.Deep.CutBlock
import Derived.Test.YtdldblfklalaeaaGreatDoorSa
import Derived.Lib.AppendZerosOnto
import Derived.WalkKit
namespace Go.Proofs.YtdldblfklalaeaaGreatDoor
open Go.RowKit Go.Proofs.YtdldblfklalaeaaGreatDoorW.PrintWords Go.Lib
set_option linter.unusedVariables false
set_option linter.unusedSimpArgs false
def decLen (p : Int) (n : Nat) : Nat := if p = -1 then n / 4 * 3 + n % 4 * 6 / 8 else n / 4 * 3
set_option maxRecDepth 100000 in
set_option maxHeartbeats 1000000 in
theorem decodedLen_any (w : World) (p : Int) (n : Nat) (hn : n ≤ 1000000000) :
    Calls Tryz.prog 196 #[.int .i64 n, .int .i32 p] w fun e w' => e = .returned (.int .i64 (decLen p n : Nat)) ∧ w = w' := by
  by_cases hp : p = -1
  · subst hp
    have HE : Aside0 (decLen (-1) n = n / 4 * 3 + n % 4 * 6 / 8) := ⟨rfl⟩
    go_enter Tryz.func196, Tryz.ntmps196
    go_wp2
    go_ret
    refine ⟨?_, rfl⟩
    rw [HE.out]
    go_num
  · have HE : Aside0 (decLen p n = n / 4 * 3) := ⟨if_neg hp⟩
    have hb : (p == -1) = false := by simpa using hp
    clear hp
    go_enter Tryz.func196, Tryz.ntmps196
    go_wp2
    go_ret
    refine ⟨?_, rfl⟩
    rw [HE.out]
    go_num
theorem decodedLenM_any {w0 : World} {B : Nat} {L : List Asrt} (w : World) (url : Bool) (p : Int) (g n : Nat) (hn : n ≤ 1000000000) (H : Hold w0 B w (.blk g (.cells (encX url p) 220) :: L)) :
    Calls Tryz.prog 192 #[.pointer (some ⟨g, 0, none⟩), .int .i64 n] w fun e w' => e = .returned (.int .i64 (decLen p n : Nat)) ∧ w = w' := by
  have hp := (H.cellq 0 rfl 320 _ (ecells_atP _ _ _ (letX_len url) (decX_len url))).1
  have hu := Tryz.underlying220
  clear H
  go_enter Tryz.func192, Tryz.ntmps192
  go_wp2_with fail
  refine (decodedLen_any _ p n hn).mono ?_
  rintro e w1 ⟨rfl, rfl⟩
  obtain ⟨m, hm⟩ : ∃ m, m = decLen p n := ⟨_, rfl⟩
  rw [← hm]
  have HM := Aside0.mk hm
  clear hm
  go_wp2
  go_ret
  exact ⟨by rw [← HM.out]; rfl, rfl⟩
set_option maxRecDepth 100000 in
set_option maxHeartbeats 2000000 in
theorem dec3_any {w0 : World} {B : Nat} {L : List Asrt} (w : World) (url : Bool) (g gd b o c cap t : Nat) (ts : List UInt8) (cs : Array Value)
    (hfit : 2 ≤ cs.size) (hne : g ≠ gd) (H : Hold w0 B w (.blk g (.cells (encX url (-1)) 220) :: .blk gd (.cells cs t) :: L))
    (hC : kB.C w (some ⟨b, o, none⟩) 3 ts) (x y z : UInt8) (hx : ts[0]? = some x) (hy : ts[0 + 1]? = some y) (hz : ts[0 + 2]? = some z)
    (vx : dX url x ≠ 255) (vy : dX url y ≠ 255) (vz : dX url z ≠ 255) :
    Calls Tryz.prog 193 #[.pointer (some ⟨g, 0, none⟩), .slice (some ⟨gd, 0, none⟩) 2 cap, .slice (some ⟨b, o, none⟩) 3 c] w fun e w' => e = .returned (.tuple #[.int .i64 2, .nilIface]) ∧
      ∃ cs', Wrote cs cs' 0 [byA (dX url x) (dX url y), byB (dX url y) (dX url z)] ∧ Hold w0 B w' (.blk g (.cells (encX url (-1)) 220) :: .blk gd (.cells cs' t) :: L) := by
  have HH := Aside0.mk H
  have HRg := Aside0.mk H.rangeD
  have HSz := Aside0.mk (sizeD url)
  have HC := Aside0.mk hC
  have HX := Aside0.mk hx
  have HY := Aside0.mk hy
  have HZ := Aside0.mk hz
  have HVx := Aside0.mk vx
  have HVy := Aside0.mk vy
  have HVz := Aside0.mk vz
  have hu79 := Tryz.underlying220
  clear H hC hx hy hz vx vy vz
  go_enter Tryz.func193, Tryz.ntmps193
  go_wp2_with ((with_reducible refine at_dst (N := 24) rfl ?_); refine wpList_load_mid rfl 114 (.tmp 23) rfl g 64 rfl ((decX url).map bV) _ HRg.out Tryz.underlying114 rfl HSz.out ?_)
  refine wp_loop_rounds 1 ?_
  rw [rounds_succ]
  go_wp2
  refine wp_loop_rounds 1 ?_
  rw [rounds_succ]
  go_wp2
  refine wp_loop_rounds 2 ?_
  rw [rounds_succ]
  go_wp2_with fail
  refine (quant3_any (w0 := w0) (B := B) (L := L) w url g gd 0 b o 3 c 2 cap t 0 (some ⟨gd, 0, none⟩) ts cs (by decide) rfl (Nat.le_refl _) (by omega) hne HH.out HC.out rfl x y z HX.out HY.out HZ.out HVx.out HVy.out HVz.out).mono ?_
  rintro e w1 ⟨rfl, cs', hW, hH⟩
  have H1 := Aside0.mk hH
  have HW := Aside0.mk hW
  clear hH hW
  go_wp2
  rw [rounds_succ]
  go_wp2
  go_ret2
  exact ⟨rfl, cs', HW.out, H1.out⟩
end Go.Proofs.YtdldblfklalaeaaGreatDoor
namespace Go.Proofs.YtdldblfklalaeaaGreatDoor
open Go.RowKit Go.Proofs.YtdldblfklalaeaaGreatDoorW.PrintWords Go.Lib
set_option linter.unusedVariables false
set_option linter.unusedSimpArgs false
theorem Wrote.refl (cs : Array Value) : Wrote cs cs 0 [] := ⟨rfl, by simp⟩
theorem Wrote.more {cs cs' cs2 : Array Value} {done bs : List UInt8} (h : Wrote cs cs' 0 done) (h2 : Wrote cs' cs2 done.length bs) : Wrote cs cs2 0 (done ++ bs) := by
  refine ⟨h2.size.trans h.size, ?_⟩
  have e2 := h2.pre
  have e1 := h.pre
  simp only [Nat.zero_add, List.take_zero, List.nil_append] at e1 ⊢
  rw [List.length_append, e2, e1, List.map_append]
theorem wrote_put (cs : Array Value) (off : Nat) (vs : List Value) (bs : List UInt8) (k : Nat) (hv : vs.take bs.length = bs.map bV) (hk : vs.length = k) (hfit : off + k ≤ cs.size) : Wrote cs (putN cs off vs) off bs := by
  subst hk
  have hb : bs.length ≤ vs.length := by
    have := congrArg List.length hv
    rw [List.length_take, List.length_map] at this
    omega
  refine ⟨putN_size _ _ _, ?_⟩
  rw [putN_list vs cs off hfit, List.append_assoc, List.take_append, List.take_append]
  have hl : (List.take off cs.toList).length = off := by rw [List.length_take]; simp; omega
  rw [hl, List.take_take, Nat.min_eq_right (by omega), show off + bs.length - off = bs.length by omega, hv, show bs.length - vs.length = 0 by omega, List.take_zero, List.append_nil]
/-- The lengths of a group. -/
theorem decStep_facts {url raw : Bool} {rs bs : List UInt8} {k : Nat} (h : decStep url raw rs = some (bs, k)) : k ≤ rs.length ∧ 0 < k ∧ (k < rs.length → k = 4 ∧ bs.length = 3) ∧ bs.length ≤ decLen (padOf raw) rs.length ∧ bs.length ≤ 3 := by
  rcases rs with _ | ⟨x, _ | ⟨y, _ | ⟨z, _ | ⟨u, r⟩⟩⟩⟩
  · simp [decStep] at h
  · simp [decStep] at h
  · simp only [decStep] at h
    split at h
    · rename_i hc
      injection h with h; injection h with h1 h2; subst h1 h2
      have hr : raw = true := by simp only [Bool.and_eq_true] at hc; exact hc.1.1
      subst hr
      refine ⟨by simp, by omega, fun h => by simp at h, by simp [decLen, padOf], by simp⟩
    · cases h
  · simp only [decStep] at h
    split at h
    · rename_i hc
      injection h with h; injection h with h1 h2; subst h1 h2
      have hr : raw = true := by simp only [Bool.and_eq_true] at hc; exact hc.1.1.1
      subst hr
      refine ⟨by simp, by omega, fun h => by simp at h, by simp [decLen, padOf], by simp⟩
    · cases h
  · have hd : 3 ≤ decLen (padOf raw) (x :: y :: z :: u :: r).length := by
      simp only [List.length_cons]
      unfold decLen
      split <;> omega
    simp only [decStep] at h
    split at h
    · injection h with h; injection h with h1 h2; subst h1 h2
      exact ⟨by simp, by omega, fun _ => ⟨rfl, rfl⟩, by simpa using hd, by simp⟩
    · split at h
      · rename_i _ hc
        have hr : r = [] := by
          simp only [Bool.and_eq_true, List.isEmpty_iff] at hc
          exact hc.1.1.1.2
        subst hr
        split at h
        · injection h with h; injection h with h1 h2; subst h1 h2
          exact ⟨by simp, by omega, fun h => by simp at h, Nat.le_trans (by simp) hd, by simp⟩
        · split at h
          · injection h with h; injection h with h1 h2; subst h1 h2
            exact ⟨by simp, by omega, fun h => by simp at h, Nat.le_trans (by simp) hd, by simp⟩
          · cases h
      · cases h
structure DSt (w0 : World) (B : Nat) (L : List Asrt) (url raw : Bool) (g gd t m : Nat) (ts : List UInt8) (cs0 : Array Value) (si n : Nat) (wr : World) : Prop where
  le : si ≤ ts.length
  al : si < ts.length → n * 4 = si * 3 ∧ si % 4 = 0
  nm : n ≤ m
  ex : ∃ done cs', done.length = n ∧ Wrote cs0 cs' 0 done ∧ decAll url raw ts = (decAll url raw (ts.drop si)).map (done ++ ·) ∧ Hold w0 B wr (.blk g (.cells (encX url (padOf raw)) 220) :: .blk gd (.cells cs' t) :: L)
theorem decLen_le {p : Int} {n k : Nat} (h : n + 3 * k = n + 3 * k) : decLen p (4 * k + n) = 3 * k + decLen p n := by
  unfold decLen
  split <;> omega
theorem DSt.step {w0 : World} {B : Nat} {L : List Asrt} {url raw : Bool} {g gd t m : Nat} {ts : List UInt8} {cs0 : Array Value} {si n : Nat} (hm : m = decLen (padOf raw) ts.length) {done bs : List UInt8} {k : Nat} {cs' cs2 : Array Value} {w' : World} (hle : si < ts.length) (hal : n * 4 = si * 3 ∧ si % 4 = 0)
    (hd : done.length = n) (hW : Wrote cs0 cs' 0 done) (hA : decAll url raw ts = (decAll url raw (ts.drop si)).map (done ++ ·)) (hs : decStep url raw (ts.drop si) = some (bs, k)) (hW2 : Wrote cs' cs2 n bs)
    (H : Hold w0 B w' (.blk g (.cells (encX url (padOf raw)) 220) :: .blk gd (.cells cs2 t) :: L)) : DSt w0 B L url raw g gd t m ts cs0 (si + k) (n + bs.length) w' := by
  obtain ⟨h1, h0, h2, h3, h4⟩ := decStep_facts hs
  have hl : (ts.drop si).length = ts.length - si := List.length_drop ..
  have hne : ts.drop si ≠ [] := by
    intro e
    rw [e] at hl
    simp at hl
    omega
  rw [hl] at h1 h2 h3
  subst hd
  refine ⟨by omega, fun hlt => ?_, ?_, done ++ bs, cs2, by rw [List.length_append], hW.more hW2, ?_, H⟩
  · obtain ⟨rfl, e⟩ := h2 (by omega)
    omega
  · rw [hm]
    obtain ⟨j, hj⟩ : ∃ j, ts.length = 4 * j + (ts.length - si) := ⟨si / 4, by omega⟩
    rw [hj, decLen_le rfl]
    omega
  · rw [hA, decAll_step _ _ _ hne, hs]
    simp only [Option.bind_some, List.drop_drop]
    cases decAll url raw (ts.drop (si + k)) <;> simp
theorem DSt.adv {w0 : World} {B : Nat} {L : List Asrt} {url raw : Bool} {g gd t m : Nat} {ts : List UInt8} {cs0 : Array Value} {si n : Nat} {done bs : List UInt8} {k : Nat} {cs' cs2 : Array Value} {w' : World} (hal : n * 4 = si * 3 ∧ si % 4 = 0)
    (hd : done.length = n) (hW : Wrote cs0 cs' 0 done) (hA : decAll url raw ts = (decAll url raw (ts.drop si)).map (done ++ ·)) (hk : si + k ≤ ts.length) (hkk : bs.length * 4 = k * 3 ∧ k % 4 = 0) (hnm : n + bs.length ≤ m)
    (hA2 : decAll url raw (ts.drop si) = (decAll url raw (ts.drop (si + k))).map (bs ++ ·)) (hW2 : Wrote cs' cs2 n bs)
    (H : Hold w0 B w' (.blk g (.cells (encX url (padOf raw)) 220) :: .blk gd (.cells cs2 t) :: L)) : DSt w0 B L url raw g gd t m ts cs0 (si + k) (n + bs.length) w' := by
  subst hd
  refine ⟨hk, fun hlt => by omega, hnm, done ++ bs, cs2, by rw [List.length_append], hW.more hW2, ?_, H⟩
  rw [hA, hA2]
  cases decAll url raw (ts.drop (si + k)) <;> simp
theorem drop_at {ts : List UInt8} {i : Nat} {x : UInt8} (h : ts[i]? = some x) : ts.drop i = x :: ts.drop (i + 1) := by
  obtain ⟨hi, rfl⟩ := List.getElem?_eq_some_iff.1 h
  exact List.drop_eq_getElem_cons hi
theorem decAll4 {url raw : Bool} {x y z u : UInt8} {r : List UInt8} (hx : dX url x ≠ 255) (hy : dX url y ≠ 255) (hz : dX url z ≠ 255) (hu : dX url u ≠ 255) :
    decAll url raw (x :: y :: z :: u :: r) = (decAll url raw r).map ([byA (dX url x) (dX url y), byB (dX url y) (dX url z), byC (dX url z) (dX url u)] ++ ·) := by
  simp only [decAll, isL_iff.2 hx, isL_iff.2 hy, isL_iff.2 hz, isL_iff.2 hu, Bool.and_self, if_true]
theorem be4_bytes (N : Nat) (h : N < 16777216) : (be4 (N * 256)).take 3 = [N / 65536, N / 256 % 256, N % 256].map (fun k : Nat => Value.int .u8 (k : Int)) := by
  unfold be4
  simp only [List.take_succ_cons, List.take_zero, List.map_cons, List.map_nil]
  rw [show ((N * 256 : Nat) : Int) / 16777216 % 256 = ((N / 65536 : Nat) : Int) by omega, show ((N * 256 : Nat) : Int) / 65536 % 256 = ((N / 256 % 256 : Nat) : Int) by omega, show ((N * 256 : Nat) : Int) / 256 % 256 = ((N % 256 : Nat) : Int) by omega]
theorem be8_bytes (N M : Nat) (h : N < 16777216) (k : M < 16777216) : (be8 (N * 1099511627776 + M * 65536)).take 6 = [N / 65536, N / 256 % 256, N % 256, M / 65536, M / 256 % 256, M % 256].map (fun k : Nat => Value.int .u8 (k : Int)) := by
  unfold be8
  simp only [List.take_succ_cons, List.take_zero, List.map_cons, List.map_nil]
  obtain ⟨V, hV⟩ : ∃ V, V = N * 1099511627776 + M * 65536 := ⟨_, rfl⟩
  rw [← hV]
  rw [show (V : Int) / 72057594037927936 % 256 = ((N / 65536 : Nat) : Int) by omega, show (V : Int) / 281474976710656 % 256 = ((N / 256 % 256 : Nat) : Int) by omega, show (V : Int) / 1099511627776 % 256 = ((N % 256 : Nat) : Int) by omega,
    show (V : Int) / 4294967296 % 256 = ((M / 65536 : Nat) : Int) by omega, show (V : Int) / 16777216 % 256 = ((M / 256 % 256 : Nat) : Int) by omega, show (V : Int) / 65536 % 256 = ((M % 256 : Nat) : Int) by omega]
/-- What Decode leaves. -/
def DPost (w0 : World) (B : Nat) (L : List Asrt) (url raw : Bool) (g gd t : Nat) (cs : Array Value) (e : Ending) (w' : World) : Option (List UInt8) → Prop
  | some bs => e = .returned (.tuple #[.int .i64 bs.length, .nilIface]) ∧ ∃ cs', Wrote cs cs' 0 bs ∧ Hold w0 B w' (.blk g (.cells (encX url (padOf raw)) 220) :: .blk gd (.cells cs' t) :: L)
  | none => (∃ k t' v, e = .returned (.tuple #[.int .i64 k, .iface t' v])) ∧ ∃ cs', Hold w0 B w' (.blk g (.cells (encX url (padOf raw)) 220) :: .blk gd (.cells cs' t) :: L)
end Go.Proofs.YtdldblfklalaeaaGreatDoor
namespace Go.Proofs.YtdldblfklalaeaaGreatDoor
open Go.RowKit Go.Proofs.YtdldblfklalaeaaGreatDoorW.PrintWords Go.Lib
set_option linter.unusedVariables false
set_option linter.unusedSimpArgs false
set_option maxRecDepth 100000 in
set_option maxHeartbeats 40000000 in
theorem decode_any {w0 : World} {B : Nat} {L : List Asrt} (w : World) (url raw : Bool) (g gd b o c m cap t : Nat) (A D : Option Addr) (ts : List UInt8) (cs : Array Value) (hn : ts.length ≤ 1000000000)
    (hA : 0 < ts.length → A = some ⟨b, o, none⟩) (hlc : ts.length ≤ c) (hm : m = decLen (padOf raw) ts.length) (hD : 0 < m → D = some ⟨gd, 0, none⟩) (hmc : m ≤ cap) (hfit : m ≤ cs.size) (hne : g ≠ gd)
    (H : Hold w0 B w (.blk g (.cells (encX url (padOf raw)) 220) :: .blk gd (.cells cs t) :: L))
    (hsrc : ∀ w' cs', Hold w0 B w' (.blk g (.cells (encX url (padOf raw)) 220) :: .blk gd (.cells cs' t) :: L) → kB.C w' A ts.length ts) (hok : ∀ k ∈ ts, okC url raw k = true) :
    Calls Tryz.prog 193 #[.pointer (some ⟨g, 0, none⟩), .slice D m cap, .slice A ts.length c] w fun e w' => DPost w0 B L url raw g gd t cs e w' (decAll url raw ts) := by
  have hml : m ≤ 1000000000 := by rw [hm]; unfold decLen; split <;> omega
  have HH := Aside0.mk H
  rcases Nat.eq_zero_or_pos ts.length with h0 | h0
  · have hts : ts = [] := List.eq_nil_of_length_eq_zero h0
    subst hts
    clear hsrc hok hD hA H hm
    go_enter Tryz.func193, Tryz.ntmps193
    go_wp2
    go_ret2
    exact ⟨rfl, cs, Wrote.refl cs, HH.out⟩
  · have hA' := hA h0
    subst hA'
    have HRg := Aside0.mk H.rangeD
    have HSz := Aside0.mk (sizeD url)
    have HSR := Aside0.mk hsrc
    have HOk := Aside0.mk hok
    have HM := Aside0.mk hm
    have HD := Aside0.mk hD
    have HFit := Aside0.mk hfit
    have hu79 := Tryz.underlying220
    clear hA hsrc hok H hm hD hfit
    go_enter Tryz.func193, Tryz.ntmps193
    go_upto_block 0 with ((with_reducible refine at_dst (N := 24) rfl ?_); refine wpList_load_mid rfl 114 (.tmp 23) rfl g 64 rfl ((decX url).map bV) _ HRg.out Tryz.underlying114 rfl HSz.out ?_)
    go_cut [6, 7, 8, 9, 10, 11, 12] from 25 (fun s6 s7 s8 s9 s10 s11 s12 wc => ∃ (si n : Nat), s6 = .int .i64 n ∧ s7 = .nilIface ∧ s8 = .int .i64 si ∧ DSt w0 B L url raw g gd t m ts cs si n wc)
    case first =>
      go_wp2_with fail
      go_loopw [6, 7, 8] (fun v6 v7 v8 wr => ∃ (si n : Nat), v6 = .int .i64 n ∧ v7 = .nilIface ∧ v8 = .int .i64 si ∧ DSt w0 B L url raw g gd t m ts cs si n wr) (fun _ _ v8 _ => ts.length - (intOf v8).toNat)
      case atStart => exact ⟨0, 0, rfl, rfl, rfl, ⟨by omega, fun _ => ⟨rfl, rfl⟩, by omega, [], cs, rfl, Wrote.refl cs, by simp, HH.out⟩⟩
      case round =>
        obtain ⟨si, n, rfl, rfl, rfl, hS⟩ := hrel
        have HS := Aside0.mk hS
        have hle := hS.le
        have hnm := hS.nm
        clear hS
        by_cases hlt : 8 ≤ ts.length - si ∧ 8 ≤ m - n
        · obtain ⟨hl1, hl2⟩ := hlt
          have q1_ : (8 : Int) ≤ (ts.length : Int) - (si : Int) := by omega
          have q2_ : (8 : Int) ≤ (m : Int) - (n : Int) := by omega
          have hD := HD.out (by omega)
          subst hD
          obtain ⟨done, cs', hd, hW, hA, hH⟩ := HS.out.ex
          have hC := HSR.out wr cs' hH
          have hal := HS.out.al (by omega)
          obtain ⟨x0, hx0⟩ : ∃ x, x = ts[si + 0]'(by omega) := ⟨_, rfl⟩
          have e0 : wr.cell? ⟨b, o + si + 0, none⟩ = some (.int .u8 (x0.toNat : Int)) := by
            rw [hx0, Nat.add_assoc]
            exact cell_of_C hC (si + 0) (by omega)
          obtain ⟨x1, hx1⟩ : ∃ x, x = ts[si + 1]'(by omega) := ⟨_, rfl⟩
          have e1 : wr.cell? ⟨b, o + si + 1, none⟩ = some (.int .u8 (x1.toNat : Int)) := by
            rw [hx1, Nat.add_assoc]
            exact cell_of_C hC (si + 1) (by omega)
          obtain ⟨x2, hx2⟩ : ∃ x, x = ts[si + 2]'(by omega) := ⟨_, rfl⟩
          have e2 : wr.cell? ⟨b, o + si + 2, none⟩ = some (.int .u8 (x2.toNat : Int)) := by
            rw [hx2, Nat.add_assoc]
            exact cell_of_C hC (si + 2) (by omega)
          obtain ⟨x3, hx3⟩ : ∃ x, x = ts[si + 3]'(by omega) := ⟨_, rfl⟩
          have e3 : wr.cell? ⟨b, o + si + 3, none⟩ = some (.int .u8 (x3.toNat : Int)) := by
            rw [hx3, Nat.add_assoc]
            exact cell_of_C hC (si + 3) (by omega)
          obtain ⟨x4, hx4⟩ : ∃ x, x = ts[si + 4]'(by omega) := ⟨_, rfl⟩
          have e4 : wr.cell? ⟨b, o + si + 4, none⟩ = some (.int .u8 (x4.toNat : Int)) := by
            rw [hx4, Nat.add_assoc]
            exact cell_of_C hC (si + 4) (by omega)
          obtain ⟨x5, hx5⟩ : ∃ x, x = ts[si + 5]'(by omega) := ⟨_, rfl⟩
          have e5 : wr.cell? ⟨b, o + si + 5, none⟩ = some (.int .u8 (x5.toNat : Int)) := by
            rw [hx5, Nat.add_assoc]
            exact cell_of_C hC (si + 5) (by omega)
          obtain ⟨x6, hx6⟩ : ∃ x, x = ts[si + 6]'(by omega) := ⟨_, rfl⟩
          have e6 : wr.cell? ⟨b, o + si + 6, none⟩ = some (.int .u8 (x6.toNat : Int)) := by
            rw [hx6, Nat.add_assoc]
            exact cell_of_C hC (si + 6) (by omega)
          obtain ⟨x7, hx7⟩ : ∃ x, x = ts[si + 7]'(by omega) := ⟨_, rfl⟩
          have e7 : wr.cell? ⟨b, o + si + 7, none⟩ = some (.int .u8 (x7.toNat : Int)) := by
            rw [hx7, Nat.add_assoc]
            exact cell_of_C hC (si + 7) (by omega)
          rw [Nat.add_zero] at e0
          have d0 := hH.dcell x0
          obtain ⟨q0, hq0⟩ : ∃ q, q = dX url x0 := ⟨_, rfl⟩
          rw [← hq0] at d0
          have b0 : (x0.toNat : Int) < 256 := by have := x0.toNat_lt; omega
          have d1 := hH.dcell x1
          obtain ⟨q1, hq1⟩ : ∃ q, q = dX url x1 := ⟨_, rfl⟩
          rw [← hq1] at d1
          have b1 : (x1.toNat : Int) < 256 := by have := x1.toNat_lt; omega
          have d2 := hH.dcell x2
          obtain ⟨q2, hq2⟩ : ∃ q, q = dX url x2 := ⟨_, rfl⟩
          rw [← hq2] at d2
          have b2 : (x2.toNat : Int) < 256 := by have := x2.toNat_lt; omega
          have d3 := hH.dcell x3
          obtain ⟨q3, hq3⟩ : ∃ q, q = dX url x3 := ⟨_, rfl⟩
          rw [← hq3] at d3
          have b3 : (x3.toNat : Int) < 256 := by have := x3.toNat_lt; omega
          have d4 := hH.dcell x4
          obtain ⟨q4, hq4⟩ : ∃ q, q = dX url x4 := ⟨_, rfl⟩
          rw [← hq4] at d4
          have b4 : (x4.toNat : Int) < 256 := by have := x4.toNat_lt; omega
          have d5 := hH.dcell x5
          obtain ⟨q5, hq5⟩ : ∃ q, q = dX url x5 := ⟨_, rfl⟩
          rw [← hq5] at d5
          have b5 : (x5.toNat : Int) < 256 := by have := x5.toNat_lt; omega
          have d6 := hH.dcell x6
          obtain ⟨q6, hq6⟩ : ∃ q, q = dX url x6 := ⟨_, rfl⟩
          rw [← hq6] at d6
          have b6 : (x6.toNat : Int) < 256 := by have := x6.toNat_lt; omega
          have d7 := hH.dcell x7
          obtain ⟨q7, hq7⟩ : ∃ q, q = dX url x7 := ⟨_, rfl⟩
          rw [← hq7] at d7
          have b7 : (x7.toNat : Int) < 256 := by have := x7.toNat_lt; omega
          have HX : Aside0 (ts[si + 0]? = some x0 ∧ ts[si + 1]? = some x1 ∧ ts[si + 2]? = some x2 ∧ ts[si + 3]? = some x3 ∧ ts[si + 4]? = some x4 ∧ ts[si + 5]? = some x5 ∧ ts[si + 6]? = some x6 ∧ ts[si + 7]? = some x7) := ⟨⟨by rw [hx0]; exact List.getElem?_eq_getElem _, by rw [hx1]; exact List.getElem?_eq_getElem _, by rw [hx2]; exact List.getElem?_eq_getElem _, by rw [hx3]; exact List.getElem?_eq_getElem _, by rw [hx4]; exact List.getElem?_eq_getElem _, by rw [hx5]; exact List.getElem?_eq_getElem _, by rw [hx6]; exact List.getElem?_eq_getElem _, by rw [hx7]; exact List.getElem?_eq_getElem _⟩⟩
          have HQ : Aside0 (q0 = dX url x0 ∧ q1 = dX url x1 ∧ q2 = dX url x2 ∧ q3 = dX url x3 ∧ q4 = dX url x4 ∧ q5 = dX url x5 ∧ q6 = dX url x6 ∧ q7 = dX url x7) := ⟨⟨hq0, hq1, hq2, hq3, hq4, hq5, hq6, hq7⟩⟩
          have HE := Aside0.mk (And.intro hd (And.intro hW (And.intro hA (And.intro hH hal))))
          clear hd hW hA hH hC hal hx0 hx1 hx2 hx3 hx4 hx5 hx6 hx7 hq0 hq1 hq2 hq3 hq4 hq5 hq6 hq7
          by_cases hv : ∃ q ∈ [q0, q1, q2, q3, q4, q5, q6, q7], q = 255
          · as_aux_lemma =>
            have HA64 : Aside0 (∀ w', Calls Tryz.prog 197 #[.int .u8 (q0.toNat : Int), .int .u8 (q1.toNat : Int), .int .u8 (q2.toNat : Int), .int .u8 (q3.toNat : Int), .int .u8 (q4.toNat : Int), .int .u8 (q5.toNat : Int), .int .u8 (q6.toNat : Int), .int .u8 (q7.toNat : Int)] w' fun e w2 => e = .returned (.tuple #[.int .u64 0, .bool false]) ∧ w2 = w') := ⟨fun w' => (asm64_no w' q0 q1 q2 q3 q4 q5 q6 q7 hv).mono (fun e w2 h => ⟨h.1, h.2.symm⟩)⟩
            clear hv
            go_wp2
            refine wp_region_quiet_lit (by kernel_rfl) (by kernel_rfl) ?_
            (try dsimp only [List.append])
            repeat (go_big_quiet_step (first | (go_at_call 197; refine Calls.quiet_of_same (HA64.out _))))
            refine wpQuiet_nil ?_
            intro wq hw'
            obtain ⟨nq, hw''⟩ := hw'
            subst hw''
            obtain ⟨wq, hwq⟩ : ∃ wq, wq = wr.drewN nq := ⟨_, rfl⟩
            have HWQ : Aside0 (∀ {L'}, Hold w0 B wr L' → Hold w0 B wq L') := ⟨fun h => by rw [hwq]; exact h.drewN nq⟩
            rw [← hwq]
            clear hwq e0 e1 e2 e3 e4 e5 e6 e7 d0 d1 d2 d3 d4 d5 d6 d7 b0 b1 b2 b3 b4 b5 b6 b7
            obtain ⟨done, cs', hd, hW, hA, hH⟩ := HS.out.ex
            have hal := HS.out.al (by omega)
            have hcs : cs'.size = cs.size := hW.size
            have hfit := HFit.out
            have hmm := HM.out
            have hQ := fun (ml cp : Nat) (D' : Option Addr) (e0 : ml = m - n) (h : 0 < ml → D' = some ⟨gd, n, none⟩) => quantS_any (w0 := w0) (B := B) (L := L) wq url raw g gd n b o ts.length c ml cp t si D' ts cs' hn h (by omega) hne (HWQ.out hH) (HSR.out _ _ (HWQ.out hH)) HOk.out (by omega) (fun h4 => by rw [e0, hmm]; unfold decLen; split <;> omega) (fun hr => by subst hr; rw [e0, hmm]; unfold decLen padOf; simp only [if_true]; omega)
            have hstep : ∀ bs k cs2 w', decStep url raw (ts.drop si) = some (bs, k) → Wrote cs' cs2 n bs → Hold w0 B w' (.blk g (.cells (encX url (padOf raw)) 220) :: .blk gd (.cells cs2 t) :: L) → DSt w0 B L url raw g gd t m ts cs (si + k) (n + bs.length) w' := fun bs k cs2 w' h1 h2 h3 => DSt.step hmm (by omega) hal hd hW hA h1 h2 h3
            have hnone : decStep url raw (ts.drop si) = none → decAll url raw ts = none := fun h => by
              have hne0 : ts.drop si ≠ [] := by
                intro e0
                have := congrArg List.length e0
                rw [List.length_drop] at this
                simp at this
                omega
              rw [hA, decAll_step _ _ _ hne0, h]
              rfl
            have HQ2 := Aside0.mk hQ
            have HSt := Aside0.mk hstep
            have HNo := Aside0.mk hnone
            clear hd hW hA hH hal hcs hfit hmm hQ hstep hnone
            go_wp2_with fail
            refine (HQ2.out (m - n) _ _ rfl (fun _ => rfl)).mono ?_
            cases hds : decStep url raw (ts.drop si) with
            | none =>
              have HN0 := Aside0.mk (HNo.out hds)
              clear hds
              rintro e w2 ⟨⟨s, k, t', v, rfl⟩, cs2, _, hH2⟩
              have HH2 := Aside0.mk hH2
              clear hH2
              go_wp2
              go_ret2
              rw [HN0.out]
              exact ⟨⟨_, _, _, rfl⟩, cs2, HH2.out⟩
            | some q =>
              obtain ⟨bs, k⟩ := q
              obtain ⟨f1, f0, f2, f3, f4⟩ := decStep_facts hds
              rw [List.length_drop] at f1
              rintro e w2 ⟨rfl, cs2, hW2, hH2⟩
              have HD2 := Aside0.mk (HSt.out bs k cs2 w2 hds hW2 hH2)
              have hk4 : k ≤ ts.length := by omega
              obtain ⟨bl, hbl⟩ : ∃ bl, bl = bs.length := ⟨_, rfl⟩
              obtain ⟨s2, hs2⟩ : ∃ s2, s2 = si + k := ⟨_, rfl⟩
              simp only []
              rw [← hbl] at f4 ⊢
              rw [← hs2]
              have HB := Aside0.mk (And.intro hbl hs2)
              have hsl : s2 ≤ 1000000000 := by omega
              have hdec : ts.length - s2 < ts.length - si := by omega
              have HDc := Aside0.mk hdec
              clear hds hW2 hH2 f1 f0 f2 f3 hk4 hbl hs2 hdec
              go_wp2
              obtain ⟨e1, e2⟩ := HB.out
              refine ⟨⟨s2, n + bl, ?_, rfl, rfl, ?_⟩, ?_⟩
              · first | rfl | (rw [Int.natCast_add]; rfl) | (rw [Nat.zero_add])
              · rw [e1, e2]; exact HD2.out
              · have := HDc.out; simpa [intOf] using this
          · as_aux_lemma =>
            have hv' : q0 ≠ 255 ∧ q1 ≠ 255 ∧ q2 ≠ 255 ∧ q3 ≠ 255 ∧ q4 ≠ 255 ∧ q5 ≠ 255 ∧ q6 ≠ 255 ∧ q7 ≠ 255 := ⟨fun h => hv ⟨q0, by simp, h⟩, fun h => hv ⟨q1, by simp, h⟩, fun h => hv ⟨q2, by simp, h⟩, fun h => hv ⟨q3, by simp, h⟩, fun h => hv ⟨q4, by simp, h⟩, fun h => hv ⟨q5, by simp, h⟩, fun h => hv ⟨q6, by simp, h⟩, fun h => hv ⟨q7, by simp, h⟩⟩
            obtain ⟨v0, v1, v2, v3, v4, v5, v6, v7⟩ := hv'
            obtain ⟨z0, z1, z2, z3, z4, z5, z6, z7⟩ := HQ.out
            have u0_ : q0.toNat < 64 := by rw [z0]; exact dX_lt url x0 (by rw [← z0]; exact v0)
            have u1_ : q1.toNat < 64 := by rw [z1]; exact dX_lt url x1 (by rw [← z1]; exact v1)
            have u2_ : q2.toNat < 64 := by rw [z2]; exact dX_lt url x2 (by rw [← z2]; exact v2)
            have u3_ : q3.toNat < 64 := by rw [z3]; exact dX_lt url x3 (by rw [← z3]; exact v3)
            have u4_ : q4.toNat < 64 := by rw [z4]; exact dX_lt url x4 (by rw [← z4]; exact v4)
            have u5_ : q5.toNat < 64 := by rw [z5]; exact dX_lt url x5 (by rw [← z5]; exact v5)
            have u6_ : q6.toNat < 64 := by rw [z6]; exact dX_lt url x6 (by rw [← z6]; exact v6)
            have u7_ : q7.toNat < 64 := by rw [z7]; exact dX_lt url x7 (by rw [← z7]; exact v7)
            obtain ⟨V, hV⟩ : ∃ V : Nat, V = (n24 q0 q1 q2 q3 * 1099511627776 + n24 q4 q5 q6 q7 * 65536) := ⟨_, rfl⟩
            have HA64 : Aside0 (∀ w', Calls Tryz.prog 197 #[.int .u8 (q0.toNat : Int), .int .u8 (q1.toNat : Int), .int .u8 (q2.toNat : Int), .int .u8 (q3.toNat : Int), .int .u8 (q4.toNat : Int), .int .u8 (q5.toNat : Int), .int .u8 (q6.toNat : Int), .int .u8 (q7.toNat : Int)] w' fun e w2 => e = .returned (.tuple #[.int .u64 (V : Int), .bool true]) ∧ w2 = w') := ⟨fun w' => by
              rw [hV]
              exact (asm64_ok w' q0 q1 q2 q3 q4 q5 q6 q7 u0_ u1_ u2_ u3_ u4_ u5_ u6_ u7_).mono (fun e w2 h => ⟨h.1, h.2.symm⟩)⟩
            have HVb : Aside0 ((be8 V).take 6 = [byA q0 q1, byB q1 q2, byC q2 q3, byA q4 q5, byB q5 q6, byC q6 q7].map bV) := ⟨by
              obtain ⟨a0, a1, a2, a3⟩ := by24 q0 q1 q2 q3 u0_ u1_ u2_ u3_
              obtain ⟨c0, c1, c2, c3⟩ := by24 q4 q5 q6 q7 u4_ u5_ u6_ u7_
              rw [hV, be8_bytes _ _ a0 c0, a1, a2, a3, c1, c2, c3]
              rfl⟩
            have HVv : Aside0 (dX url x0 ≠ 255 ∧ dX url x1 ≠ 255 ∧ dX url x2 ≠ 255 ∧ dX url x3 ≠ 255 ∧ dX url x4 ≠ 255 ∧ dX url x5 ≠ 255 ∧ dX url x6 ≠ 255 ∧ dX url x7 ≠ 255) := ⟨⟨by rw [← z0]; exact v0, by rw [← z1]; exact v1, by rw [← z2]; exact v2, by rw [← z3]; exact v3, by rw [← z4]; exact v4, by rw [← z5]; exact v5, by rw [← z6]; exact v6, by rw [← z7]; exact v7⟩⟩
            clear hv hV v0 v1 v2 v3 v4 v5 v6 v7 z0 z1 z2 z3 z4 z5 z6 z7 u0_ u1_ u2_ u3_ u4_ u5_ u6_ u7_
            go_wp2
            refine wp_region_quiet_lit (by kernel_rfl) (by kernel_rfl) ?_
            (try dsimp only [List.append])
            repeat (go_big_quiet_step (first | (go_at_call 197; refine Calls.quiet_of_same (HA64.out _))))
            refine wpQuiet_nil ?_
            intro wq hw'
            obtain ⟨nq, hw''⟩ := hw'
            subst hw''
            obtain ⟨wq, hwq⟩ : ∃ wq, wq = wr.drewN nq := ⟨_, rfl⟩
            have HWQ : Aside0 (∀ {L'}, Hold w0 B wr L' → Hold w0 B wq L') := ⟨fun h => by rw [hwq]; exact h.drewN nq⟩
            rw [← hwq]
            clear hwq e0 e1 e2 e3 e4 e5 e6 e7 d0 d1 d2 d3 d4 d5 d6 d7 b0 b1 b2 b3 b4 b5 b6 b7
            obtain ⟨hd, hW, hA, hH, hal⟩ := HE.out
            have hcs : cs'.size = cs.size := hW.size
            have hfit := HFit.out
            have hsz : n + 8 ≤ cs'.size := by omega
            have HP := Aside0.mk (fun (cp : Nat) => bput64_any (w0 := w0) (B := B) wq gd n (m - n) cp t V cs' (by omega) hsz (HWQ.out hH).swap)
            have HSz2 := Aside0.mk hsz
            clear hd hW hA hH hal hcs hfit hsz
            go_wp2_with fail
            refine (HP.out _).mono ?_
            rintro e w2 ⟨rfl, hH2⟩
            have HH2 := Aside0.mk hH2.swap
            clear hH2
            go_wp2
            refine ⟨⟨si + 8, n + 6, ?_, rfl, ?_, ?_⟩, ?_⟩
            · first | rfl | (rw [Int.natCast_add]; rfl)
            · first | rfl | (rw [Int.natCast_add]; rfl)
            · obtain ⟨hd, hW, hA, hH, hal⟩ := HE.out
              obtain ⟨g0, g1, g2, g3, g4, g5, g6, g7⟩ := HX.out
              obtain ⟨z0, z1, z2, z3, z4, z5, z6, z7⟩ := HQ.out
              obtain ⟨v0, v1, v2, v3, v4, v5, v6, v7⟩ := HVv.out
              have hWp : Wrote cs' (putN cs' n (be8 V)) n [byA q0 q1, byB q1 q2, byC q2 q3, byA q4 q5, byB q5 q6, byC q6 q7] := wrote_put cs' n (be8 V) _ 8 HVb.out rfl HSz2.out
              refine DSt.adv (bs := [byA q0 q1, byB q1 q2, byC q2 q3, byA q4 q5, byB q5 q6, byC q6 q7]) (k := 8) hal hd hW hA (by omega) (by simp) (by simp only [List.length_cons, List.length_nil]; omega) ?_ hWp HH2.out
              rw [Nat.add_zero] at g0
              have hdrop : ts.drop si = x0 :: x1 :: x2 :: x3 :: x4 :: x5 :: x6 :: x7 :: ts.drop (si + 8) := by rw [drop_at g0, drop_at g1, drop_at g2, drop_at g3, drop_at g4, drop_at g5, drop_at g6, drop_at g7]
              rw [hdrop, decAll4 v0 v1 v2 v3, decAll4 v4 v5 v6 v7, z0, z1, z2, z3, z4, z5, z6, z7]
              (try (cases decAll url raw (ts.drop (si + 8)) <;> rfl))
            · simp [intOf]; omega
        · have q1_ : ¬ ((8 : Int) ≤ (ts.length : Int) - (si : Int)) ∨ ((8 : Int) ≤ (ts.length : Int) - (si : Int) ∧ ¬ ((8 : Int) ≤ (m : Int) - (n : Int))) := by
            rcases Nat.lt_or_ge (ts.length - si) 8 with h | h
            · exact .inl (by omega)
            · exact .inr (by omega)
          rcases q1_ with q1_ | ⟨q1_, q2_⟩
          all_goals
            go_wp2
            go_meet
            case rel => exact ⟨si, n, rfl, rfl, rfl, HS.out⟩
    case rest =>
      obtain ⟨si, n, rfl, rfl, rfl, hS⟩ := hcut
      have HS := Aside0.mk hS
      have hle := hS.le
      have hnm := hS.nm
      clear hS
      go_upto_block 2 with fail
      go_cut [6, 7, 8, 13, 14, 15, 16] from 25 (fun s6 s7 s8 s13 s14 s15 s16 wc => ∃ (si n : Nat), s6 = .int .i64 n ∧ s7 = .nilIface ∧ s8 = .int .i64 si ∧ DSt w0 B L url raw g gd t m ts cs si n wc)
      case first =>
        go_wp2_with fail
        go_loopw [6, 7, 8] (fun v6 v7 v8 wr => ∃ (si n : Nat), v6 = .int .i64 n ∧ v7 = .nilIface ∧ v8 = .int .i64 si ∧ DSt w0 B L url raw g gd t m ts cs si n wr) (fun _ _ v8 _ => ts.length - (intOf v8).toNat)
        case atStart => exact ⟨si, n, rfl, rfl, rfl, HS.out⟩
        case round =>
          clear HS hle hnm
          obtain ⟨si, n, rfl, rfl, rfl, hS⟩ := hrel
          have HS := Aside0.mk hS
          have hle := hS.le
          have hnm := hS.nm
          clear hS
          by_cases hlt : 4 ≤ ts.length - si ∧ 4 ≤ m - n
          · obtain ⟨hl1, hl2⟩ := hlt
            have q1_ : (4 : Int) ≤ (ts.length : Int) - (si : Int) := by omega
            have q2_ : (4 : Int) ≤ (m : Int) - (n : Int) := by omega
            have hD := HD.out (by omega)
            subst hD
            obtain ⟨done, cs', hd, hW, hA, hH⟩ := HS.out.ex
            have hC := HSR.out wr cs' hH
            have hal := HS.out.al (by omega)
            obtain ⟨x0, hx0⟩ : ∃ x, x = ts[si + 0]'(by omega) := ⟨_, rfl⟩
            have e0 : wr.cell? ⟨b, o + si + 0, none⟩ = some (.int .u8 (x0.toNat : Int)) := by
              rw [hx0, Nat.add_assoc]
              exact cell_of_C hC (si + 0) (by omega)
            obtain ⟨x1, hx1⟩ : ∃ x, x = ts[si + 1]'(by omega) := ⟨_, rfl⟩
            have e1 : wr.cell? ⟨b, o + si + 1, none⟩ = some (.int .u8 (x1.toNat : Int)) := by
              rw [hx1, Nat.add_assoc]
              exact cell_of_C hC (si + 1) (by omega)
            obtain ⟨x2, hx2⟩ : ∃ x, x = ts[si + 2]'(by omega) := ⟨_, rfl⟩
            have e2 : wr.cell? ⟨b, o + si + 2, none⟩ = some (.int .u8 (x2.toNat : Int)) := by
              rw [hx2, Nat.add_assoc]
              exact cell_of_C hC (si + 2) (by omega)
            obtain ⟨x3, hx3⟩ : ∃ x, x = ts[si + 3]'(by omega) := ⟨_, rfl⟩
            have e3 : wr.cell? ⟨b, o + si + 3, none⟩ = some (.int .u8 (x3.toNat : Int)) := by
              rw [hx3, Nat.add_assoc]
              exact cell_of_C hC (si + 3) (by omega)
            rw [Nat.add_zero] at e0
            have d0 := hH.dcell x0
            obtain ⟨q0, hq0⟩ : ∃ q, q = dX url x0 := ⟨_, rfl⟩
            rw [← hq0] at d0
            have b0 : (x0.toNat : Int) < 256 := by have := x0.toNat_lt; omega
            have d1 := hH.dcell x1
            obtain ⟨q1, hq1⟩ : ∃ q, q = dX url x1 := ⟨_, rfl⟩
            rw [← hq1] at d1
            have b1 : (x1.toNat : Int) < 256 := by have := x1.toNat_lt; omega
            have d2 := hH.dcell x2
            obtain ⟨q2, hq2⟩ : ∃ q, q = dX url x2 := ⟨_, rfl⟩
            rw [← hq2] at d2
            have b2 : (x2.toNat : Int) < 256 := by have := x2.toNat_lt; omega
            have d3 := hH.dcell x3
            obtain ⟨q3, hq3⟩ : ∃ q, q = dX url x3 := ⟨_, rfl⟩
            rw [← hq3] at d3
            have b3 : (x3.toNat : Int) < 256 := by have := x3.toNat_lt; omega
            have HX : Aside0 (ts[si + 0]? = some x0 ∧ ts[si + 1]? = some x1 ∧ ts[si + 2]? = some x2 ∧ ts[si + 3]? = some x3) := ⟨⟨by rw [hx0]; exact List.getElem?_eq_getElem _, by rw [hx1]; exact List.getElem?_eq_getElem _, by rw [hx2]; exact List.getElem?_eq_getElem _, by rw [hx3]; exact List.getElem?_eq_getElem _⟩⟩
            have HQ : Aside0 (q0 = dX url x0 ∧ q1 = dX url x1 ∧ q2 = dX url x2 ∧ q3 = dX url x3) := ⟨⟨hq0, hq1, hq2, hq3⟩⟩
            have HE := Aside0.mk (And.intro hd (And.intro hW (And.intro hA (And.intro hH hal))))
            clear hd hW hA hH hC hal hx0 hx1 hx2 hx3 hq0 hq1 hq2 hq3
            by_cases hv : ∃ q ∈ [q0, q1, q2, q3], q = 255
            · as_aux_lemma =>
              have HA64 : Aside0 (∀ w', Calls Tryz.prog 200 #[.int .u8 (q0.toNat : Int), .int .u8 (q1.toNat : Int), .int .u8 (q2.toNat : Int), .int .u8 (q3.toNat : Int)] w' fun e w2 => e = .returned (.tuple #[.int .u32 0, .bool false]) ∧ w2 = w') := ⟨fun w' => (asm32_no w' q0 q1 q2 q3 hv).mono (fun e w2 h => ⟨h.1, h.2.symm⟩)⟩
              clear hv
              go_wp2
              refine wp_region_quiet_lit (by kernel_rfl) (by kernel_rfl) ?_
              repeat (go_big_quiet_step (first | (go_at_call 200; refine Calls.quiet_of_same (HA64.out _))))
              refine wpQuiet_nil ?_
              intro wq hw'
              obtain ⟨nq, hw''⟩ := hw'
              subst hw''
              obtain ⟨wq, hwq⟩ : ∃ wq, wq = wr.drewN nq := ⟨_, rfl⟩
              have HWQ : Aside0 (∀ {L'}, Hold w0 B wr L' → Hold w0 B wq L') := ⟨fun h => by rw [hwq]; exact h.drewN nq⟩
              rw [← hwq]
              clear hwq e0 e1 e2 e3 d0 d1 d2 d3 b0 b1 b2 b3
              obtain ⟨done, cs', hd, hW, hA, hH⟩ := HS.out.ex
              have hal := HS.out.al (by omega)
              have hcs : cs'.size = cs.size := hW.size
              have hfit := HFit.out
              have hmm := HM.out
              have hQ := fun (ml cp : Nat) (D' : Option Addr) (e0 : ml = m - n) (h : 0 < ml → D' = some ⟨gd, n, none⟩) => quantS_any (w0 := w0) (B := B) (L := L) wq url raw g gd n b o ts.length c ml cp t si D' ts cs' hn h (by omega) hne (HWQ.out hH) (HSR.out _ _ (HWQ.out hH)) HOk.out (by omega) (fun h4 => by rw [e0, hmm]; unfold decLen; split <;> omega) (fun hr => by subst hr; rw [e0, hmm]; unfold decLen padOf; simp only [if_true]; omega)
              have hstep : ∀ bs k cs2 w', decStep url raw (ts.drop si) = some (bs, k) → Wrote cs' cs2 n bs → Hold w0 B w' (.blk g (.cells (encX url (padOf raw)) 220) :: .blk gd (.cells cs2 t) :: L) → DSt w0 B L url raw g gd t m ts cs (si + k) (n + bs.length) w' := fun bs k cs2 w' h1 h2 h3 => DSt.step hmm (by omega) hal hd hW hA h1 h2 h3
              have hnone : decStep url raw (ts.drop si) = none → decAll url raw ts = none := fun h => by
                have hne0 : ts.drop si ≠ [] := by
                  intro e0
                  have := congrArg List.length e0
                  rw [List.length_drop] at this
                  simp at this
                  omega
                rw [hA, decAll_step _ _ _ hne0, h]
                rfl
              have HQ2 := Aside0.mk hQ
              have HSt := Aside0.mk hstep
              have HNo := Aside0.mk hnone
              clear hd hW hA hH hal hcs hfit hmm hQ hstep hnone
              go_wp2_with fail
              refine (HQ2.out (m - n) _ _ rfl (fun _ => rfl)).mono ?_
              cases hds : decStep url raw (ts.drop si) with
              | none =>
                have HN0 := Aside0.mk (HNo.out hds)
                clear hds
                rintro e w2 ⟨⟨s, k, t', v, rfl⟩, cs2, _, hH2⟩
                have HH2 := Aside0.mk hH2
                clear hH2
                go_wp2
                go_ret2
                rw [HN0.out]
                exact ⟨⟨_, _, _, rfl⟩, cs2, HH2.out⟩
              | some q =>
                obtain ⟨bs, k⟩ := q
                obtain ⟨f1, f0, f2, f3, f4⟩ := decStep_facts hds
                rw [List.length_drop] at f1
                rintro e w2 ⟨rfl, cs2, hW2, hH2⟩
                have HD2 := Aside0.mk (HSt.out bs k cs2 w2 hds hW2 hH2)
                have hk4 : k ≤ ts.length := by omega
                obtain ⟨bl, hbl⟩ : ∃ bl, bl = bs.length := ⟨_, rfl⟩
                obtain ⟨s2, hs2⟩ : ∃ s2, s2 = si + k := ⟨_, rfl⟩
                simp only []
                rw [← hbl] at f4 ⊢
                rw [← hs2]
                have HB := Aside0.mk (And.intro hbl hs2)
                have hsl : s2 ≤ 1000000000 := by omega
                have hdec : ts.length - s2 < ts.length - si := by omega
                have HDc := Aside0.mk hdec
                clear hds hW2 hH2 f1 f0 f2 f3 hk4 hbl hs2 hdec
                go_wp2
                obtain ⟨e1, e2⟩ := HB.out
                refine ⟨⟨s2, n + bl, ?_, rfl, rfl, ?_⟩, ?_⟩
                · first | rfl | (rw [Int.natCast_add]; rfl) | (rw [Nat.zero_add])
                · rw [e1, e2]; exact HD2.out
                · have := HDc.out; simpa [intOf] using this
            · as_aux_lemma =>
              have hv' : q0 ≠ 255 ∧ q1 ≠ 255 ∧ q2 ≠ 255 ∧ q3 ≠ 255 := ⟨fun h => hv ⟨q0, by simp, h⟩, fun h => hv ⟨q1, by simp, h⟩, fun h => hv ⟨q2, by simp, h⟩, fun h => hv ⟨q3, by simp, h⟩⟩
              obtain ⟨v0, v1, v2, v3⟩ := hv'
              obtain ⟨z0, z1, z2, z3⟩ := HQ.out
              have u0_ : q0.toNat < 64 := by rw [z0]; exact dX_lt url x0 (by rw [← z0]; exact v0)
              have u1_ : q1.toNat < 64 := by rw [z1]; exact dX_lt url x1 (by rw [← z1]; exact v1)
              have u2_ : q2.toNat < 64 := by rw [z2]; exact dX_lt url x2 (by rw [← z2]; exact v2)
              have u3_ : q3.toNat < 64 := by rw [z3]; exact dX_lt url x3 (by rw [← z3]; exact v3)
              obtain ⟨V, hV⟩ : ∃ V : Nat, V = (n24 q0 q1 q2 q3 * 256) := ⟨_, rfl⟩
              have HA64 : Aside0 (∀ w', Calls Tryz.prog 200 #[.int .u8 (q0.toNat : Int), .int .u8 (q1.toNat : Int), .int .u8 (q2.toNat : Int), .int .u8 (q3.toNat : Int)] w' fun e w2 => e = .returned (.tuple #[.int .u32 (V : Int), .bool true]) ∧ w2 = w') := ⟨fun w' => by
                rw [hV]
                exact (asm32_ok w' q0 q1 q2 q3 u0_ u1_ u2_ u3_).mono (fun e w2 h => ⟨h.1, h.2.symm⟩)⟩
              have HVb : Aside0 ((be4 V).take 3 = [byA q0 q1, byB q1 q2, byC q2 q3].map bV) := ⟨by
                obtain ⟨a0, a1, a2, a3⟩ := by24 q0 q1 q2 q3 u0_ u1_ u2_ u3_
                rw [hV, be4_bytes _ a0, a1, a2, a3]
                rfl⟩
              have HVv : Aside0 (dX url x0 ≠ 255 ∧ dX url x1 ≠ 255 ∧ dX url x2 ≠ 255 ∧ dX url x3 ≠ 255) := ⟨⟨by rw [← z0]; exact v0, by rw [← z1]; exact v1, by rw [← z2]; exact v2, by rw [← z3]; exact v3⟩⟩
              clear hv hV v0 v1 v2 v3 z0 z1 z2 z3 u0_ u1_ u2_ u3_
              go_wp2
              refine wp_region_quiet_lit (by kernel_rfl) (by kernel_rfl) ?_
              repeat (go_big_quiet_step (first | (go_at_call 200; refine Calls.quiet_of_same (HA64.out _))))
              refine wpQuiet_nil ?_
              intro wq hw'
              obtain ⟨nq, hw''⟩ := hw'
              subst hw''
              obtain ⟨wq, hwq⟩ : ∃ wq, wq = wr.drewN nq := ⟨_, rfl⟩
              have HWQ : Aside0 (∀ {L'}, Hold w0 B wr L' → Hold w0 B wq L') := ⟨fun h => by rw [hwq]; exact h.drewN nq⟩
              rw [← hwq]
              clear hwq e0 e1 e2 e3 d0 d1 d2 d3 b0 b1 b2 b3
              obtain ⟨hd, hW, hA, hH, hal⟩ := HE.out
              have hcs : cs'.size = cs.size := hW.size
              have hfit := HFit.out
              have hsz : n + 4 ≤ cs'.size := by omega
              have HP := Aside0.mk (fun (cp : Nat) => put32_any (w0 := w0) (B := B) wq gd n (m - n) cp t V cs' (by omega) hsz (HWQ.out hH).swap)
              have HSz2 := Aside0.mk hsz
              clear hd hW hA hH hal hcs hfit hsz
              go_wp2_with fail
              refine (HP.out _).mono ?_
              rintro e w2 ⟨rfl, hH2⟩
              have HH2 := Aside0.mk hH2.swap
              clear hH2
              go_wp2
              refine ⟨⟨si + 4, n + 3, ?_, rfl, ?_, ?_⟩, ?_⟩
              · first | rfl | (rw [Int.natCast_add]; rfl)
              · first | rfl | (rw [Int.natCast_add]; rfl)
              · obtain ⟨hd, hW, hA, hH, hal⟩ := HE.out
                obtain ⟨g0, g1, g2, g3⟩ := HX.out
                obtain ⟨z0, z1, z2, z3⟩ := HQ.out
                obtain ⟨v0, v1, v2, v3⟩ := HVv.out
                have hWp : Wrote cs' (putN cs' n (be4 V)) n [byA q0 q1, byB q1 q2, byC q2 q3] := wrote_put cs' n (be4 V) _ 4 HVb.out rfl HSz2.out
                refine DSt.adv (bs := [byA q0 q1, byB q1 q2, byC q2 q3]) (k := 4) hal hd hW hA (by omega) (by simp) (by simp only [List.length_cons, List.length_nil]; omega) ?_ hWp HH2.out
                rw [Nat.add_zero] at g0
                have hdrop : ts.drop si = x0 :: x1 :: x2 :: x3 :: ts.drop (si + 4) := by rw [drop_at g0, drop_at g1, drop_at g2, drop_at g3]
                rw [hdrop, decAll4 v0 v1 v2 v3, z0, z1, z2, z3]
                (try (cases decAll url raw (ts.drop (si + 4)) <;> rfl))
              · simp [intOf]; omega
          · have q1_ : ¬ ((4 : Int) ≤ (ts.length : Int) - (si : Int)) ∨ ((4 : Int) ≤ (ts.length : Int) - (si : Int) ∧ ¬ ((4 : Int) ≤ (m : Int) - (n : Int))) := by
              rcases Nat.lt_or_ge (ts.length - si) 4 with h | h
              · exact .inl (by omega)
              · exact .inr (by omega)
            rcases q1_ with q1_ | ⟨q1_, q2_⟩
            all_goals
              go_wp2
              go_meet
              case rel => exact ⟨si, n, rfl, rfl, rfl, HS.out⟩
      case rest =>
        clear HS hle hnm
        obtain ⟨si, n, rfl, rfl, rfl, hS⟩ := hcut
        have HS := Aside0.mk hS
        have hle := hS.le
        have hnm := hS.nm
        clear hS
        go_wp2_with fail
        go_loopw [6, 7, 8] (fun v6 v7 v8 wr => ∃ (si n : Nat), v6 = .int .i64 n ∧ v7 = .nilIface ∧ v8 = .int .i64 si ∧ DSt w0 B L url raw g gd t m ts cs si n wr) (fun _ _ v8 _ => ts.length - (intOf v8).toNat)
        case atStart => exact ⟨si, n, rfl, rfl, rfl, HS.out⟩
        case round =>
          clear HS hle hnm
          obtain ⟨si, n, rfl, rfl, rfl, hS⟩ := hrel
          have HS := Aside0.mk hS
          have hle := hS.le
          have hnm := hS.nm
          clear hS
          by_cases hlt : si < ts.length
          · have q1_ : (si : Int) < (ts.length : Int) := by omega
            obtain ⟨wq, hwq⟩ : ∃ wq, wq = wr := ⟨_, rfl⟩
            have HWQ : Aside0 (∀ {L'}, Hold w0 B wr L' → Hold w0 B wq L') := ⟨fun h => by rw [hwq]; exact h⟩
            rw [← hwq]
            clear hwq
            obtain ⟨done, cs', hd, hW, hA, hH⟩ := HS.out.ex
            have hal := HS.out.al (by omega)
            have hcs : cs'.size = cs.size := hW.size
            have hfit := HFit.out
            have hmm := HM.out
            have hQ := fun (ml cp : Nat) (D' : Option Addr) (e0 : ml = m - n) (h : 0 < ml → D' = some ⟨gd, n, none⟩) => quantS_any (w0 := w0) (B := B) (L := L) wq url raw g gd n b o ts.length c ml cp t si D' ts cs' hn h (by omega) hne (HWQ.out hH) (HSR.out _ _ (HWQ.out hH)) HOk.out (by omega) (fun h4 => by rw [e0, hmm]; unfold decLen; split <;> omega) (fun hr => by subst hr; rw [e0, hmm]; unfold decLen padOf; simp only [if_true]; omega)
            have hstep : ∀ bs k cs2 w', decStep url raw (ts.drop si) = some (bs, k) → Wrote cs' cs2 n bs → Hold w0 B w' (.blk g (.cells (encX url (padOf raw)) 220) :: .blk gd (.cells cs2 t) :: L) → DSt w0 B L url raw g gd t m ts cs (si + k) (n + bs.length) w' := fun bs k cs2 w' h1 h2 h3 => DSt.step hmm (by omega) hal hd hW hA h1 h2 h3
            have hnone : decStep url raw (ts.drop si) = none → decAll url raw ts = none := fun h => by
              have hne0 : ts.drop si ≠ [] := by
                intro e0
                have := congrArg List.length e0
                rw [List.length_drop] at this
                simp at this
                omega
              rw [hA, decAll_step _ _ _ hne0, h]
              rfl
            have HQ2 := Aside0.mk hQ
            have HSt := Aside0.mk hstep
            have HNo := Aside0.mk hnone
            clear hd hW hA hH hal hcs hfit hmm hQ hstep hnone
            rcases Nat.eq_zero_or_pos m with hm0 | hm0
            · have hn0 : n = 0 := by omega
              subst hm0
              subst hn0
              rcases Nat.eq_zero_or_pos cap with hc0 | hc0
              · subst hc0
                rcases D with _ | ad
                all_goals
                  go_wp2_with fail
                  refine (HQ2.out 0 _ _ rfl (fun h => absurd h (by omega))).mono ?_
                  cases hds : decStep url raw (ts.drop si) with
                  | none =>
                    have HN0 := Aside0.mk (HNo.out hds)
                    clear hds
                    rintro e w2 ⟨⟨s, k, t', v, rfl⟩, cs2, _, hH2⟩
                    have HH2 := Aside0.mk hH2
                    clear hH2
                    go_wp2
                    go_ret2
                    rw [HN0.out]
                    exact ⟨⟨_, _, _, rfl⟩, cs2, HH2.out⟩
                  | some q =>
                    obtain ⟨bs, k⟩ := q
                    obtain ⟨f1, f0, f2, f3, f4⟩ := decStep_facts hds
                    rw [List.length_drop] at f1
                    rintro e w2 ⟨rfl, cs2, hW2, hH2⟩
                    have HD2 := Aside0.mk (HSt.out bs k cs2 w2 hds hW2 hH2)
                    have hk4 : k ≤ ts.length := by omega
                    obtain ⟨bl, hbl⟩ : ∃ bl, bl = bs.length := ⟨_, rfl⟩
                    obtain ⟨s2, hs2⟩ : ∃ s2, s2 = si + k := ⟨_, rfl⟩
                    simp only []
                    rw [← hbl] at f4 ⊢
                    rw [← hs2]
                    have HB := Aside0.mk (And.intro hbl hs2)
                    have hsl : s2 ≤ 1000000000 := by omega
                    have hdec : ts.length - s2 < ts.length - si := by omega
                    have HDc := Aside0.mk hdec
                    clear hds hW2 hH2 f1 f0 f2 f3 hk4 hbl hs2 hdec
                    go_wp2
                    obtain ⟨e1, e2⟩ := HB.out
                    refine ⟨⟨s2, 0 + bl, ?_, rfl, rfl, ?_⟩, ?_⟩
                    · first | rfl | (rw [Int.natCast_add]; rfl) | (rw [Nat.zero_add])
                    · rw [e1, e2]; exact HD2.out
                    · have := HDc.out; simpa [intOf] using this
              · have hcne : ¬ cap = 0 := by omega
                rcases D with _ | ad
                all_goals
                  go_wp2_with fail
                  refine (HQ2.out 0 _ _ rfl (fun h => absurd h (by omega))).mono ?_
                  cases hds : decStep url raw (ts.drop si) with
                  | none =>
                    have HN0 := Aside0.mk (HNo.out hds)
                    clear hds
                    rintro e w2 ⟨⟨s, k, t', v, rfl⟩, cs2, _, hH2⟩
                    have HH2 := Aside0.mk hH2
                    clear hH2
                    go_wp2
                    go_ret2
                    rw [HN0.out]
                    exact ⟨⟨_, _, _, rfl⟩, cs2, HH2.out⟩
                  | some q =>
                    obtain ⟨bs, k⟩ := q
                    obtain ⟨f1, f0, f2, f3, f4⟩ := decStep_facts hds
                    rw [List.length_drop] at f1
                    rintro e w2 ⟨rfl, cs2, hW2, hH2⟩
                    have HD2 := Aside0.mk (HSt.out bs k cs2 w2 hds hW2 hH2)
                    have hk4 : k ≤ ts.length := by omega
                    obtain ⟨bl, hbl⟩ : ∃ bl, bl = bs.length := ⟨_, rfl⟩
                    obtain ⟨s2, hs2⟩ : ∃ s2, s2 = si + k := ⟨_, rfl⟩
                    simp only []
                    rw [← hbl] at f4 ⊢
                    rw [← hs2]
                    have HB := Aside0.mk (And.intro hbl hs2)
                    have hsl : s2 ≤ 1000000000 := by omega
                    have hdec : ts.length - s2 < ts.length - si := by omega
                    have HDc := Aside0.mk hdec
                    clear hds hW2 hH2 f1 f0 f2 f3 hk4 hbl hs2 hdec
                    go_wp2
                    obtain ⟨e1, e2⟩ := HB.out
                    refine ⟨⟨s2, 0 + bl, ?_, rfl, rfl, ?_⟩, ?_⟩
                    · first | rfl | (rw [Int.natCast_add]; rfl) | (rw [Nat.zero_add])
                    · rw [e1, e2]; exact HD2.out
                    · have := HDc.out; simpa [intOf] using this
            · have hD := HD.out hm0
              subst hD
              rcases Nat.lt_or_ge n cap with hnc | hnc
              · have hcne : ¬ cap = n := by omega
                go_wp2_with fail
                refine (HQ2.out (m - n) _ _ rfl (fun _ => rfl)).mono ?_
                cases hds : decStep url raw (ts.drop si) with
                | none =>
                  have HN0 := Aside0.mk (HNo.out hds)
                  clear hds
                  rintro e w2 ⟨⟨s, k, t', v, rfl⟩, cs2, _, hH2⟩
                  have HH2 := Aside0.mk hH2
                  clear hH2
                  go_wp2
                  go_ret2
                  rw [HN0.out]
                  exact ⟨⟨_, _, _, rfl⟩, cs2, HH2.out⟩
                | some q =>
                  obtain ⟨bs, k⟩ := q
                  obtain ⟨f1, f0, f2, f3, f4⟩ := decStep_facts hds
                  rw [List.length_drop] at f1
                  rintro e w2 ⟨rfl, cs2, hW2, hH2⟩
                  have HD2 := Aside0.mk (HSt.out bs k cs2 w2 hds hW2 hH2)
                  have hk4 : k ≤ ts.length := by omega
                  obtain ⟨bl, hbl⟩ : ∃ bl, bl = bs.length := ⟨_, rfl⟩
                  obtain ⟨s2, hs2⟩ : ∃ s2, s2 = si + k := ⟨_, rfl⟩
                  simp only []
                  rw [← hbl] at f4 ⊢
                  rw [← hs2]
                  have HB := Aside0.mk (And.intro hbl hs2)
                  have hsl : s2 ≤ 1000000000 := by omega
                  have hdec : ts.length - s2 < ts.length - si := by omega
                  have HDc := Aside0.mk hdec
                  clear hds hW2 hH2 f1 f0 f2 f3 hk4 hbl hs2 hdec
                  go_wp2
                  obtain ⟨e1, e2⟩ := HB.out
                  refine ⟨⟨s2, n + bl, ?_, rfl, rfl, ?_⟩, ?_⟩
                  · first | rfl | (rw [Int.natCast_add]; rfl) | (rw [Nat.zero_add])
                  · rw [e1, e2]; exact HD2.out
                  · have := HDc.out; simpa [intOf] using this
              · obtain rfl : n = cap := by omega
                go_wp2_with fail
                refine (HQ2.out 0 _ _ (by omega) (fun h => absurd h (by omega))).mono ?_
                cases hds : decStep url raw (ts.drop si) with
                | none =>
                  have HN0 := Aside0.mk (HNo.out hds)
                  clear hds
                  rintro e w2 ⟨⟨s, k, t', v, rfl⟩, cs2, _, hH2⟩
                  have HH2 := Aside0.mk hH2
                  clear hH2
                  go_wp2
                  go_ret2
                  rw [HN0.out]
                  exact ⟨⟨_, _, _, rfl⟩, cs2, HH2.out⟩
                | some q =>
                  obtain ⟨bs, k⟩ := q
                  obtain ⟨f1, f0, f2, f3, f4⟩ := decStep_facts hds
                  rw [List.length_drop] at f1
                  rintro e w2 ⟨rfl, cs2, hW2, hH2⟩
                  have HD2 := Aside0.mk (HSt.out bs k cs2 w2 hds hW2 hH2)
                  have hk4 : k ≤ ts.length := by omega
                  obtain ⟨bl, hbl⟩ : ∃ bl, bl = bs.length := ⟨_, rfl⟩
                  obtain ⟨s2, hs2⟩ : ∃ s2, s2 = si + k := ⟨_, rfl⟩
                  simp only []
                  rw [← hbl] at f4 ⊢
                  rw [← hs2]
                  have HB := Aside0.mk (And.intro hbl hs2)
                  have hsl : s2 ≤ 1000000000 := by omega
                  have hdec : ts.length - s2 < ts.length - si := by omega
                  have HDc := Aside0.mk hdec
                  clear hds hW2 hH2 f1 f0 f2 f3 hk4 hbl hs2 hdec
                  go_wp2
                  obtain ⟨e1, e2⟩ := HB.out
                  refine ⟨⟨s2, n + bl, ?_, rfl, rfl, ?_⟩, ?_⟩
                  · first | rfl | (rw [Int.natCast_add]; rfl) | (rw [Nat.zero_add])
                  · rw [e1, e2]; exact HD2.out
                  · have := HDc.out; simpa [intOf] using this
          · have hsi : si = ts.length := by omega
            have q1_ : ¬ ((si : Int) < (ts.length : Int)) := by omega
            obtain ⟨done, cs', hd, hW, hA, hH⟩ := HS.out.ex
            have hA2 : decAll url raw ts = some done := by
              rw [hA, hsi, List.drop_length]
              simp [decAll]
            have HE := Aside0.mk (And.intro hA2 (And.intro hd (And.intro hW hH)))
            clear hA hA2 hW hH hd
            go_wp2
            go_ret2
            obtain ⟨hA2, hd, hW, hH⟩ := HE.out
            rw [hA2]
            exact ⟨by rw [← hd] <;> rfl, cs', hW, hH⟩
end Go.Proofs.YtdldblfklalaeaaGreatDoor
namespace Go.Proofs.YtdldblfklalaeaaGreatDoor
open Go.RowKit Go.Proofs.YtdldblfklalaeaaGreatDoorW.PrintWords Go.Lib
set_option linter.unusedVariables false
set_option maxRecDepth 100000
set_option linter.unusedSimpArgs false
def tsZ : List UInt8 := [90, 109, 56]
def bsZ : List UInt8 := [102, 111]
set_option maxRecDepth 100000 in
set_option maxHeartbeats 2000000 in
theorem defDecZ_any (w : World) (b o c : Nat) (hc : 3 ≤ c) (hC : kB.C w (some ⟨b, o, none⟩) 3 tsZ) :
    Calls Tryz.prog 187 #[.agg #[], .slice (some ⟨b, o, none⟩) 3 c] w fun e w' => ∃ v, e = .returned (.tuple #[v, .nilIface]) ∧ Hold w w.heap.size w' [.row kB 5 v bsZ] := by
  have HC := Aside0.mk hC
  have H0 := Aside0.mk ((Hold.start w).alloc_ (.cells #[] 182))
  have hg : guessOf tsZ = 4 := by decide +kernel
  clear hC
  go_enter Tryz.func187, Tryz.ntmps187
  go_wp2_with fail
  refine (guess_any _ _ 3 c tsZ hc (H0.out.C HC.out)).mono ?_
  rw [hg]
  rintro e w1 ⟨rfl, hH⟩
  have H1 := Aside0.mk (H0.out.of_below hH.below)
  clear hH hg
  go_wp2_with fail
  refine (rawURL_any _).mono ?_
  rintro e w2 ⟨g, rfl, hH⟩
  have H2 := Aside0.mk (H1.out.app hH)
  clear hH
  go_wp2_with fail
  refine (decodedLenM_any (L := []) _ true (-1) g 3 (by decide) H2.out).mono ?_
  rintro e w3 ⟨rfl, rfl⟩
  go_upto_region 13 with ((with_reducible refine at_dst (N := 29) rfl ?_); refine Hold.make (enc := bV) (h1 := fun _ => rfl) H2.out 5 rfl rfl 30 (.tmp 28) (.tmp 28) rfl ((2 : Int)) rfl rfl Tryz.underlying30 (0 : UInt8) 1 infoB rfl (by omega) (by decide) (by decide) ?_; intro v_ _ H3'; have H3 := Aside0.mk H3'; clear H3' H2)
  have H4 : Hold w w.heap.size _ [.row kB 5 v_ (List.replicate 2 0), .blk g (.cells (encX true (-1)) 220)] := H3.out
  obtain ⟨gd, cd, cs, rfl, hmc, hcm, hcs, _, hB⟩ := H4.toBlk 0 rfl (by decide)
  have HB := Aside0.mk (Hold.swap hB)
  have hne : g ≠ gd := HB.out.blk_ne 0 1 rfl rfl (by decide)
  have hmc' : 2 ≤ cd := hmc
  have hfit : 2 ≤ cs.size := by omega
  clear hB H4 hmc
  go_wp2_with fail
  refine (dec3_any (L := []) _ true g gd b o c cd 5 tsZ cs hfit hne HB.out (HB.out.C HC.out) 90 109 56 rfl rfl rfl (by decide +kernel) (by decide +kernel) (by decide +kernel)).mono ?_
  rintro e w4 ⟨rfl, cs', hW, hH⟩
  have hbs : [byA (dX true 90) (dX true 109), byB (dX true 109) (dX true 56)] = bsZ := by decide +kernel
  rw [hbs] at hW
  have h := hH.blkRow (enc := bV) (h1 := fun _ => rfl) 1 rfl (n := 2) (cap := cd) (xs := bsZ) (by rw [hW.size]; exact hcs) hmc' hcm (by
    have := hW.pre
    simpa [bsZ] using this) rfl
  have HH := Aside0.mk (h.pick [1] (by decide) (L' := [.row kB 5 (.slice (some ⟨gd, 0, none⟩) 2 cd) bsZ]) rfl)
  clear hW hH h hbs
  go_wp2
  go_ret2
  exact ⟨_, rfl, HH.out⟩
theorem getDec_any (w : World) : Calls Tryz.prog 90 #[] w fun e w' => e = .returned (.iface 182 (.agg #[])) ∧ w = w' := by
  go_enter Tryz.func90, Tryz.ntmps90
  go_wp2
  go_ret
  exact ⟨rfl, rfl⟩
set_option maxHeartbeats 1000000 in
theorem dec64Z_any (w : World) (b o c : Nat) (hc : 3 ≤ c) (hC : kB.C w (some ⟨b, o, none⟩) 3 tsZ) :
    Calls Tryz.prog 66 #[.slice (some ⟨b, o, none⟩) 3 c] w fun e w' => ∃ v, e = .returned (.tuple #[v, .nilIface]) ∧ Hold w w.heap.size w' [.row kB 5 v bsZ] := by
  go_enter Tryz.func66, Tryz.ntmps66
  go_wp2_with fail
  refine (getDec_any _).mono ?_
  rintro e w1 ⟨rfl, rfl⟩
  go_wp2_with fail
  refine (defDecZ_any _ b o c hc hC).mono ?_
  rintro e w2 ⟨v, rfl, hH⟩
  have HH := Aside0.mk hH
  clear hH hC
  go_wp2
  go_ret2
  exact ⟨_, rfl, HH.out⟩
set_option maxHeartbeats 1000000 in
theorem decodedZ_any (w : World) (A : Option Addr) (c : Nat) (hC : kB.C w A 3 tsZ) :
    Calls Tryz.prog 30 #[.slice A 3 c] w fun e w' => ∃ v, e = .returned (.tuple #[v, .bool true]) ∧ Hold w w.heap.size w' [.row kB 5 v bsZ] := by
  have HC := Aside0.mk hC
  clear hC
  go_enter Tryz.func30, Tryz.ntmps30
  go_wp2_with fail
  refine (bclone_any _ A _ c tsZ (by decide) HC.out).mono ?_
  rintro e w1 ⟨v, rfl, hH⟩
  obtain ⟨b, c1, A1, rfl, hb, hc1, hC1⟩ := hH.clone
  obtain rfl := hb (by decide)
  have H1 := Aside0.mk hH
  have HC1 : Aside0 (kB.C w1 (some ⟨b, 0, none⟩) 3 tsZ) := ⟨hC1⟩
  have hc1' : 3 ≤ c1 := hc1
  clear hH hb hC1 hc1
  go_wp2_with fail
  refine (dec64Z_any _ b 0 c1 hc1' HC1.out).mono ?_
  rintro e w2 ⟨v, rfl, hH⟩
  have H2 := Aside0.mk ((H1.out.app hH).pick [0] (by decide) (L' := [.row kB 5 v bsZ]) rfl)
  clear hH
  go_wp2
  go_ret2
  exact ⟨_, rfl, H2.out⟩
end Go.Proofs.YtdldblfklalaeaaGreatDoor
namespace Go.Proofs.YtdldblfklalaeaaGreatDoor
open Go.RowKit Go.Proofs.YtdldblfklalaeaaGreatDoorW.PrintWords Go.Lib
set_option linter.unusedVariables false
set_option linter.unusedSimpArgs false
/-- A row: nil, or at the beginning of a block. -/
theorem Hold.nilOr {w0 w : World} {B : Nat} {L : List Asrt} {e : Nat} {v : Value} {xs : List UInt8} (hS : Hold w0 B w (.row kB e v xs :: L)) :
    (v = .slice none 0 0 ∧ xs = []) ∨ ∃ g c, v = .slice (some ⟨g, 0, none⟩) xs.length c ∧ xs.length ≤ c := by
  obtain ⟨f, hp, hb⟩ := hS.get 0 rfl
  obtain ⟨h0, inner, ho, hr⟩ := hp
  rcases ho.2 with ⟨hv, hn⟩ | ⟨g, cap, cur, rfl, _, hh, hnc, hcm, hcs, htake⟩
  · exact .inl ⟨hv, List.eq_nil_of_length_eq_zero hn⟩
  · exact .inr ⟨g, cap, rfl, hnc⟩
theorem growRoom_any (w : World) (A : Option Addr) (l c n : Nat) (hc : c ≤ 9223372036854775807) (hl : l ≤ c) (hn : n ≤ 2000000000) (hr : l + n ≤ c) :
    Calls Tryz.prog 207 #[.slice A l c, .int .i64 n] w fun e w' => e = .returned (.slice A l c) ∧ w = w' := by
  have h2 : wrap64 ((c : Int) - (l : Int)) = (c : Int) - (l : Int) := by unfold wrap64; omega
  have h3 : wrap64 ((n : Int) - ((c : Int) - (l : Int))) = (n : Int) - ((c : Int) - (l : Int)) := by unfold wrap64; omega
  go_enter Tryz.func207, Tryz.ntmps207
  go_wp2
  go_ret
  exact ⟨rfl, rfl⟩
def GrewTo (w : World) (l c n : Nat) (cs : List Value) (e : Ending) (w' : World) : Prop := ∃ G ds, l + n ≤ G ∧ G ≤ maxLen ∧ ds.size = G ∧ ds.toList.take c = cs ∧
      e = .returned (.slice (some ⟨w.heap.size, 0, none⟩) l G) ∧ w' = w.drew.alloc (.cells ds 5)
set_option maxHeartbeats 4000000 in
set_option maxRecDepth 100000 in
theorem growMore_any (w : World) (base : Option Addr) (l c n : Nat) (cs : List Value) (hlc : l ≤ c) (hc : c ≤ 1000000000000) (hn : n ≤ 2000000000) (hl : l ≤ 4000000000) (hroom : c < l + n)
    (hcl : cs.length = c) (hnil : base = none → c = 0) (hcs : ∀ a, base = some a → ∀ j v, cs[j]? = some v → w.cell? (a.add j) = some v) :
    Calls Tryz.prog 207 #[.slice base l c, .int .i64 n] w fun e w' => GrewTo w l c n cs e w' := by
  have h2 : wrap64 ((c : Int) - (l : Int)) = (c : Int) - (l : Int) := by unfold wrap64; omega
  have h3 : wrap64 ((n : Int) - ((c : Int) - (l : Int))) = (n : Int) - ((c : Int) - (l : Int)) := by unfold wrap64; omega
  obtain ⟨i0, hi0⟩ : ∃ i, Tryz.prog.info? 5 = some i := by
    have := infoB
    cases h : Tryz.prog.info? 5 with
    | none => rw [h] at this; simp at this
    | some i => exact ⟨i, rfl⟩
  have hinf := infoB
  rw [hi0] at hinf
  simp only [Option.map_some, Option.some.injEq, Prod.mk.injEq] at hinf
  obtain ⟨hz0, hs0, hb0⟩ := hinf
  have hck : c + (l + n - c) = l + n := by omega
  have hold : (Builtin.firstCells i0.size c (.slice base c c)).run Tryz.prog w.drew = .ok cs.toArray w.drew := by
    cases base with
    | none =>
      have h0 := hnil rfl
      subst h0
      have hc0 : cs = [] := List.length_eq_zero_iff.1 hcl
      rw [hc0]
      exact run_firstCells_none w.drew i0.size 0 0 0
    | some a => exact run_firstCells_some w.drew i0.size c a c c cs (by rw [hs0]; omega) (fun j v hj => hcs a rfl j v hj)
  have hrz : ∀ ty, (Builtin.append_ #[30, 3] ty #[.slice base c c, .int .i64 ((n : Int) - ((c : Int) - (l : Int)))]).run Tryz.prog w =
      .ok (.slice (some ⟨w.heap.size, 0, none⟩) (l + n) (grownCap w (l + n) c 5)) (w.drew.alloc (.cells (cs.toArray ++ Builtin.zeroCells (Value.int .u8 0).cells (l + n - c) ++ Builtin.zeroCells (Value.int .u8 0).cells (grownCap w (l + n) c 5 - (l + n))) 5)) := fun ty => by
    have h := Lib.run_append_grow_zeros w 30 3 ty 5 i0 _ .i64 .i64 Tryz.underlying30 Tryz.underlying3 hi0 hz0 base c c cs hold (l + n - c) (by omega) (by omega) (by omega) (by omega)
      (by rw [hb0]; omega)
      (by rw [hck]; exact growslice_fits hroom (by rw [hb0]; omega))
    rw [hck] at h
    rw [show (n : Int) - ((c : Int) - (l : Int)) = ((l + n - c : Nat) : Int) by omega]
    exact h
  have hGn : l + n ≤ grownCap w (l + n) c 5 := grownCap_ge w _ _ _
  have hGm := grownCap_le_maxLen w (l + n) c 5 (by unfold maxLen; omega)
  obtain ⟨G, hG⟩ : ∃ G, G = grownCap w (l + n) c 5 := ⟨_, rfl⟩
  rw [← hG] at hrz hGn hGm
  have hG63 : G ≤ 9223372036854775807 := by
    unfold maxLen at hGm
    omega
  obtain ⟨ds, hds⟩ : ∃ ds, ds = cs.toArray ++ Builtin.zeroCells (Value.int .u8 0).cells (l + n - c) ++ Builtin.zeroCells (Value.int .u8 0).cells (G - (l + n)) := ⟨_, rfl⟩
  have hsz : ds.size = G := by
    have hz1 : ∀ k, (Builtin.zeroCells (Value.int .u8 0).cells k).size = k := by
      intro k
      simp [Builtin.zeroCells, Value.cells]
    rw [hds, Array.size_append, Array.size_append, hz1, hz1]
    simp
    omega
  have htk : ds.toList.take c = cs := by
    rw [hds, Array.toList_append, Array.toList_append, List.append_assoc, List.take_append_of_le_length (by simp; omega)]
    simp [← hcl]
  rw [← hds] at hrz
  have HR := Aside0.mk (And.intro hGm (And.intro hsz htk))
  clear hold hck hG hcs hcl hGm hds hsz htk
  go_enter Tryz.func207, Tryz.ntmps207
  cases base with
  | none =>
    have h0 := hnil rfl
    subst h0
    obtain rfl : l = 0 := by omega
    go_wp2_with (at_builtin; refine Lib.wpList_append_run _ rfl _ _ _ _ rfl _ _ rfl rfl _ _ (hrz _) ?_)
    all_goals (go_ret; unfold GrewTo; exact ⟨G, ds, hGn, HR.out.1, HR.out.2.1, HR.out.2.2, rfl, rfl⟩)
  | some a =>
    obtain ⟨ab, ao, asp⟩ := a
    go_wp2_with (at_builtin; refine Lib.wpList_append_run _ rfl _ _ _ _ rfl _ _ rfl rfl _ _ (hrz _) ?_)
    all_goals (go_ret; unfold GrewTo; exact ⟨G, ds, hGn, HR.out.1, HR.out.2.1, HR.out.2.2, rfl, rfl⟩)
theorem grow_any {w0 : World} {B : Nat} {L : List Asrt} (w : World) (n : Nat) (v : Value) (xs : List UInt8) (hn : n ≤ 2000000000) (hx : xs.length ≤ 4000000000) (H : Hold w0 B w (.row kB 5 v xs :: L)) :
    Calls Tryz.prog 207 #[v, .int .i64 n] w fun e w' => ∃ A c, e = .returned (.slice A xs.length c) ∧ xs.length + n ≤ c ∧ c ≤ maxLen ∧ (0 < c → ∃ g, A = some ⟨g, 0, none⟩) ∧ Hold w0 B w' (.row kB 5 (.slice A xs.length c) xs :: L) := by
  rcases H.nilOr with ⟨rfl, rfl⟩ | ⟨g, c, rfl, hc⟩
  · rcases Nat.eq_zero_or_pos n with rfl | h0
    · refine (growRoom_any w none 0 0 0 (by omega) (by omega) hn (by omega)).mono ?_
      rintro e w' ⟨rfl, rfl⟩
      exact ⟨none, 0, rfl, by simp, by unfold maxLen; omega, fun h => absurd h (by omega), H⟩
    · refine (growMore_any w none 0 0 n [] (by omega) (by omega) hn (by omega) (by omega) rfl (fun _ => rfl) (fun a h => by cases h)).mono ?_
      rintro e w' ⟨G, ds, h1, h2, h3, h4, rfl, rfl⟩
      refine ⟨some ⟨w.heap.size, 0, none⟩, G, rfl, by simpa using h1, h2, fun _ => ⟨_, rfl⟩, ?_⟩
      have h := ((H.drew.tail).alloc (.cells ds 5)).blkRow (enc := bV) (h1 := fun _ => rfl) 0 rfl (n := 0) (cap := G) (xs := []) h3 (by omega) h2 (by simp) rfl
      exact h
  · obtain ⟨cs, hsz, hnc, hcm, ht, _, hB⟩ := H.rowOpen 0 rfl
    rcases Nat.lt_or_ge c (xs.length + n) with h0 | h0
    · have hcell : ∀ j v, cs.toList[j]? = some v → w.cell? ⟨g, j, none⟩ = some v := by
        intro j v hj
        have hjl : j < cs.size := by
          have := (List.getElem?_eq_some_iff.1 hj).1
          simpa using this
        have := (hB.cell 0 rfl j hjl).1
        rw [this]
        rw [List.getElem?_eq_getElem (by simpa using hjl)] at hj
        simpa using hj
      refine (growMore_any w (some ⟨g, 0, none⟩) xs.length c n cs.toList hc (by omega) hn hx h0 (by simpa using hsz) (fun h => by cases h) (fun a ha j v hj => by
        injection ha with ha
        subst ha
        have h1 := hcell j v hj
        unfold Addr.add
        by_cases hj0 : j = 0
        · subst hj0
          simpa using h1
        · simpa [hj0] using h1)).mono ?_
      rintro e w' ⟨G, ds, h1, h2, h3, h4, rfl, rfl⟩
      refine ⟨some ⟨w.heap.size, 0, none⟩, G, rfl, h1, h2, fun _ => ⟨_, rfl⟩, ?_⟩
      have htk : ds.toList.take xs.length = xs.map bV := by
        rw [← ht, ← h4, List.take_take, Nat.min_eq_left hc]
      have h := ((H.drew.tail).alloc (.cells ds 5)).blkRow (enc := bV) (h1 := fun _ => rfl) 0 rfl (n := xs.length) (cap := G) (xs := xs) h3 (by omega) h2 htk rfl
      exact h
    · refine (growRoom_any w (some ⟨g, 0, none⟩) xs.length c n (by unfold maxLen at hcm; omega) hc hn h0).mono ?_
      rintro e w' ⟨rfl, rfl⟩
      exact ⟨some ⟨g, 0, none⟩, c, rfl, h0, hcm, fun _ => ⟨g, rfl⟩, H⟩
end Go.Proofs.YtdldblfklalaeaaGreatDoor
namespace Go.Proofs.YtdldblfklalaeaaGreatDoor
open Go.RowKit Go.Proofs.YtdldblfklalaeaaGreatDoorW.PrintWords Go.Lib
set_option linter.unusedVariables false
set_option maxRecDepth 100000
set_option linter.unusedSimpArgs false
theorem decStep_bs {url raw : Bool} {rs bs : List UInt8} {k : Nat} (h : decStep url raw rs = some (bs, k)) : k ≤ rs.length ∧ bs.length + decLen (padOf raw) (rs.length - k) ≤ decLen (padOf raw) rs.length := by
  obtain ⟨h1, h0, h2, h3, h4⟩ := decStep_facts h
  refine ⟨h1, ?_⟩
  rcases Nat.lt_or_ge k rs.length with hl | hl
  · obtain ⟨rfl, e⟩ := h2 hl
    have : rs.length = 4 * 1 + (rs.length - 4) := by omega
    rw [e]
    conv => rhs; rw [this, decLen_le rfl]
    omega
  · have : rs.length - k = 0 := by omega
    rw [this]
    have hz : decLen (padOf raw) 0 = 0 := by cases raw <;> rfl
    omega
theorem decAll_len (url raw : Bool) : ∀ (n : Nat) (rs bs : List UInt8), rs.length ≤ n → decAll url raw rs = some bs → bs.length ≤ decLen (padOf raw) rs.length
  | 0, rs, bs, hn, h => by
    obtain rfl := List.eq_nil_of_length_eq_zero (Nat.le_zero.1 hn)
    simp only [decAll, Option.some.injEq] at h
    subst h
    simp
  | n + 1, rs, bs, hn, h => by
    rcases rs.eq_nil_or_concat with rfl | hne
    · simp only [decAll, Option.some.injEq] at h
      subst h
      simp
    · have hne0 : rs ≠ [] := by
        obtain ⟨a, b, rfl⟩ := hne
        simp
      rw [decAll_step _ _ _ hne0] at h
      cases hs : decStep url raw rs with
      | none => rw [hs] at h; simp at h
      | some q =>
        obtain ⟨b1, k⟩ := q
        rw [hs] at h
        simp only [Option.bind_some, Option.map_eq_some_iff] at h
        obtain ⟨b2, h2, rfl⟩ := h
        obtain ⟨g1, g2⟩ := decStep_bs hs
        have hk := (decStep_facts hs).2.1
        have ih := decAll_len url raw n (rs.drop k) b2 (by rw [List.length_drop]; omega) h2
        rw [List.length_drop] at ih
        rw [List.length_append]
        omega
theorem errNew_any (w : World) (s : ByteArray) :
    Calls Tryz.prog 100 #[.string s] w fun e w' => (∃ t v, e = .returned (.iface t v)) ∧ Hold w w.heap.size w' [] := by
  have hu := Tryz.underlying197
  have H1 := Aside0.mk ((Hold.start w).alloc_ (.cells #[.string s] 197))
  go_enter Tryz.func100, Tryz.ntmps100
  go_wp2
  go_ret
  exact ⟨⟨_, _, rfl⟩, H1.out⟩
/-- What is read, or an error. -/
def RPost (w : World) (e : Ending) (w' : World) : Option (List UInt8) → Prop
  | some bs => ∃ v, e = .returned (.tuple #[v, .nilIface]) ∧ Hold w w.heap.size w' [.row kB 5 v bs]
  | none => (∃ t v, e = .returned (.tuple #[.slice none 0 0, .iface t v])) ∧ Hold w w.heap.size w' []
set_option maxRecDepth 100000 in
set_option maxHeartbeats 4000000 in
theorem defDec_any (w : World) (raw : Bool) (A : Option Addr) (b o c : Nat) (ts : List UInt8) (hn : ts.length ≤ 1000000000) (hA : 0 < ts.length → A = some ⟨b, o, none⟩) (hc : ts.length ≤ c) (hC : kB.C w A ts.length ts)
    (hok : ∀ k ∈ ts, okC true raw k = true) (hg : guessOf ts = if raw then 4 else 2) :
    Calls Tryz.prog 187 #[.agg #[], .slice A ts.length c] w fun e w' => RPost w e w' (decAll true raw ts) := by
  obtain ⟨r, hr⟩ : ∃ r, r = decAll true raw ts := ⟨_, rfl⟩
  rw [← hr]
  have HR := Aside0.mk hr
  have HC := Aside0.mk hC
  have HA := Aside0.mk hA
  have HOk := Aside0.mk hok
  have HG := Aside0.mk hg
  have H0 := Aside0.mk ((Hold.start w).alloc (.cells #[] 182))
  have hml : decLen (padOf raw) ts.length ≤ 1000000000 := by unfold decLen; split <;> omega
  clear hC hA hok hg hr
  go_enter Tryz.func187, Tryz.ntmps187
  go_wp2_with fail
  refine (guess_any _ A _ c ts hc (H0.out.C HC.out)).mono ?_
  rw [HG.out]
  rintro e w1 ⟨rfl, hH⟩
  have H1 := Aside0.mk (H0.out.of_below hH.below)
  clear hH H0 HG
  cases raw with
  | false =>
    simp only [if_true, if_false, Bool.false_eq_true]
    go_wp2_with fail
    refine (url_any _).mono ?_
    rintro e w2 ⟨g, rfl, hH⟩
    have H2 := Aside0.mk (H1.out.app hH)
    clear hH H1
    go_wp2_with fail
    refine (decodedLenM_any (L := [.blk w.heap.size (.cells #[] 182)]) _ true _ g ts.length hn H2.out).mono ?_
    rintro e w3 ⟨rfl, rfl⟩
    obtain ⟨m, hm⟩ : ∃ m, m = decLen 61 ts.length := ⟨_, rfl⟩
    have hm' : m = decLen (padOf false) ts.length := hm
    rw [← hm]
    rw [← hm'] at hml
    have HM := Aside0.mk hm'
    have HBl : Aside0 (∀ bs, r = some bs → bs.length ≤ m) := ⟨fun bs h => by rw [hm']; exact decAll_len true false ts.length ts bs (Nat.le_refl _) (by rw [← HR.out]; exact h)⟩
    clear hm hm'
    go_upto_region 13 with ((with_reducible refine at_dst (N := 29) rfl ?_); refine Hold.make (enc := bV) (h1 := fun _ => rfl) H2.out 5 rfl rfl 30 (.tmp 28) (.tmp 28) rfl ((m : Int)) rfl rfl Tryz.underlying30 (0 : UInt8) 1 infoB rfl (by omega) (by omega) (by omega) ?_; intro v_ _ H3'; have H3 := Aside0.mk H3'; clear H3' H2)
    rw [Int.toNat_natCast] at H3
    rcases Nat.eq_zero_or_pos m with h0 | h0
    · subst h0
      have H4 : Hold w w.heap.size _ [.row kB 5 v_ [], .blk g (.cells (encX true 61) 220), .blk w.heap.size (.cells #[] 182)] := H3.out
      obtain ⟨A3, c3, hv, hc3, _⟩ := H4.reads 0 rfl
      have hv' : v_ = .slice A3 0 c3 := hv
      subst hv'
      have HT := Aside0.mk (H4.pick [1, 2, 0] (by decide) (L' := [.blk g (.cells (encX true 61) 220), .blk w.heap.size (.cells #[] 182), .row kB 5 (.slice A3 0 c3) []]) rfl)
      have hne : g ≠ w.heap.size := HT.out.blk_ne 0 1 rfl rfl (by decide)
      clear H4 hv hc3
      go_wp2_with fail
      refine (decode_any (w0 := w) (B := w.heap.size) (L := [.row kB 5 (.slice A3 0 c3) []]) _ true false g w.heap.size b o c 0 c3 182 A A3 ts #[] hn HA.out hc HM.out (fun h => absurd h (by omega)) (by omega) (by decide) hne HT.out (fun w' cs' h => h.C HC.out) HOk.out).mono ?_
      rw [← HR.out]
      cases r with
      | none =>
        rintro e w4 ⟨⟨k, t', v', rfl⟩, cs', hH⟩
        have H5 := Aside0.mk (hH.pick [] (by decide) (L' := []) rfl)
        clear hH
        go_wp2_with fail
        refine (errNew_any _ _).mono ?_
        rintro e w5 ⟨⟨t2, v2, rfl⟩, hH⟩
        have H6 := Aside0.mk (H5.out.app hH)
        clear hH
        go_wp2
        go_ret2
        exact ⟨⟨_, _, rfl⟩, H6.out⟩
      | some bs =>
        have hb0 : bs = [] := List.eq_nil_of_length_eq_zero (Nat.le_zero.1 (HBl.out bs rfl))
        subst hb0
        rintro e w4 ⟨rfl, cs', hW, hH⟩
        have H5 := Aside0.mk (hH.pick [2] (by decide) (L' := [.row kB 5 (.slice A3 0 c3) []]) rfl)
        clear hW hH
        go_wp2
        all_goals
        go_ret2
        exact ⟨_, rfl, H5.out⟩
    · have H4 : Hold w w.heap.size _ [.row kB 5 v_ (List.replicate m 0), .blk g (.cells (encX true 61) 220), .blk w.heap.size (.cells #[] 182)] := H3.out
      obtain ⟨gd, cd, cs, rfl, hmc, hcm, hcs, _, hB⟩ := H4.toBlk 0 rfl (fun e => by have := congrArg List.length e; rw [List.length_replicate] at this; simp at this; omega)
      rw [List.length_replicate] at hmc
      have HB := Aside0.mk ((hB.pick [1, 0] (by decide) (L' := [.blk g (.cells (encX true 61) 220), .blk gd (.cells cs 5)]) rfl))
      have hne : g ≠ gd := HB.out.blk_ne 0 1 rfl rfl (by decide)
      have Hfit : Aside0 (m ≤ cs.size ∧ cs.size = cd ∧ cd ≤ maxLen) := ⟨by omega, hcs, hcm⟩
      clear hB H4 hcs
      rw [List.length_replicate]
      have hcd : cd ≤ 9223372036854775807 := by unfold maxLen at hcm; omega
      clear hcm
      go_wp2_with fail
      refine (decode_any (w0 := w) (B := w.heap.size) (L := []) _ true false g gd b o c m cd 5 A _ ts cs hn HA.out hc HM.out (fun _ => rfl) hmc Hfit.out.1 hne HB.out (fun w' cs' h => h.C HC.out) HOk.out).mono ?_
      rw [← HR.out]
      cases r with
      | none =>
        rintro e w4 ⟨⟨k, t', v', rfl⟩, cs', hH⟩
        have H5 := Aside0.mk (hH.pick [] (by decide) (L' := []) rfl)
        clear hH
        go_wp2_with fail
        refine (errNew_any _ _).mono ?_
        rintro e w5 ⟨⟨t2, v2, rfl⟩, hH⟩
        have H6 := Aside0.mk (H5.out.app hH)
        clear hH
        go_wp2
        go_ret2
        exact ⟨⟨_, _, rfl⟩, H6.out⟩
      | some bs =>
        have hbl := HBl.out bs rfl
        rintro e w4 ⟨rfl, cs', hW, hH⟩
        have h := hH.blkRow (enc := bV) (h1 := fun _ => rfl) 1 rfl (n := bs.length) (cap := cd) (xs := bs) (by rw [hW.size]; exact Hfit.out.2.1) (by omega) Hfit.out.2.2 (by
          have := hW.pre
          simpa using this) rfl
        have HH := Aside0.mk (h.pick [1] (by decide) (L' := [.row kB 5 (.slice (some ⟨gd, 0, none⟩) bs.length cd) bs]) rfl)
        clear hW hH h
        obtain ⟨bl, hbl2⟩ : ∃ bl, bl = bs.length := ⟨_, rfl⟩
        rw [← hbl2] at HH hbl ⊢
        have HBB := Aside0.mk hbl2
        clear hbl2
        go_wp2
        go_ret2
        exact ⟨_, rfl, HH.out⟩
  | true =>
    simp only [if_true, if_false, Bool.false_eq_true]
    go_wp2_with fail
    refine (rawURL_any _).mono ?_
    rintro e w2 ⟨g, rfl, hH⟩
    have H2 := Aside0.mk (H1.out.app hH)
    clear hH H1
    go_wp2_with fail
    refine (decodedLenM_any (L := [.blk w.heap.size (.cells #[] 182)]) _ true _ g ts.length hn H2.out).mono ?_
    rintro e w3 ⟨rfl, rfl⟩
    obtain ⟨m, hm⟩ : ∃ m, m = decLen (-1) ts.length := ⟨_, rfl⟩
    have hm' : m = decLen (padOf true) ts.length := hm
    rw [← hm]
    rw [← hm'] at hml
    have HM := Aside0.mk hm'
    have HBl : Aside0 (∀ bs, r = some bs → bs.length ≤ m) := ⟨fun bs h => by rw [hm']; exact decAll_len true true ts.length ts bs (Nat.le_refl _) (by rw [← HR.out]; exact h)⟩
    clear hm hm'
    go_upto_region 13 with ((with_reducible refine at_dst (N := 29) rfl ?_); refine Hold.make (enc := bV) (h1 := fun _ => rfl) H2.out 5 rfl rfl 30 (.tmp 28) (.tmp 28) rfl ((m : Int)) rfl rfl Tryz.underlying30 (0 : UInt8) 1 infoB rfl (by omega) (by omega) (by omega) ?_; intro v_ _ H3'; have H3 := Aside0.mk H3'; clear H3' H2)
    rw [Int.toNat_natCast] at H3
    rcases Nat.eq_zero_or_pos m with h0 | h0
    · subst h0
      have H4 : Hold w w.heap.size _ [.row kB 5 v_ [], .blk g (.cells (encX true (-1)) 220), .blk w.heap.size (.cells #[] 182)] := H3.out
      obtain ⟨A3, c3, hv, hc3, _⟩ := H4.reads 0 rfl
      have hv' : v_ = .slice A3 0 c3 := hv
      subst hv'
      have HT := Aside0.mk (H4.pick [1, 2, 0] (by decide) (L' := [.blk g (.cells (encX true (-1)) 220), .blk w.heap.size (.cells #[] 182), .row kB 5 (.slice A3 0 c3) []]) rfl)
      have hne : g ≠ w.heap.size := HT.out.blk_ne 0 1 rfl rfl (by decide)
      clear H4 hv hc3
      go_wp2_with fail
      refine (decode_any (w0 := w) (B := w.heap.size) (L := [.row kB 5 (.slice A3 0 c3) []]) _ true true g w.heap.size b o c 0 c3 182 A A3 ts #[] hn HA.out hc HM.out (fun h => absurd h (by omega)) (by omega) (by decide) hne HT.out (fun w' cs' h => h.C HC.out) HOk.out).mono ?_
      rw [← HR.out]
      cases r with
      | none =>
        rintro e w4 ⟨⟨k, t', v', rfl⟩, cs', hH⟩
        have H5 := Aside0.mk (hH.pick [] (by decide) (L' := []) rfl)
        clear hH
        go_wp2_with fail
        refine (errNew_any _ _).mono ?_
        rintro e w5 ⟨⟨t2, v2, rfl⟩, hH⟩
        have H6 := Aside0.mk (H5.out.app hH)
        clear hH
        go_wp2
        go_ret2
        exact ⟨⟨_, _, rfl⟩, H6.out⟩
      | some bs =>
        have hb0 : bs = [] := List.eq_nil_of_length_eq_zero (Nat.le_zero.1 (HBl.out bs rfl))
        subst hb0
        rintro e w4 ⟨rfl, cs', hW, hH⟩
        have H5 := Aside0.mk (hH.pick [2] (by decide) (L' := [.row kB 5 (.slice A3 0 c3) []]) rfl)
        clear hW hH
        go_wp2
        all_goals
        go_ret2
        exact ⟨_, rfl, H5.out⟩
    · have H4 : Hold w w.heap.size _ [.row kB 5 v_ (List.replicate m 0), .blk g (.cells (encX true (-1)) 220), .blk w.heap.size (.cells #[] 182)] := H3.out
      obtain ⟨gd, cd, cs, rfl, hmc, hcm, hcs, _, hB⟩ := H4.toBlk 0 rfl (fun e => by have := congrArg List.length e; rw [List.length_replicate] at this; simp at this; omega)
      rw [List.length_replicate] at hmc
      have HB := Aside0.mk ((hB.pick [1, 0] (by decide) (L' := [.blk g (.cells (encX true (-1)) 220), .blk gd (.cells cs 5)]) rfl))
      have hne : g ≠ gd := HB.out.blk_ne 0 1 rfl rfl (by decide)
      have Hfit : Aside0 (m ≤ cs.size ∧ cs.size = cd ∧ cd ≤ maxLen) := ⟨by omega, hcs, hcm⟩
      clear hB H4 hcs
      rw [List.length_replicate]
      have hcd : cd ≤ 9223372036854775807 := by unfold maxLen at hcm; omega
      clear hcm
      go_wp2_with fail
      refine (decode_any (w0 := w) (B := w.heap.size) (L := []) _ true true g gd b o c m cd 5 A _ ts cs hn HA.out hc HM.out (fun _ => rfl) hmc Hfit.out.1 hne HB.out (fun w' cs' h => h.C HC.out) HOk.out).mono ?_
      rw [← HR.out]
      cases r with
      | none =>
        rintro e w4 ⟨⟨k, t', v', rfl⟩, cs', hH⟩
        have H5 := Aside0.mk (hH.pick [] (by decide) (L' := []) rfl)
        clear hH
        go_wp2_with fail
        refine (errNew_any _ _).mono ?_
        rintro e w5 ⟨⟨t2, v2, rfl⟩, hH⟩
        have H6 := Aside0.mk (H5.out.app hH)
        clear hH
        go_wp2
        go_ret2
        exact ⟨⟨_, _, rfl⟩, H6.out⟩
      | some bs =>
        have hbl := HBl.out bs rfl
        rintro e w4 ⟨rfl, cs', hW, hH⟩
        have h := hH.blkRow (enc := bV) (h1 := fun _ => rfl) 1 rfl (n := bs.length) (cap := cd) (xs := bs) (by rw [hW.size]; exact Hfit.out.2.1) (by omega) Hfit.out.2.2 (by
          have := hW.pre
          simpa using this) rfl
        have HH := Aside0.mk (h.pick [1] (by decide) (L' := [.row kB 5 (.slice (some ⟨gd, 0, none⟩) bs.length cd) bs]) rfl)
        clear hW hH h
        obtain ⟨bl, hbl2⟩ : ∃ bl, bl = bs.length := ⟨_, rfl⟩
        rw [← hbl2] at HH hbl ⊢
        have HBB := Aside0.mk hbl2
        clear hbl2
        go_wp2
        go_ret2
        exact ⟨_, rfl, HH.out⟩
set_option maxHeartbeats 1000000 in
theorem dec64_any (w : World) (raw : Bool) (A : Option Addr) (b o c : Nat) (ts : List UInt8) (hn : ts.length ≤ 1000000000) (hA : 0 < ts.length → A = some ⟨b, o, none⟩) (hc : ts.length ≤ c) (hC : kB.C w A ts.length ts)
    (hok : ∀ k ∈ ts, okC true raw k = true) (hg : guessOf ts = if raw then 4 else 2) :
    Calls Tryz.prog 66 #[.slice A ts.length c] w fun e w' => RPost w e w' (decAll true raw ts) := by
  obtain ⟨r, hr⟩ : ∃ r, r = decAll true raw ts := ⟨_, rfl⟩
  have HD := Aside0.mk (defDec_any w raw A b o c ts hn hA hc hC hok hg)
  rw [← hr] at HD ⊢
  clear hr hok hg hA hC
  go_enter Tryz.func66, Tryz.ntmps66
  go_wp2_with fail
  refine (getDec_any _).mono ?_
  rintro e w1 ⟨rfl, rfl⟩
  go_wp2_with fail
  refine HD.out.mono ?_
  cases r with
  | none =>
    rintro e w2 ⟨⟨t, v, rfl⟩, hH⟩
    have HH := Aside0.mk hH
    clear hH
    go_wp2
    go_ret2
    exact ⟨⟨_, _, rfl⟩, HH.out⟩
  | some bs =>
    rintro e w2 ⟨v, rfl, hH⟩
    have HH := Aside0.mk hH
    clear hH
    go_wp2
    go_ret2
    exact ⟨_, rfl, HH.out⟩
/-- What impl.Decoded gives. -/
def IPost (w : World) (e : Ending) (w' : World) : Option (List UInt8) → Prop
  | some bs => ∃ v, e = .returned (.tuple #[v, .bool true]) ∧ Hold w w.heap.size w' [.row kB 5 v bs]
  | none => e = .returned (.tuple #[.slice none 0 0, .bool false]) ∧ Hold w w.heap.size w' []
set_option maxHeartbeats 1000000 in
theorem decoded_any (w : World) (raw : Bool) (A : Option Addr) (n c : Nat) (ts : List UInt8) (hn : n ≤ 1000000000) (hC : kB.C w A n ts)
    (hok : ∀ k ∈ ts, okC true raw k = true) (hg : guessOf ts = if raw then 4 else 2) :
    Calls Tryz.prog 30 #[.slice A n c] w fun e w' => IPost w e w' (decAll true raw ts) := by
  obtain rfl := hC.1
  obtain ⟨r, hr⟩ : ∃ r, r = decAll true raw ts := ⟨_, rfl⟩
  have HC := Aside0.mk hC
  have HOk := Aside0.mk hok
  have HG := Aside0.mk hg
  rw [← hr]
  have HR := Aside0.mk hr
  clear hC hok hg hr
  go_enter Tryz.func30, Tryz.ntmps30
  go_wp2_with fail
  refine (bclone_any _ A _ c ts (by omega) HC.out).mono ?_
  rintro e w1 ⟨v, rfl, hH⟩
  obtain ⟨b, c1, A1, rfl, hb, hc1, hC1⟩ := hH.clone
  have H1 := Aside0.mk hH
  have HC1 := Aside0.mk hC1
  have HB := Aside0.mk hb
  clear hH hb hC1
  go_wp2_with fail
  refine (dec64_any _ raw A1 b 0 c1 ts hn HB.out hc1 HC1.out HOk.out HG.out).mono ?_
  rw [← HR.out]
  cases r with
  | none =>
    rintro e w2 ⟨⟨t, v, rfl⟩, hH⟩
    have H2 := Aside0.mk ((H1.out.app hH).pick [] (by decide) (L' := []) rfl)
    clear hH
    go_wp2
    go_ret2
    exact ⟨rfl, H2.out⟩
  | some bs =>
    rintro e w2 ⟨v, rfl, hH⟩
    have H2 := Aside0.mk ((H1.out.app hH).pick [0] (by decide) (L' := [.row kB 5 v bs]) rfl)
    clear hH
    go_wp2
    go_ret2
    exact ⟨_, rfl, H2.out⟩
/-- Texts of the letters of URLs. -/
theorem hasStd_ok {ts : List UInt8} {raw : Bool} (h : ∀ k ∈ ts, okC true raw k = true) : hasStd ts = false := by
  unfold hasStd
  rw [List.any_eq_false]
  intro k hk
  rcases ok_cases (h k hk) with hl | ⟨_, rfl⟩
  · have h43 : isL true 43 = false := by decide +kernel
    have h47 : isL true 47 = false := by decide +kernel
    intro e
    rw [Bool.or_eq_true, beq_iff_eq, beq_iff_eq] at e
    rcases e with rfl | rfl
    · rw [h43] at hl; cases hl
    · rw [h47] at hl; cases hl
  · decide
theorem guess_raw {ts : List UInt8} (h : ∀ k ∈ ts, isL true k = true) : (∀ k ∈ ts, okC true true k = true) ∧ guessOf ts = if true then 4 else 2 := by
  have h1 : ∀ k ∈ ts, okC true true k = true := fun k hk => by unfold okC; rw [h k hk]; rfl
  refine ⟨h1, ?_⟩
  have hp : hasPad ts = false := by
    unfold hasPad
    rw [beq_eq_false_iff_ne]
    intro e
    have := List.mem_of_getLast? e
    have h2 := h 61 this
    rw [isL_61] at h2
    cases h2
  unfold guessOf
  rw [hp, hasStd_ok h1]
  rfl
theorem guess_pad {ts : List UInt8} (h : ∀ k ∈ ts, isL true k = true) (m : Nat) (hm : 0 < m) : (∀ k ∈ ts ++ List.replicate m 61, okC true false k = true) ∧ guessOf (ts ++ List.replicate m 61) = if false = true then 4 else 2 := by
  have h1 : ∀ k ∈ ts ++ List.replicate m 61, okC true false k = true := fun k hk => by
    rcases List.mem_append.1 hk with hk | hk
    · unfold okC; rw [h k hk]; rfl
    · rw [(List.mem_replicate.1 hk).2]
      decide +kernel
  refine ⟨h1, ?_⟩
  have hp : hasPad (ts ++ List.replicate m 61) = true := by
    unfold hasPad
    obtain ⟨k, rfl⟩ : ∃ k, m = k + 1 := ⟨m - 1, by omega⟩
    rw [List.replicate_succ', ← List.append_assoc, List.getLast?_concat]
    rfl
  unfold guessOf
  rw [hp, hasStd_ok h1]
  rfl
end Go.Proofs.YtdldblfklalaeaaGreatDoor
