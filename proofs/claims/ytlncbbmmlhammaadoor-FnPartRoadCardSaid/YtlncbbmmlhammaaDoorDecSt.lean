/-
  encoding/base64: what a loop of Decode keeps. (The plain part.)
-/
import Derived.Test.YtlncbbmmlhammaaDoorQuantS
import Derived.Test.YtlncbbmmlhammaaDoorAsm
import Derived.Test.YtlncbbmmlhammaaDoorDec3
namespace Go.Proofs.YtlncbbmmlhammaaDoor
open Go.RowKit Go.Proofs.YtlncbbmmlhammaaDoorW.PrintWords Go.Lib
set_option linter.unusedVariables false
set_option linter.unusedSimpArgs false
theorem Wrote.refl (cs : Array Value) : Wrote cs cs 0 [] := ⟨rfl, by simp⟩
theorem Wrote.more {cs cs' cs2 : Array Value} {done bs : List UInt8} (h : Wrote cs cs' 0 done) (h2 : Wrote cs' cs2 done.length bs) : Wrote cs cs2 0 (done ++ bs) := by
  refine ⟨h2.size.trans h.size, ?_⟩
  have e2 := h2.pre
  have e1 := h.pre
  simp only [Nat.zero_add, List.take_zero, List.nil_append] at e1 ⊢
  rw [List.length_append, e2, e1, List.map_append]
theorem wrote_put (cs : Array Value) (off : Nat) (vs : List Value) (bs : List UInt8) (k : Nat) (hv : vs.take bs.length = bs.map bV) (hk : vs.length = k) (hfit : off + k ≤ cs.size) : Wrote cs (putN cs off vs) off bs := by
  subst hk
  have hb : bs.length ≤ vs.length := by
    have := congrArg List.length hv
    rw [List.length_take, List.length_map] at this
    omega
  refine ⟨putN_size _ _ _, ?_⟩
  rw [putN_list vs cs off hfit, List.append_assoc, List.take_append, List.take_append]
  have hl : (List.take off cs.toList).length = off := by rw [List.length_take]; simp; omega
  rw [hl, List.take_take, Nat.min_eq_right (by omega), show off + bs.length - off = bs.length by omega, hv, show bs.length - vs.length = 0 by omega, List.take_zero, List.append_nil]
/-- The lengths of a group. -/
theorem decStep_facts {url raw : Bool} {rs bs : List UInt8} {k : Nat} (h : decStep url raw rs = some (bs, k)) : k ≤ rs.length ∧ 0 < k ∧ (k < rs.length → k = 4 ∧ bs.length = 3) ∧ bs.length ≤ decLen (padOf raw) rs.length ∧ bs.length ≤ 3 := by
  rcases rs with _ | ⟨x, _ | ⟨y, _ | ⟨z, _ | ⟨u, r⟩⟩⟩⟩
  · simp [decStep] at h
  · simp [decStep] at h
  · simp only [decStep] at h
    split at h
    · rename_i hc
      injection h with h; injection h with h1 h2; subst h1 h2
      have hr : raw = true := by simp only [Bool.and_eq_true] at hc; exact hc.1.1
      subst hr
      refine ⟨by simp, by omega, fun h => by simp at h, by simp [decLen, padOf], by simp⟩
    · cases h
  · simp only [decStep] at h
    split at h
    · rename_i hc
      injection h with h; injection h with h1 h2; subst h1 h2
      have hr : raw = true := by simp only [Bool.and_eq_true] at hc; exact hc.1.1.1
      subst hr
      refine ⟨by simp, by omega, fun h => by simp at h, by simp [decLen, padOf], by simp⟩
    · cases h
  · have hd : 3 ≤ decLen (padOf raw) (x :: y :: z :: u :: r).length := by
      simp only [List.length_cons]
      unfold decLen
      split <;> omega
    simp only [decStep] at h
    split at h
    · injection h with h; injection h with h1 h2; subst h1 h2
      exact ⟨by simp, by omega, fun _ => ⟨rfl, rfl⟩, by simpa using hd, by simp⟩
    · split at h
      · rename_i _ hc
        have hr : r = [] := by
          simp only [Bool.and_eq_true, List.isEmpty_iff] at hc
          exact hc.1.1.1.2
        subst hr
        split at h
        · injection h with h; injection h with h1 h2; subst h1 h2
          exact ⟨by simp, by omega, fun h => by simp at h, Nat.le_trans (by simp) hd, by simp⟩
        · split at h
          · injection h with h; injection h with h1 h2; subst h1 h2
            exact ⟨by simp, by omega, fun h => by simp at h, Nat.le_trans (by simp) hd, by simp⟩
          · cases h
      · cases h
structure DSt (w0 : World) (B : Nat) (L : List Asrt) (url raw : Bool) (g gd t m : Nat) (ts : List UInt8) (cs0 : Array Value) (si n : Nat) (wr : World) : Prop where
  le : si ≤ ts.length
  al : si < ts.length → n * 4 = si * 3 ∧ si % 4 = 0
  nm : n ≤ m
  ex : ∃ done cs', done.length = n ∧ Wrote cs0 cs' 0 done ∧ decAll url raw ts = (decAll url raw (ts.drop si)).map (done ++ ·) ∧ Hold w0 B wr (.blk g (.cells (encX url (padOf raw)) 70) :: .blk gd (.cells cs' t) :: L)
theorem decLen_le {p : Int} {n k : Nat} (h : n + 3 * k = n + 3 * k) : decLen p (4 * k + n) = 3 * k + decLen p n := by
  unfold decLen
  split <;> omega
theorem DSt.step {w0 : World} {B : Nat} {L : List Asrt} {url raw : Bool} {g gd t m : Nat} {ts : List UInt8} {cs0 : Array Value} {si n : Nat} (hm : m = decLen (padOf raw) ts.length) {done bs : List UInt8} {k : Nat} {cs' cs2 : Array Value} {w' : World} (hle : si < ts.length) (hal : n * 4 = si * 3 ∧ si % 4 = 0)
    (hd : done.length = n) (hW : Wrote cs0 cs' 0 done) (hA : decAll url raw ts = (decAll url raw (ts.drop si)).map (done ++ ·)) (hs : decStep url raw (ts.drop si) = some (bs, k)) (hW2 : Wrote cs' cs2 n bs)
    (H : Hold w0 B w' (.blk g (.cells (encX url (padOf raw)) 70) :: .blk gd (.cells cs2 t) :: L)) : DSt w0 B L url raw g gd t m ts cs0 (si + k) (n + bs.length) w' := by
  obtain ⟨h1, h0, h2, h3, h4⟩ := decStep_facts hs
  have hl : (ts.drop si).length = ts.length - si := List.length_drop ..
  have hne : ts.drop si ≠ [] := by
    intro e
    rw [e] at hl
    simp at hl
    omega
  rw [hl] at h1 h2 h3
  subst hd
  refine ⟨by omega, fun hlt => ?_, ?_, done ++ bs, cs2, by rw [List.length_append], hW.more hW2, ?_, H⟩
  · obtain ⟨rfl, e⟩ := h2 (by omega)
    omega
  · rw [hm]
    obtain ⟨j, hj⟩ : ∃ j, ts.length = 4 * j + (ts.length - si) := ⟨si / 4, by omega⟩
    rw [hj, decLen_le rfl]
    omega
  · rw [hA, decAll_step _ _ _ hne, hs]
    simp only [Option.bind_some, List.drop_drop]
    cases decAll url raw (ts.drop (si + k)) <;> simp
theorem DSt.adv {w0 : World} {B : Nat} {L : List Asrt} {url raw : Bool} {g gd t m : Nat} {ts : List UInt8} {cs0 : Array Value} {si n : Nat} {done bs : List UInt8} {k : Nat} {cs' cs2 : Array Value} {w' : World} (hal : n * 4 = si * 3 ∧ si % 4 = 0)
    (hd : done.length = n) (hW : Wrote cs0 cs' 0 done) (hA : decAll url raw ts = (decAll url raw (ts.drop si)).map (done ++ ·)) (hk : si + k ≤ ts.length) (hkk : bs.length * 4 = k * 3 ∧ k % 4 = 0) (hnm : n + bs.length ≤ m)
    (hA2 : decAll url raw (ts.drop si) = (decAll url raw (ts.drop (si + k))).map (bs ++ ·)) (hW2 : Wrote cs' cs2 n bs)
    (H : Hold w0 B w' (.blk g (.cells (encX url (padOf raw)) 70) :: .blk gd (.cells cs2 t) :: L)) : DSt w0 B L url raw g gd t m ts cs0 (si + k) (n + bs.length) w' := by
  subst hd
  refine ⟨hk, fun hlt => by omega, hnm, done ++ bs, cs2, by rw [List.length_append], hW.more hW2, ?_, H⟩
  rw [hA, hA2]
  cases decAll url raw (ts.drop (si + k)) <;> simp
theorem drop_at {ts : List UInt8} {i : Nat} {x : UInt8} (h : ts[i]? = some x) : ts.drop i = x :: ts.drop (i + 1) := by
  obtain ⟨hi, rfl⟩ := List.getElem?_eq_some_iff.1 h
  exact List.drop_eq_getElem_cons hi
theorem decAll4 {url raw : Bool} {x y z u : UInt8} {r : List UInt8} (hx : dX url x ≠ 255) (hy : dX url y ≠ 255) (hz : dX url z ≠ 255) (hu : dX url u ≠ 255) :
    decAll url raw (x :: y :: z :: u :: r) = (decAll url raw r).map ([byA (dX url x) (dX url y), byB (dX url y) (dX url z), byC (dX url z) (dX url u)] ++ ·) := by
  simp only [decAll, isL_iff.2 hx, isL_iff.2 hy, isL_iff.2 hz, isL_iff.2 hu, Bool.and_self, if_true]
theorem be4_bytes (N : Nat) (h : N < 16777216) : (be4 (N * 256)).take 3 = [N / 65536, N / 256 % 256, N % 256].map (fun k : Nat => Value.int .u8 (k : Int)) := by
  unfold be4
  simp only [List.take_succ_cons, List.take_zero, List.map_cons, List.map_nil]
  rw [show ((N * 256 : Nat) : Int) / 16777216 % 256 = ((N / 65536 : Nat) : Int) by omega, show ((N * 256 : Nat) : Int) / 65536 % 256 = ((N / 256 % 256 : Nat) : Int) by omega, show ((N * 256 : Nat) : Int) / 256 % 256 = ((N % 256 : Nat) : Int) by omega]
theorem be8_bytes (N M : Nat) (h : N < 16777216) (k : M < 16777216) : (be8 (N * 1099511627776 + M * 65536)).take 6 = [N / 65536, N / 256 % 256, N % 256, M / 65536, M / 256 % 256, M % 256].map (fun k : Nat => Value.int .u8 (k : Int)) := by
  unfold be8
  simp only [List.take_succ_cons, List.take_zero, List.map_cons, List.map_nil]
  obtain ⟨V, hV⟩ : ∃ V, V = N * 1099511627776 + M * 65536 := ⟨_, rfl⟩
  rw [← hV]
  rw [show (V : Int) / 72057594037927936 % 256 = ((N / 65536 : Nat) : Int) by omega, show (V : Int) / 281474976710656 % 256 = ((N / 256 % 256 : Nat) : Int) by omega, show (V : Int) / 1099511627776 % 256 = ((N % 256 : Nat) : Int) by omega,
    show (V : Int) / 4294967296 % 256 = ((M / 65536 : Nat) : Int) by omega, show (V : Int) / 16777216 % 256 = ((M / 256 % 256 : Nat) : Int) by omega, show (V : Int) / 65536 % 256 = ((M % 256 : Nat) : Int) by omega]
/-- What Decode leaves. -/
def DPost (w0 : World) (B : Nat) (L : List Asrt) (url raw : Bool) (g gd t : Nat) (cs : Array Value) (e : Ending) (w' : World) : Option (List UInt8) → Prop
  | some bs => e = .returned (.tuple #[.int .i64 bs.length, .nilIface]) ∧ ∃ cs', Wrote cs cs' 0 bs ∧ Hold w0 B w' (.blk g (.cells (encX url (padOf raw)) 70) :: .blk gd (.cells cs' t) :: L)
  | none => (∃ k t' v, e = .returned (.tuple #[.int .i64 k, .iface t' v])) ∧ ∃ cs', Hold w0 B w' (.blk g (.cells (encX url (padOf raw)) 70) :: .blk gd (.cells cs' t) :: L)
end Go.Proofs.YtlncbbmmlhammaaDoor
