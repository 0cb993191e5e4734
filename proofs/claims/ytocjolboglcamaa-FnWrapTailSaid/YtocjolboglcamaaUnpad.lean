/-
  aescbc.extractPadding, through impl.Unpadded: the walk.
-/
import Derived.Test.YtocjolboglcamaaClone
import Derived.Test.YtocjolboglcamaaB8
import Derived.Test.YtocjolboglcamaaB64
import Derived.IntWalk
import Derived.Deep.DeepCutAuto
import Derived.Deep.CutBlock
namespace Go.Proofs.Ytocjolboglcamaa
open Go.RowKit Go.Proofs.YtocjolboglcamaaW.PrintWords
set_option linter.unusedVariables false
set_option linter.unusedSimpArgs false
/-- 255 where y is at most x, else 0: as the code has it. -/
def mskB (x y : Nat) : UInt8 := if y ≤ x then 255 else 0
theorem msk_eq (x y : Nat) (hx : x ≤ 6000) (hy : y ≤ 6000) : wrap32 (bits .xor .u64 IntKind.u64.max (IntKind.u64.wrap ((x : Int) - (y : Int)))) / 2147483648 % 256 = ((mskB x y).toNat : Int) := by
  obtain ⟨z, hz⟩ := b64_of (n := IntKind.u64.wrap ((x : Int) - (y : Int))) (by rw [IntKind.wrap_u64]; omega) (by rw [IntKind.wrap_u64]; omega)
  have hz2 := hz
  rw [IntKind.wrap_u64] at hz2
  have hzl := b64_lt z
  rw [hz, b64_not, BitVec.toNat_not]
  have e : ((2 ^ 64 - 1 - z.toNat : Nat) : Int) = 18446744073709551615 - (z.toNat : Int) := by omega
  rw [e]
  unfold mskB wrap32
  split
  · show _ = (255 : Int)
    omega
  · show _ = (0 : Int)
    omega
theorem mskB_cases (x y : Nat) : mskB x y = 255 ∨ mskB x y = 0 := by unfold mskB; split <;> simp
/-- How good the padding is behind k bytes. -/
def goodTo (xs : List UInt8) (p : UInt8) : Nat → UInt8
  | 0 => mskB xs.length p.toNat
  | k + 1 => goodTo xs p k &&& ~~~((mskB p.toNat (k + 1) &&& p) ^^^ (mskB p.toNat (k + 1) &&& (xs[xs.length - (k + 1)]?.getD 0)))
def foldB (g : UInt8) : UInt8 := if g = 255 then 255 else 0
def fold1 (n : Int) : Int := bits .and .u8 n (n * 16 % 256)
def fold2 (n : Int) : Int := bits .and .u8 n (n * 4 % 256)
def fold3 (n : Int) : Int := bits .and .u8 n (n * 2 % 256)
def fold4 (n : Int) : Int := IntKind.i8.wrap n / 128 % 256
theorem fold_all : ∀ n : Nat, n < 256 → fold4 (fold3 (fold2 (fold1 n))) = if n = 255 then 255 else 0 := by decide +kernel
theorem fold_steps (g : UInt8) : ∃ h1 h2 h3 : Int, bits .and .u8 (g.toNat : Int) ((g.toNat : Int) * 16 % 256) = h1 ∧ bits .and .u8 h1 (h1 * 4 % 256) = h2 ∧ bits .and .u8 h2 (h2 * 2 % 256) = h3 ∧ IntKind.i8.wrap h3 / 128 % 256 = ((foldB g).toNat : Int) := by
  refine ⟨_, _, _, rfl, rfl, rfl, (fold_all g.toNat g.toNat_lt).trans ?_⟩
  unfold foldB
  by_cases h : g = 255
  · subst h; rfl
  · have h' : ¬ g.toNat = 255 := fun e => h (UInt8.toNat_inj.1 e)
    rw [if_neg h', if_neg h]
    rfl
def exG (xs : List UInt8) (m : Nat) : UInt8 := foldB (goodTo xs (xs[m]?.getD 0) (min 256 (m + 1)))
def exN (xs : List UInt8) (m : Nat) : Int := ((xs[m]?.getD 0) &&& exG xs m).toNat
def exV (xs : List UInt8) (m : Nat) : Int := (exG xs m).toNat
set_option maxRecDepth 100000 in
set_option maxHeartbeats 1000000 in
theorem extract_any (w : World) (A : Option Addr) (n c : Nat) (xs : List UInt8) (m : Nat) (hm : xs.length = m + 1) (hn : n ≤ 5000) (hC : kB.C w A n xs) :
    Calls Try.prog 31 #[.slice A n c] w fun e w' => e = .returned (.tuple #[.int .i64 (exN xs m), .int .u8 (exV xs m)]) ∧ w = w' := by
  obtain rfl := hC.1
  obtain ⟨ad, rfl, e1⟩ := C1_get hC m (by omega)
  have HC := Aside0.mk hC
  clear hC
  have HM := Aside0.mk hm
  obtain ⟨p, hpe⟩ : ∃ p, xs[m] = p := ⟨_, rfl⟩
  have HPE : Aside0 (xs[m]?.getD 0 = p) := ⟨by rw [List.getElem?_eq_getElem (by omega), ← hpe]; rfl⟩
  rw [hpe] at e1
  have hp := p.toNat_lt
  have hk0 := msk_eq (m + 1) p.toNat (by omega) (by omega)
  rw [show ((m + 1 : Nat) : Int) = (m : Int) + 1 from rfl] at hk0
  have HG0 : Aside0 (mskB (m + 1) p.toNat = goodTo xs p 0) := ⟨by rw [← HM.out]; rfl⟩
  generalize mskB (m + 1) p.toNat = g0 at *
  obtain ⟨T, hT⟩ : ∃ T, min 256 (m + 1) = T := ⟨_, rfl⟩
  have HT := Aside0.mk hT
  rw [hm] at hn ⊢
  clear hm hT hpe
  have h3 : IntKind.i64.wrap ((↑(m + 1) : Int) - 1) = (m : Int) := by rw [IntWalk.i64_in _ (by omega)]; omega
  unfold bV at e1
  have hsg : IntKind.u64.signed = false := rfl
  go_enter Try.func31, Try.ntmps31
  go_upto_region 5 with (fail)
  go_cut [3] (fun v w' => v = .int .u8 (g0.toNat : Int) ∧ w = w')
  case first =>
    go_wp2
    all_goals (go_meet; exact ⟨by rw [hk0], rfl⟩)
  case rest =>
  obtain ⟨rfl, rfl⟩ := hcut
  go_upto_region 7 with (fail)
  go_cut [6] (fun v w' => v = .int .i64 (T : Int) ∧ w = w')
  case first =>
    go_wp2
    all_goals
      go_meet
      refine ⟨?_, rfl⟩
      have := HT.out
      congr 1
      omega
  case rest =>
    obtain ⟨rfl, rfl⟩ := hcut
    go_wp2
    go_loop [3, 7] (fun v i => ∃ k : Nat, k ≤ T ∧ i = .int .i64 ((k : Int) + 1) ∧ v = .int .u8 ((goodTo xs p k).toNat : Int)) (fun _ i => T + 1 - (intOf i).toNat)
    case atStart => exact ⟨0, Nat.zero_le _, rfl, by rw [HG0.out]⟩
    case round =>
      obtain ⟨k, hk, rfl, rfl⟩ := hrel
      have hT1 : T ≤ 256 ∧ T ≤ m + 1 := by have := HT.out; omega
      by_cases hlt : k < T
      · have hmk := msk_eq p.toNat (k + 1) (by omega) (by omega)
        rw [show ((k + 1 : Nat) : Int) = (k : Int) + 1 from rfl] at hmk
        obtain ⟨mk, hmke⟩ : ∃ mk, mskB p.toNat (k + 1) = mk := ⟨_, rfl⟩
        rw [hmke] at hmk
        have HMK := Aside0.mk hmke
        clear hmke
        have hix : m - k < xs.length := by have := HM.out; omega
        obtain ⟨ad', he', e2⟩ := C1_get HC.out (m - k) hix
        obtain rfl : ad = ad' := by injection he'
        obtain ⟨b, hb⟩ : ∃ b, xs[m - k] = b := ⟨_, rfl⟩
        rw [hb] at e2
        have HBE : Aside0 (xs[xs.length - (k + 1)]?.getD 0 = b) := ⟨by
          rw [← hb, show xs.length - (k + 1) = m - k from by have := HM.out; omega, List.getElem?_eq_getElem hix]; rfl⟩
        unfold bV at e2
        obtain ⟨g, hg⟩ : ∃ g, goodTo xs p k = g := ⟨_, rfl⟩
        obtain ⟨q1, a1⟩ : ∃ q, q = mk &&& p := ⟨_, rfl⟩
        obtain ⟨q2, a2⟩ : ∃ q, q = mk &&& b := ⟨_, rfl⟩
        obtain ⟨q3, a3⟩ : ∃ q, q = q1 ^^^ q2 := ⟨_, rfl⟩
        obtain ⟨q4, a4⟩ : ∃ q, q = g &&& ~~~q3 := ⟨_, rfl⟩
        have b1 := b8_and mk p
        have b2 := b8_and mk b
        have b3 := b8_xor q1 q2
        have b4 := b8_andNot g q3
        rw [← a1] at b1
        rw [← a2] at b2
        rw [← a3] at b3
        rw [← a4] at b4
        have HGS : Aside0 (goodTo xs p (k + 1) = q4) := ⟨by
          show goodTo xs p k &&& ~~~((mskB p.toNat (k + 1) &&& p) ^^^ (mskB p.toNat (k + 1) &&& (xs[xs.length - (k + 1)]?.getD 0))) = q4
          rw [HBE.out, HMK.out, hg, a4, a3, a1, a2]⟩
        rw [hg]
        clear hb he' hix a1 a2 a3 a4 hg
        go_wp2
        go_round
        case rel => exact ⟨k + 1, hlt, by go_num, by rw [HGS.out]⟩
        case measure => simp [intOf]; omega
      · obtain rfl : k = T := by omega
        obtain ⟨g, hg⟩ : ∃ g, goodTo xs p k = g := ⟨_, rfl⟩
        rw [hg]
        have HG := Aside0.mk hg
        clear hg
        obtain ⟨h1, h2, h3', s1, s2, s3, s4⟩ := fold_steps g
        obtain ⟨f, hf⟩ : ∃ f, foldB g = f := ⟨_, rfl⟩
        rw [hf] at s4
        obtain ⟨q, hq⟩ : ∃ q, q = p &&& f := ⟨_, rfl⟩
        have s5 := b8_and p f
        rw [← hq] at s5
        have HF : Aside0 (exG xs m = f) := ⟨by unfold exG; rw [HPE.out, HT.out, HG.out, hf]⟩
        have HQ : Aside0 (exN xs m = (q.toNat : Int)) := ⟨by unfold exN; rw [HPE.out, HF.out, hq]⟩
        have HV : Aside0 (exV xs m = (f.toNat : Int)) := ⟨by unfold exV; rw [HF.out]⟩
        have hql := q.toNat_lt
        clear hf hq
        go_wp2
        go_ret2
        exact ⟨by rw [HQ.out, HV.out]; rfl, rfl⟩
end Go.Proofs.Ytocjolboglcamaa
