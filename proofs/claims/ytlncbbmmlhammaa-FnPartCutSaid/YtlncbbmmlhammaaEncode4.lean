/-
  inner/base64: EncodeToString, EncodedLen; impl.EncodedText, impl.EncodedLen: their contracts.
-/
import Derived.Test.YtlncbbmmlhammaaEncode3
import Derived.Test.YtlncbbmmlhammaaSame
namespace Go.Proofs.Ytlncbbmmlhammaa
open Go.RowKit Go.Proofs.YtlncbbmmlhammaaW.PrintWords Go.Lib
set_option linter.unusedVariables false
set_option linter.unusedSimpArgs false
theorem Hold.swap {w0 w : World} {B : Nat} {a b : Asrt} {L : List Asrt} (hS : Hold w0 B w (a :: b :: L)) : Hold w0 B w (b :: a :: L) := by
  obtain ⟨F, h1, h2, h3⟩ := hS.own
  let σ : Nat → Nat := fun i => if i = 0 then 1 else if i = 1 then 0 else i
  have hσ : ∀ i, (b :: a :: L)[i]? = (a :: b :: L)[σ i]? := by
    intro i
    match i with
    | 0 => rfl
    | 1 => rfl
    | i + 2 => rfl
  have hinj : ∀ i j, σ i = σ j → i = j := by
    intro i j h
    simp only [σ] at h
    split at h <;> split at h <;> (try split at h) <;> (try split at h) <;> omega
  exact ⟨hS.below, hS.le, fun i => F (σ i), fun i c hc => h1 (σ i) c (by rw [← hσ]; exact hc), fun i k hk => h2 _ k hk, fun i j k hi hj => hinj i j (h3 _ _ k hi hj)⟩
set_option maxRecDepth 100000 in
set_option maxHeartbeats 2000000 in
theorem encStr_any {w0 : World} {B : Nat} {L : List Asrt} (w : World) (url : Bool) (g : Nat) (A : Option Addr) (n c b o : Nat) (xs : List UInt8) (hn : n ≤ 1000000000) (hA : 0 < n → A = some ⟨b, o, none⟩) (hnc : n ≤ c)
    (H : Hold w0 B w (.blk g (.cells (encX url (-1)) 79) :: L)) (hsrc : ∀ w', Hold w0 B w' (.blk g (.cells (encX url (-1)) 79) :: L) → kB.C w' A n xs) :
    Calls Try.prog 93 #[.pointer (some ⟨g, 0, none⟩), .slice A n c] w fun e w' => e = .returned (.string (bStr (b64 url xs))) ∧ Hold w0 B w' (.blk g (.cells (encX url (-1)) 79) :: L) := by
  obtain rfl := (hsrc w H).1
  have H1 := Aside0.mk H
  have HA := Aside0.mk hA
  have HS := Aside0.mk hsrc
  clear H hA hsrc
  go_enter Try.func93, Try.ntmps93
  go_wp2_with fail
  refine (encLen_any w url g xs.length hn H1.out).mono ?_
  rintro e w2 ⟨rfl, rfl⟩
  obtain ⟨m, hm⟩ : ∃ m, m = encLen xs.length := ⟨_, rfl⟩
  have hml : m ≤ 2000000000 := by rw [hm]; unfold encLen; omega
  rw [← hm]
  have HM := Aside0.mk hm
  clear hm
  go_upto_region 2 with ((with_reducible refine at_dst (N := 10) rfl ?_); refine Hold.make (enc := bV) (h1 := fun _ => rfl) H1.out 5 rfl rfl 22 (.tmp 9) (.tmp 9) rfl ((m : Int)) rfl rfl Try.underlying22 (0 : UInt8) 1 infoB rfl (by omega) (by omega) (by omega) ?_; intro v_ _ H2'; have H2 := Aside0.mk H2'; clear H2' H1)
  rw [Int.toNat_natCast] at H2
  rcases Nat.eq_zero_or_pos xs.length with h0 | h0
  · have hxs : xs = [] := List.eq_nil_of_length_eq_zero h0
    subst hxs
    have hm0 : m = 0 := HM.out
    subst hm0
    go_wp2_with fail
    refine (encode_nil _ _ _ _ A c rfl).mono ?_
    rintro e w3 ⟨rfl, rfl⟩
    have H3 : Hold w0 B _ (.row kB 5 v_ [] :: _) := H2.out
    obtain ⟨A3, c3, hv, hc3, hC3⟩ := H3.reads 0 rfl
    have g1 := kB_string (P := Try.prog) (xs := []) (n := 0) c3 Try.underlying22 Try.underlying5 Try.underlying9 hC3
    have hv' : v_ = .slice A3 0 c3 := hv
    subst hv'
    have Hs : Aside0 (bStr [] = bStr (b64 url [])) := ⟨rfl⟩
    have HH := Aside0.mk H3.tail
    generalize bStr [] = s at *
    clear hC3 hv H3 H2
    go_wp2
    go_ret
    exact ⟨by rw [← Hs.out]; rfl, HH.out⟩
  · have hA := HA.out h0
    subst hA
    have hm0 : 0 < m := by rw [HM.out]; unfold encLen; omega
    obtain ⟨gd, cd, cs, rfl, hmc, hcm, hcs, _, hB⟩ := H2.out.toBlk 0 rfl (fun e => by have := congrArg List.length e; rw [List.length_replicate] at this; simp at this; omega)
    rw [List.length_replicate] at hmc
    have HB := Aside0.mk (Hold.swap hB)
    have hne : g ≠ gd := HB.out.blk_ne 0 1 rfl rfl (by decide)
    clear hB
    rw [List.length_replicate]
    have Hfit : Aside0 (0 + m ≤ cs.size) := ⟨by omega⟩
    go_wp2_with fail
    refine (encode_any (w0 := w0) (B := B) (L := L) _ url g gd 0 b o _ c m cd 5 _ _ xs cs hn (fun _ => rfl) (fun _ => rfl) HM.out Hfit.out hmc hnc hne HB.out (fun w' cs' h => HS.out w' h.swap.tail)).mono ?_
    rintro e w3 ⟨rfl, hH⟩
    have hlb : (b64 url xs).length = m := by rw [b64_len, HM.out]
    have h := hH.blkRow (enc := bV) (h1 := fun _ => rfl) 1 rfl (n := m) (cap := cd) (xs := b64 url xs) (by rw [putN_size]; exact hcs) hmc hcm (by
      rw [putN_list _ _ _ (by rw [List.length_map]; omega)]
      simp only [List.take_zero, List.nil_append, List.length_map]
      rw [List.take_append_of_le_length (by rw [List.length_map]; omega), List.take_of_length_le (by rw [List.length_map]; omega)]) hlb.symm
    have HH := Aside0.mk h.swap.tail
    have hrow : ∃ A' c', Value.slice (some ⟨gd, 0, none⟩) m cd = .slice A' m c' ∧ kB.C w3 A' m (b64 url xs) := by
      obtain ⟨A', c', he, _, hC⟩ := h.reads 1 rfl
      rw [hlb] at he hC
      exact ⟨A', c', he, hC⟩
    obtain ⟨A', c', he, hC⟩ := hrow
    injection he with he1 _ he3
    subst he1
    have g1 := kB_string (P := Try.prog) cd Try.underlying22 Try.underlying5 Try.underlying9 hC
    clear h hH hC hlb he3
    obtain ⟨s, hs⟩ : ∃ s, s = bStr (b64 url xs) := ⟨_, rfl⟩
    rw [← hs] at g1
    have Hs := Aside0.mk hs
    clear hs
    go_wp2
    go_ret
    exact ⟨by rw [← Hs.out]; rfl, HH.out⟩
end Go.Proofs.Ytlncbbmmlhammaa
