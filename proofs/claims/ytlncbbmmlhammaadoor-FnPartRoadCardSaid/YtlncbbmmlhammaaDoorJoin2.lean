/-
  jwsbb: JoinCompact on no buffer; impl.Prefix, impl.Signing, impl.Joined: their contracts.
-/
import Derived.Test.YtlncbbmmlhammaaDoorJoin
namespace Go.Proofs.YtlncbbmmlhammaaDoor
open Go.RowKit Go.Proofs.YtlncbbmmlhammaaDoorW.PrintWords Go.Lib
set_option linter.unusedVariables false
set_option linter.unusedSimpArgs false
set_option maxRecDepth 100000 in
set_option maxHeartbeats 4000000 in
theorem joinC_any {w0 : World} {B : Nat} {L : List Asrt} (w : World) (g : Nat) (A : Option Addr) (n c b o : Nat) (xs : List UInt8) (D : Option Addr) (m d b2 o2 : Nat) (ys : List UInt8) (E : Option Addr) (k e b3 o3 : Nat) (zs : List UInt8) (enc : Bool) (H : Hold w0 B w (.blk g (.cells (encX true (-1)) 70) :: L)) (hS : Src w0 B L A n c b o xs) (hT : Src w0 B L D m d b2 o2 ys) (hU : Src w0 B L E k e b3 o3 zs) :
    Calls Tryd.prog 18 #[.slice none 0 0, .slice A n c, .slice D m d, .slice E k e, .iface 61 (.pointer (some ⟨g, 0, none⟩)), .bool enc] w fun x w' => ∃ v, x = .returned (.tuple #[v, .nilIface]) ∧ Hold w0 B w' (.row kB 5 v (joined xs ys zs enc) :: .blk g (.cells (encX true (-1)) 70) :: L) := by
  have H0 := Aside0.mk H
  have HS := Aside0.mk hS
  have HT := Aside0.mk hT
  have HU := Aside0.mk hU
  have hn := hS.short
  have hm := hT.short
  have hk := hU.short
  have hbl := b64_short (xs := xs) (by rw [hS.len]; exact hn)
  have hbl2 := b64_short (xs := ys) (by rw [hT.len]; exact hm)
  have hyl := hT.len
  have hsl : (sign xs ys enc).length ≤ 500000 := by
    unfold sign
    cases enc <;> simp <;> omega
  have HL : Aside0 (((b64 true xs).length + 1) * 1 ≤ 140737488355328) := ⟨by omega⟩
  have HL2 : Aside0 (((b64 true xs ++ [46]).length + m) * 1 ≤ 140737488355328) := ⟨by simp; omega⟩
  have HL3 : Aside0 ((b64 true xs ++ [46]).length ≤ 4000000000) := ⟨by simp; omega⟩
  have HL4 : Aside0 (((sign xs ys enc).length + 1) * 1 ≤ 140737488355328) := ⟨by omega⟩
  have HL5 : Aside0 ((sign xs ys enc ++ [46]).length ≤ 4000000000) := ⟨by simp; omega⟩
  clear H hS hT hU hbl hbl2 hsl hyl
  go_enter Tryd.func18, Tryd.ntmps18
  obtain ⟨tot, htot⟩ : ∃ tot, tot = n + m + k + 2 := ⟨_, rfl⟩
  have htI : (n : Int) + (m : Int) + (k : Int) + 2 = (tot : Int) := by omega
  have htl : tot ≤ 1000000 := by omega
  have ht0 : 0 < tot := by omega
  clear htot
  go_upto_region 6 with ((with_reducible refine at_dst (N := 32) rfl ?_); refine Hold.make0 H0.out 5 rfl rfl 22 (.const (.int .i64 0)) (.tmp 31) rfl tot rfl (by first | rfl | exact congrArg _ htI) Tryd.underlying22 infoB (by omega) ?_; intro gb wb HR'; have HR := Aside0.mk HR'; clear HR')
  go_wp2_with fail
  refine (appEnc_any _ true g _ [] A n c b o xs (by omega) (by simp) HS.out.at_ HS.out.le HR.out HS.out.rd).mono ?_
  rintro x w3 ⟨v3, rfl, hH⟩
  rw [List.nil_append] at hH
  have H3 := Aside0.mk hH
  clear hH HR
  cases enc with
  | true =>
    go_wp2_with ((with_reducible refine at_bi (b := .append) (xs := #[.tmp 39, .tmp 40]) rfl ?_); at_builtin; refine Hold.append1 (kB) 0 H3.out rfl rfl (.tmp 39) (.tmp 40) 22 (.int .u8 0) 1 rfl Tryd.underlying22 info5 rfl (by decide) (by omega) (46) [.int .u8 46] rfl rfl rfl HL.out ?_; intro _ _ H4'; have H4 := Aside0.mk H4'; clear H4' H3)
    refine (appEnc_any _ true g _ (b64 true xs ++ [46]) D m d b2 o2 ys (by omega) HL3.out HT.out.at_ HT.out.le H4.out HT.out.rd).mono ?_
    rintro x w5 ⟨v5, rfl, hH⟩
    have H5 : Aside0 (Hold w0 B w5 (.row kB 5 v5 (sign xs ys true) :: .blk g (.cells (encX true (-1)) 70) :: L)) := ⟨hH⟩
    clear hH H4
    go_wp2_with ((with_reducible refine at_bi (b := .append) (xs := #[.tmp 50, .tmp 51]) rfl ?_); at_builtin; refine Hold.append1 (kB) 0 H5.out rfl rfl (.tmp 50) (.tmp 51) 22 (.int .u8 0) 1 rfl Tryd.underlying22 info5 rfl (by decide) (by omega) (46) [.int .u8 46] rfl rfl rfl HL4.out ?_; intro _ _ H6'; have H6 := Aside0.mk H6'; clear H6' H5)
    refine (appEnc_any _ true g _ (sign xs ys true ++ [46]) E k e b3 o3 zs (by omega) HL5.out HU.out.at_ HU.out.le H6.out HU.out.rd).mono ?_
    rintro x w7 ⟨v7, rfl, hH⟩
    have H7 := Aside0.mk hH
    clear hH H6
    go_wp2
    go_ret2
    exact ⟨_, rfl, H7.out⟩
  | false =>
    go_wp2_with (first
      | ((with_reducible refine at_bi (b := .append) (xs := #[.tmp 39, .tmp 40]) rfl ?_); at_builtin; refine Hold.append1 (kB) 0 H3.out rfl rfl (.tmp 39) (.tmp 40) 22 (.int .u8 0) 1 rfl Tryd.underlying22 info5 rfl (by decide) (by omega) (46) [.int .u8 46] rfl rfl rfl HL.out ?_; intro _ _ H4'; have H4 := Aside0.mk H4'; clear H4' H3)
      | ((with_reducible refine at_bi (b := .append) (xs := #[.tmp 47, .tmp 48]) rfl ?_); at_builtin; refine Hold.appendRow 0 H4.out rfl rfl (.tmp 47) (.tmp 48) 22 (.int .u8 0) 1 rfl Tryd.underlying22 infoB rfl (by omega) D m d rfl rfl (HT.out.rd _ (Hold.tail (Hold.tail H4.out))) HL2.out ?_; intro v5 w5 H5'; have H5 : Aside0 (Hold w0 B w5 (.row kB 5 v5 (sign xs ys false) :: .blk g (.cells (encX true (-1)) 70) :: L)) := ⟨H5'⟩; clear H5' H4)
      | ((with_reducible refine at_bi (b := .append) (xs := #[.tmp 50, .tmp 51]) rfl ?_); at_builtin; refine Hold.append1 (kB) 0 H5.out rfl rfl (.tmp 50) (.tmp 51) 22 (.int .u8 0) 1 rfl Tryd.underlying22 info5 rfl (by decide) (by omega) (46) [.int .u8 46] rfl rfl rfl HL4.out ?_; intro _ _ H6'; have H6 := Aside0.mk H6'; clear H6' H5))
    refine (appEnc_any _ true g _ (sign xs ys false ++ [46]) E k e b3 o3 zs (by omega) HL5.out HU.out.at_ HU.out.le H6.out HU.out.rd).mono ?_
    rintro x w7 ⟨v7, rfl, hH⟩
    have H7 := Aside0.mk hH
    clear hH H6
    go_wp2
    go_ret2
    exact ⟨_, rfl, H7.out⟩
/-- A copy that is held, as a source. -/
theorem Hold.srcAt {w0 : World} {B : Nat} {L : List Asrt} {A : Option Addr} {b c : Nat} {xs : List UInt8} (i : Nat) (hi : L[i]? = some (.row kB 5 (.slice A xs.length c) xs)) (hA : 0 < xs.length → A = some ⟨b, 0, none⟩) (hc : xs.length ≤ c) (hs : xs.length ≤ 100000) : Src w0 B L A xs.length c b 0 xs :=
  ⟨hc, hA, fun w' h => h.Cat i hi, hs, rfl⟩
set_option maxHeartbeats 2000000 in
theorem implJoined_any (w : World) (A D E : Option Addr) (n c m d k f : Nat) (xs ys zs : List UInt8) (enc : Bool) (hn : n ≤ 100000) (hm : m ≤ 100000) (hk : k ≤ 100000) (hC : kB.C w A n xs) (hD : kB.C w D m ys) (hE : kB.C w E k zs) :
    Calls Tryd.prog 12 #[.slice none 0 0, .slice A n c, .slice D m d, .slice E k f, .bool enc] w fun e w' => ∃ v, e = .returned (.tuple #[v, .bool true]) ∧ Hold w w.heap.size w' [.row kB 5 v (joined xs ys zs enc)] := by
  obtain rfl := hC.1
  obtain rfl := hD.1
  obtain rfl := hE.1
  have HC := Aside0.mk hC
  have HD := Aside0.mk hD
  have HE := Aside0.mk hE
  clear hC hD hE
  go_enter Tryd.func12, Tryd.ntmps12
  go_wp2_with fail
  refine (cloneNil_any _).mono ?_
  rintro e w1 ⟨rfl, rfl⟩
  go_wp2_with fail
  refine (bclone_any _ A _ c xs (by omega) HC.out).mono ?_
  rintro e w2 ⟨v2, rfl, hH⟩
  obtain ⟨b, c2, A2, rfl, hb, hc2, _⟩ := hH.clone
  have HB := Aside0.mk hb
  have H2 := Aside0.mk hH
  clear hH hb
  go_wp2_with fail
  refine (bclone_any _ D _ d ys (by omega) (H2.out.C HD.out)).mono ?_
  rintro e w3 ⟨v3, rfl, hH⟩
  obtain ⟨b3, c3, A3, rfl, hb, hc3, _⟩ := hH.clone
  have HB3 := Aside0.mk hb
  have H3 := Aside0.mk (H2.out.app hH)
  clear hH hb H2
  go_wp2_with fail
  refine (bclone_any _ E _ f zs (by omega) (H3.out.C HE.out)).mono ?_
  rintro e w4 ⟨v4, rfl, hH⟩
  obtain ⟨b4, c4, A4, rfl, hb, hc4, _⟩ := hH.clone
  have HB4 := Aside0.mk hb
  have H4 := Aside0.mk (H3.out.app hH)
  clear hH hb H3
  go_wp2_with fail
  refine (defEnc_any _).mono ?_
  rintro e w5 ⟨g, rfl, hH⟩
  have H5 := Aside0.mk (H4.out.app hH)
  clear hH H4
  go_wp2_with fail
  refine (joinC_any (L := [.row kB 5 (.slice A4 zs.length c4) zs, .row kB 5 (.slice A3 ys.length c3) ys, .row kB 5 (.slice A2 xs.length c2) xs]) _ g A2 xs.length c2 b 0 xs A3 ys.length c3 b3 0 ys A4 zs.length c4 b4 0 zs enc H5.out (Hold.srcAt 2 rfl HB.out hc2 hn) (Hold.srcAt 1 rfl HB3.out hc3 hm) (Hold.srcAt 0 rfl HB4.out hc4 hk)).mono ?_
  rintro e w6 ⟨v6, rfl, hH⟩
  have H6 := Aside0.mk (hH.pick [0] (by decide) (L' := [.row kB 5 v6 (joined xs ys zs enc)]) rfl)
  clear hH H5
  go_wp2
  go_ret2
  exact ⟨_, rfl, H6.out⟩
end Go.Proofs.YtlncbbmmlhammaaDoor
