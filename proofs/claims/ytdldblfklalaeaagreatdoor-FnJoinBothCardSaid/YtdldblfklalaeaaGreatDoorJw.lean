/-
  jwsbb: SigningPrefix, SignBuffer, JoinCompact on no buffer; impl.Prefix, impl.Signing, impl.Joined: their contracts.
-/
import Derived.Test.YtdldblfklalaeaaGreatDoorBehind
namespace Go.Proofs.YtdldblfklalaeaaGreatDoor
open Go.RowKit Go.Proofs.YtdldblfklalaeaaGreatDoorW.PrintWords Go.Lib
set_option linter.unusedVariables false
set_option linter.unusedSimpArgs false
section
variable {P : Program} {ops : Array Oper} {rest : List Oper} {o : Oper} {a : Act} {Q : Exit → Act → World → Prop} {w0 W : World} {B : Nat} {L : List Asrt}
/-- make([]byte, 0, l). -/
theorem Hold.make0 (hS : Hold w0 B W L) (e : Nat) (hgd : o.guard = none) {N : Tmp} (hd : o.dst = some N) (t : TypeId) (x y : Operand) (ho : o.op = .makeSlice t x y) (l : Nat) (hx : a.eval x = .int .i64 0) (hy : a.eval y = .int .i64 (l : Int))
    (ht : P.underlying t = some (.slice e)) (hinfo : (P.info? e).map (fun i => (i.zero, i.size, i.bytes)) = some (some (.int .u8 0), 1, 1)) (hl : l ≤ 281474976710656)
    (h : ∀ g w1, Hold w0 B w1 (.row kB e (.slice (some ⟨g, 0, none⟩) 0 l) [] :: L) → wpList P ops Q rest (a.put o.dst (.slice (some ⟨g, 0, none⟩) 0 l)) w1) : wpList P ops Q (o :: rest) a W := by
  obtain ⟨i0, hi, hzz⟩ := Option.map_eq_some_iff.1 hinfo
  simp only [Prod.mk.injEq] at hzz
  obtain ⟨hz0, hz1, hz2⟩ := hzz
  have hr := run_make (P := P) W t e i0 _ ht hi hz0 .i64 .i64 0 (l : Int) (by omega) (by omega) (by rw [hz2]; omega) (by omega)
  simp only [Int.toNat_natCast, Int.toNat_zero, hz1, Nat.mul_one] at hr
  refine wpList_plain hgd fun K hK => ?_
  unfold Oper.wp execOp
  simp only [ho, hx, hy, Sem.run_bind, Sem.run_pure, Result.andThen_ok, hr]
  refine hK _ _ (h _ _ ?_)
  exact (hS.alloc _).toRow 0 (d := kB) (n := 0) (c := l) (xs := []) rfl (by simpa using Reps.none _ _) rfl (Nat.zero_le _) (by unfold maxLen; omega) (by rw [size_madeCells]; exact (Nat.mul_one l).symm)
end
theorem cloneNil_any (w : World) : Calls Tryz.prog 14 #[.slice none 0 0] w fun e w' => e = .returned (.slice none 0 0) ∧ w = w' := by
  have hnil0 := fun W : World => Lib.run_eql_slice_nil (P := Tryz.prog) W 30 5 none 0 0 0 0 Tryz.underlying30
  go_enter Tryz.func14, Tryz.ntmps14
  go_wp2
  go_ret
  exact ⟨rfl, rfl⟩
theorem defEnc_any (w : World) : Calls Tryz.prog 93 #[] w fun e w' => ∃ g, e = .returned (.iface 183 (.pointer (some ⟨g, 0, none⟩))) ∧ Hold w w.heap.size w' [.blk g (.cells (encX true (-1)) 220)] := by
  go_enter Tryz.func93, Tryz.ntmps93
  go_wp2_with fail
  refine (getEnc_any _).mono ?_
  rintro e w1 ⟨g, rfl, hH⟩
  have H1 := Aside0.mk hH
  clear hH
  go_wp2
  go_ret
  exact ⟨_, rfl, H1.out⟩
/-- A source that is read while L is held. -/
structure Src (w0 : World) (B : Nat) (L : List Asrt) (A : Option Addr) (n c b o : Nat) (xs : List UInt8) : Prop where
  le : n ≤ c
  at_ : 0 < n → A = some ⟨b, o, none⟩
  rd : ∀ w', Hold w0 B w' L → kB.C w' A n xs
  short : n ≤ 100000
  len : xs.length = n
def sign (head payload : List UInt8) (enc : Bool) : List UInt8 := b64 true head ++ [46] ++ (if enc then b64 true payload else payload)
def joined (head payload sig : List UInt8) (enc : Bool) : List UInt8 := sign head payload enc ++ [46] ++ b64 true sig
theorem b64_short {xs : List UInt8} (h : xs.length ≤ 100000) : (b64 true xs).length ≤ 200000 := by rw [b64_len]; unfold encLen; omega
set_option maxRecDepth 100000 in
set_option maxHeartbeats 4000000 in
theorem signBuf_any {w0 : World} {B : Nat} {L : List Asrt} (w : World) (g : Nat) (A : Option Addr) (n c b o : Nat) (xs : List UInt8) (D : Option Addr) (m d b2 o2 : Nat) (ys : List UInt8) (enc : Bool) (H : Hold w0 B w (.blk g (.cells (encX true (-1)) 220) :: L)) (hS : Src w0 B L A n c b o xs) (hT : Src w0 B L D m d b2 o2 ys) :
    Calls Tryz.prog 92 #[.slice none 0 0, .slice A n c, .slice D m d, .iface 183 (.pointer (some ⟨g, 0, none⟩)), .bool enc] w fun e w' => ∃ v, e = .returned v ∧ Hold w0 B w' (.row kB 5 v (sign xs ys enc) :: .blk g (.cells (encX true (-1)) 220) :: L) := by
  have H0 := Aside0.mk H
  have HS := Aside0.mk hS
  have HT := Aside0.mk hT
  have hn := hS.short
  have hm := hT.short
  have hbl := b64_short (xs := xs) (by rw [hS.len]; exact hn)
  have HL : Aside0 (((b64 true xs).length + 1) * 1 ≤ 140737488355328) := ⟨by omega⟩
  have HL2 : Aside0 (((b64 true xs ++ [46]).length + m) * 1 ≤ 140737488355328) := ⟨by simp; omega⟩
  have HL3 : Aside0 ((b64 true xs ++ [46]).length ≤ 4000000000) := ⟨by simp; omega⟩
  clear H hS hT hbl
  go_enter Tryz.func92, Tryz.ntmps92
  go_wp2_with fail
  refine (encLen_any w true g (n + m) (by omega) H0.out).mono ?_
  rintro e w2 ⟨rfl, rfl⟩
  obtain ⟨l, hl⟩ : ∃ l, l = encLen (n + m) := ⟨_, rfl⟩
  have hll : l ≤ 2000000000 := by rw [hl]; unfold encLen; omega
  rw [← hl]
  clear hl
  go_upto_region 4 with ((with_reducible refine at_dst (N := 25) rfl ?_); refine Hold.make0 H0.out 5 rfl rfl 30 (.const (.int .i64 0)) (.tmp 24) rfl (l + 1) rfl (by first | rfl | (rw [Int.natCast_add]; rfl)) Tryz.underlying30 infoB (by omega) ?_; intro gb wb HR'; have HR := Aside0.mk HR'; clear HR')
  go_wp2_with fail
  refine (appEnc_any _ true g _ [] A n c b o xs (by omega) (by simp) HS.out.at_ HS.out.le HR.out HS.out.rd).mono ?_
  rintro e w3 ⟨v3, rfl, hH⟩
  rw [List.nil_append] at hH
  have H3 := Aside0.mk hH
  clear hH HR
  cases enc with
  | true =>
    go_wp2_with ((with_reducible refine at_bi (b := .append) (xs := #[.tmp 32, .tmp 33]) rfl ?_); at_builtin; refine Hold.append1 (kB) 0 H3.out rfl rfl (.tmp 32) (.tmp 33) 30 (.int .u8 0) 1 rfl Tryz.underlying30 info5 rfl (by decide) (by omega) (46) [.int .u8 46] rfl rfl rfl HL.out ?_; intro _ _ H4'; have H4 := Aside0.mk H4'; clear H4' H3)
    refine (appEnc_any _ true g _ (b64 true xs ++ [46]) D m d b2 o2 ys (by omega) HL3.out HT.out.at_ HT.out.le H4.out HT.out.rd).mono ?_
    rintro e w5 ⟨v5, rfl, hH⟩
    have H5 := Aside0.mk hH
    clear hH H4
    go_wp2
    go_ret
    exact ⟨_, rfl, H5.out⟩
  | false =>
    go_wp2_with (first
      | ((with_reducible refine at_bi (b := .append) (xs := #[.tmp 32, .tmp 33]) rfl ?_); at_builtin; refine Hold.append1 (kB) 0 H3.out rfl rfl (.tmp 32) (.tmp 33) 30 (.int .u8 0) 1 rfl Tryz.underlying30 info5 rfl (by decide) (by omega) (46) [.int .u8 46] rfl rfl rfl HL.out ?_; intro _ _ H4'; have H4 := Aside0.mk H4'; clear H4' H3)
      | ((with_reducible refine at_bi (b := .append) (xs := #[.tmp 40, .tmp 41]) rfl ?_); at_builtin; refine Hold.appendRow 0 H4.out rfl rfl (.tmp 40) (.tmp 41) 30 (.int .u8 0) 1 rfl Tryz.underlying30 info5 rfl (by omega) (D) (m) (d) rfl rfl (HT.out.rd _ (Hold.tail (Hold.tail H4.out))) HL2.out ?_; intro _ _ H5'; have H5 := Aside0.mk H5'; clear H5' H4))
    go_ret
    exact ⟨_, rfl, H5.out⟩
theorem Hold.srcAt {w0 : World} {B : Nat} {L : List Asrt} {A : Option Addr} {b c : Nat} {xs : List UInt8} (i : Nat) (hi : L[i]? = some (.row kB 5 (.slice A xs.length c) xs)) (hA : 0 < xs.length → A = some ⟨b, 0, none⟩) (hc : xs.length ≤ c) (hs : xs.length ≤ 100000) : Src w0 B L A xs.length c b 0 xs :=
  ⟨hc, hA, fun w' h => h.Cat i hi, hs, rfl⟩
set_option maxHeartbeats 2000000 in
theorem implSigning_any (w : World) (A D : Option Addr) (n c m d : Nat) (xs ys : List UInt8) (enc : Bool) (hn : n ≤ 100000) (hm : m ≤ 100000) (hC : kB.C w A n xs) (hD : kB.C w D m ys) :
    Calls Tryz.prog 68 #[.slice none 0 0, .slice A n c, .slice D m d, .bool enc] w fun e w' => ∃ v, e = .returned v ∧ Hold w w.heap.size w' [.row kB 5 v (sign xs ys enc)] := by
  obtain rfl := hC.1
  obtain rfl := hD.1
  have HC := Aside0.mk hC
  have HD := Aside0.mk hD
  clear hC hD
  go_enter Tryz.func68, Tryz.ntmps68
  go_wp2_with fail
  refine (cloneNil_any _).mono ?_
  rintro e w1 ⟨rfl, rfl⟩
  go_wp2_with fail
  refine (bclone_any _ A _ c xs (by omega) HC.out).mono ?_
  rintro e w2 ⟨v2, rfl, hH⟩
  obtain ⟨b, c2, A2, rfl, hb, hc2, _⟩ := hH.clone
  have HB := Aside0.mk hb
  have H2 := Aside0.mk hH
  clear hH hb
  go_wp2_with fail
  refine (bclone_any _ D _ d ys (by omega) (H2.out.C HD.out)).mono ?_
  rintro e w3 ⟨v3, rfl, hH⟩
  obtain ⟨b3, c3, A3, rfl, hb, hc3, _⟩ := hH.clone
  have HB3 := Aside0.mk hb
  have H3 := Aside0.mk (H2.out.app hH)
  clear hH hb H2
  go_wp2_with fail
  refine (defEnc_any _).mono ?_
  rintro e w4 ⟨g, rfl, hH⟩
  have H4 := Aside0.mk (H3.out.app hH)
  clear hH H3
  go_wp2_with fail
  refine (signBuf_any (L := [.row kB 5 (.slice A3 ys.length c3) ys, .row kB 5 (.slice A2 xs.length c2) xs]) _ g A2 xs.length c2 b 0 xs A3 ys.length c3 b3 0 ys enc H4.out (Hold.srcAt 1 rfl HB.out hc2 hn) (Hold.srcAt 0 rfl HB3.out hc3 hm)).mono ?_
  rintro e w5 ⟨v5, rfl, hH⟩
  have H5 := Aside0.mk (hH.pick [0] (by decide) (L' := [.row kB 5 v5 (sign xs ys enc)]) rfl)
  clear hH H4
  go_wp2
  go_ret
  exact ⟨_, rfl, H5.out⟩
end Go.Proofs.YtdldblfklalaeaaGreatDoor
