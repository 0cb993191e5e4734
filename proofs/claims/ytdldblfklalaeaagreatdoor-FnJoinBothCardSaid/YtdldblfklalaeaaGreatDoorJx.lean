/-
  jwsbb.AppendSignature, impl.WithSignature, laws.joinHead, laws.joinMark: their contracts.
-/
import Derived.Test.YtdldblfklalaeaaGreatDoorJw
import Derived.Test.YtdldblfklalaeaaGreatDoorShb
import Derived.Test.YtdldblfklalaeaaGreatDoorJh
namespace Go.Proofs.YtdldblfklalaeaaGreatDoor
open Go.RowKit Go.Proofs.YtdldblfklalaeaaGreatDoorW.PrintWords Go.Lib Go.ChangeShapes Go.WideShapes
set_option linter.unusedVariables false
set_option linter.unusedSimpArgs false
set_option maxRecDepth 100000
section
variable {P : Program} {ops : Array Oper} {rest : List Oper} {o : Oper} {a : Act} {Q : Exit → Act → World → Prop} {w0 W : World} {B : Nat} {L : List Asrt}
/-- make([]byte, n, l). -/
theorem Hold.makeNC (hS : Hold w0 B W L) (e : Nat) (hgd : o.guard = none) {N : Tmp} (hd : o.dst = some N) (t : TypeId) (x y : Operand) (ho : o.op = .makeSlice t x y) (n l : Nat) (hx : a.eval x = .int .i64 (n : Int)) (hy : a.eval y = .int .i64 (l : Int)) (hnl : n ≤ l)
    (ht : P.underlying t = some (.slice e)) (hinfo : (P.info? e).map (fun i => (i.zero, i.size, i.bytes)) = some (some (.int .u8 0), 1, 1)) (hl : l ≤ 140737488355328)
    (h : ∀ g w1, Hold w0 B w1 (.row kB e (.slice (some ⟨g, 0, none⟩) n l) (List.replicate n 0) :: L) → wpList P ops Q rest (a.put o.dst (.slice (some ⟨g, 0, none⟩) n l)) w1) : wpList P ops Q (o :: rest) a W := by
  obtain ⟨i0, hi, hzz⟩ := Option.map_eq_some_iff.1 hinfo
  simp only [Prod.mk.injEq] at hzz
  obtain ⟨hz0, hz1, hz2⟩ := hzz
  have hr := run_make (P := P) W t e i0 _ ht hi hz0 .i64 .i64 (n : Int) (l : Int) (by omega) (by omega) (by rw [hz2]; omega) (by omega)
  simp only [Int.toNat_natCast, hz1, Nat.mul_one] at hr
  refine wpList_plain hgd fun K hK => ?_
  unfold Oper.wp execOp
  simp only [ho, hx, hy, Sem.run_bind, Sem.run_pure, Result.andThen_ok, hr]
  refine hK _ _ (h _ _ ?_)
  refine (hS.alloc _).blkRow (enc := bV) (h1 := fun _ => rfl) 0 rfl (size_madeCells _ _) hnl (by unfold maxLen; omega) ?_ (by simp)
  rw [show (Value.int IntKind.u8 0).cells = #[Value.int IntKind.u8 0] from rfl, toList_madeCells_one, List.take_replicate, Nat.min_eq_left hnl, List.map_replicate]
  rfl
end
set_option maxHeartbeats 2000000 in
theorem appSig_any {w0 : World} {B : Nat} {L : List Asrt} (w : World) (g gb c0 : Nat) (xs : List UInt8) (D : Option Addr) (m d b2 o2 : Nat) (ys : List UInt8) (hxl : xs.length ≤ 1000000) (hcap : xs.length + m + 1 ≤ c0) (hc1 : c0 ≤ 100000000)
    (H : Hold w0 B w (.row kB 5 (.slice (some ⟨gb, 0, none⟩) xs.length c0) xs :: .blk g (.cells (encX true (-1)) 220) :: L)) (hT : Src w0 B L D m d b2 o2 ys) :
    Calls Tryz.prog 94 #[.slice (some ⟨gb, 0, none⟩) xs.length c0, .slice D m d, .iface 183 (.pointer (some ⟨g, 0, none⟩))] w fun e w' => ∃ v, e = .returned v ∧ Hold w0 B w' (.row kB 5 v (xs ++ [46] ++ b64 true ys) :: .blk g (.cells (encX true (-1)) 220) :: L) := by
  have H3 := Aside0.mk H
  have HT := Aside0.mk hT
  have hm := hT.short
  have HL : Aside0 ((xs.length + 1) * 1 ≤ 140737488355328) := ⟨by omega⟩
  have HL3 : Aside0 ((xs ++ [46]).length ≤ 4000000000) := ⟨by simp; omega⟩
  have hcf : decide ((c0 : Int) < ((xs.length : Int) + (m : Int) + 1)) = false := decide_eq_false (by omega)
  clear H hT
  go_enter Tryz.func94, Tryz.ntmps94
  go_wp2_with ((with_reducible refine at_bi (b := .append) (xs := #[.tmp 20, .tmp 21]) rfl ?_); at_builtin; refine Hold.append1 (kB) 0 H3.out rfl rfl (.tmp 20) (.tmp 21) 30 (.int .u8 0) 1 rfl Tryz.underlying30 info5 rfl (by decide) (by omega) (46) [.int .u8 46] rfl rfl rfl HL.out ?_; intro _ _ H4'; have H4 := Aside0.mk H4'; clear H4' H3)
  refine (appEnc_any _ true g _ (xs ++ [46]) D m d b2 o2 ys (by omega) HL3.out HT.out.at_ HT.out.le H4.out HT.out.rd).mono ?_
  rintro e w5 ⟨v5, rfl, hH⟩
  have H5 := Aside0.mk hH
  clear hH H4
  go_wp2
  go_ret
  exact ⟨_, rfl, H5.out⟩
set_option maxHeartbeats 4000000 in
theorem withSig_any (w : World) (A D : Option Addr) (n c m d : Nat) (xs ys : List UInt8) (hn : n ≤ 1000000) (hm : m ≤ 100000) (hC : kB.C w A n xs) (hD : kB.C w D m ys) :
    Calls Tryz.prog 69 #[.slice A n c, .slice D m d] w fun e w' => ∃ v, e = .returned v ∧ Hold w w.heap.size w' [.row kB 5 v (xs ++ [46] ++ b64 true ys)] := by
  obtain rfl := hC.1
  obtain rfl := hD.1
  have HC := Aside0.mk (fun (wz : World) (hb : Below w.heap.size w wz) => Kd.C_below hC hb)
  have HD := Aside0.mk (fun (wz : World) (hb : Below w.heap.size w wz) => Kd.C_below hD hb)
  have H0 := Aside0.mk (Hold.start w)
  clear hC hD
  go_enter Tryz.func69, Tryz.ntmps69
  go_wp2_with (first | ((with_reducible refine at_dst (N := 15) rfl ?_); refine Hold.makeNC H0.out 5 rfl rfl 30 (.tmp 7) (.tmp 14) rfl xs.length (xs.length + 2 * ys.length + 8) rfl (by first | rfl | (simp [Act.eval])) (by omega) Tryz.underlying30 infoB (by omega) ?_; intro gb wb HR'; have HR := Aside0.mk HR'; clear HR') | ((with_reducible refine at_bi (b := .copy) (xs := #[.tmp 16, .tmp 17]) rfl ?_); refine Hold.copy (enc := bV) (h1 := fun _ => rfl) 0 HR.out rfl rfl (.tmp 16) (.tmp 17) 30 30 rfl Tryz.underlying30 (by kernel_rfl) (0) (some ⟨gb, 0, none⟩) (A) (xs.length) (xs.length + 2 * ys.length + 8) (xs.length) (c) rfl rfl (HC.out _ HR.out.below) (fun _ => ⟨gb, _, _, rfl, rfl⟩) (by simp) (xs.length) (by simp) ?_; intro _ H2'; have H2 := Aside0.mk H2'; clear H2' HR))

  have H3 : Aside0 (Hold w w.heap.size _ [.row kB 5 (.slice (some ⟨gb, 0, none⟩) xs.length (xs.length + 2 * ys.length + 8)) xs]) := ⟨by
    have h := H2.out
    rw [List.take_zero, List.nil_append, List.take_length, Nat.zero_add, List.drop_eq_nil_of_le (by simp), List.append_nil] at h
    exact h⟩
  clear H2
  refine (bclone_any _ D _ d ys (by omega) (HD.out _ H3.out.below)).mono ?_
  rintro e w3 ⟨v3, rfl, hH⟩
  obtain ⟨b, c3, A3, rfl, hb, hc3, _⟩ := hH.clone
  have HB := Aside0.mk hb
  have H4 := Aside0.mk (H3.out.app hH)
  clear hH hb H3
  go_wp2_with fail
  refine (defEnc_any _).mono ?_
  rintro e w4 ⟨g, rfl, hH⟩
  have H5 := Aside0.mk ((H4.out.app hH).pick [2, 0, 1] (by decide) (L' := [.row kB 5 (.slice (some ⟨gb, 0, none⟩) xs.length (xs.length + 2 * ys.length + 8)) xs, .blk g (.cells (encX true (-1)) 220), .row kB 5 (.slice A3 ys.length c3) ys]) rfl)
  clear hH H4
  go_wp2_with fail
  refine (appSig_any (L := [.row kB 5 (.slice A3 ys.length c3) ys]) _ g gb _ xs A3 ys.length c3 b 0 ys hn (by omega) (by omega) H5.out (Hold.srcAt 0 rfl HB.out hc3 hm)).mono ?_
  rintro e w5 ⟨v5, rfl, hH⟩
  have H6 := Aside0.mk (hH.pick [0] (by decide) (L' := [.row kB 5 v5 (xs ++ [46] ++ b64 true ys)]) rfl)
  clear hH H5
  go_wp2
  go_ret
  exact ⟨_, rfl, H6.out⟩
def algB : Bs := [97, 108, 103]
def kidB : Bs := [107, 105, 100]
/-- The header's text. -/
def headT (alg kid : ByteArray) : Bs := jText [(algB, alg.data.toList), (kidB, kid.data.toList)]
theorem head_str (alg kid : ByteArray) : (((({ data := #[123, 34, 97, 108, 103, 34, 58, 34] } ++ alg) ++ { data := #[34, 44, 34, 107, 105, 100, 34, 58, 34] }) ++ kid) ++ { data := #[34, 125] } : ByteArray) = bStr (headT alg kid) := by
  apply data_ext
  rw [bStr_list]
  simp [headT, jText, fieldJ, commas, algB, kidB, ByteArray.data_append]
theorem conv_s2bJ (w : World) (s : Bs) (hs : s.length ≤ 1000000000000) :
    ∃ W g cap, (convert 9 30 (.string (bStr s))).run Tryz.prog w = .ok (.slice (some ⟨g, 0, none⟩) s.length cap) W ∧ BufAt w.heap.size W g cap s ∧ Below w.heap.size w W := by
  have cv := Lib.run_convert_string_bytes (P := Tryz.prog) w 9 30 5 (bStr s) Tryz.underlying9 Tryz.underlying30 Tryz.underlying5
  have hsz : (bStr s).size = s.length := rfl
  have hb : Below w.heap.size w (Lib.bytesWorld w 5 (bStr s)) := (Below.refl w.heap.size w).grown (row := none) ⟨rfl, rfl, rfl, by rw [Lib.bytesWorld_size]; omega, fun k hk _ => Lib.bytesWorld_at_old w 5 (bStr s) k hk⟩ (Nat.le_refl _) (fun k h => by cases h)
  have hat := Lib.bytesWorld_at_new w 5 (bStr s)
  have hge : s.length ≤ grownCap w (bStr s).size 0 5 := grownCap_ge w _ _ _
  have hcs : (Lib.bytesCells w 5 (bStr s)).size = grownCap w (bStr s).size 0 5 := by
    unfold Lib.bytesCells
    rw [Array.size_append, Array.size_map, Array.size_replicate]
    show s.length + _ = _
    rw [hsz] at hge ⊢
    omega
  have hB : BufAt w.heap.size (Lib.bytesWorld w 5 (bStr s)) w.heap.size (grownCap w (bStr s).size 0 5) s := by
    refine ⟨Nat.le_refl _, by rw [Lib.bytesWorld_size]; omega, hge, grownCap_le_maxLen _ _ _ _ (by rw [hsz]; unfold maxLen; omega), fun j hj => ?_, fun j hj => ?_, fun j u hu => ?_⟩
    · rw [cell_of hat, Array.getElem?_eq_getElem (by omega)]
      rfl
    · simp only [World.frozen?, hat]
      simp
      omega
    · have hj : j < s.length := (List.getElem?_eq_some_iff.1 hu).1
      rw [Lib.bytesWorld_cell w _ _ _ hj]
      show some (Value.int .u8 ((s.toArray.toList.getD j 0).toNat : Int)) = _
      rw [List.getD_eq_getElem?_getD]
      simp [hu, bV]
  exact ⟨_, _, _, cv, hB, hb⟩
theorem joinHead_any (w : World) (alg kid : ByteArray) (h1 : alg.size ≤ 1000) (h2 : kid.size ≤ 1000) :
    Calls Tryz.prog 37 #[.string alg, .string kid] w fun e w' => ∃ A c, e = .returned (.slice A (headT alg kid).length c) ∧ (headT alg kid).length ≤ c ∧ kB.C w' A (headT alg kid).length (headT alg kid) ∧ Below w.heap.size w w' := by
  have hl : (headT alg kid).length ≤ 3000 := by
    have e1 : alg.data.toList.length = alg.size := Array.length_toList
    have e2 : kid.data.toList.length = kid.size := Array.length_toList
    simp [headT, jText, fieldJ, commas, algB, kidB]
    omega
  obtain ⟨W, g, cap, cv, hB, hb⟩ := conv_s2bJ w (headT alg kid) (by omega)
  rw [← head_str] at cv
  obtain ⟨T, hT⟩ : ∃ T, T = headT alg kid := ⟨_, rfl⟩
  rw [← hT] at cv hB ⊢
  have HX := Aside0.mk (And.intro hB hb)
  clear hB hb hT hl
  go_enter Tryz.func37, Tryz.ntmps37
  go_wp2
  go_ret
  exact ⟨_, _, rfl, HX.out.1.len, HX.out.1.C, HX.out.2⟩
def markF (key s : Bs) : Bs := shaF (key ++ [0] ++ s)
theorem shaF_len (z : Bs) : (shaF z).length = 32 := outK_len _ _
set_option maxHeartbeats 4000000 in
theorem joinMark_any (w : World) (A D : Option Addr) (n c m d : Nat) (key s : Bs) (hn : n ≤ 10000000) (hm : m ≤ 10000000) (hC : kB.C w A n key) (hD : kB.C w D m s) :
    Calls Tryz.prog 39 #[.slice A n c, .slice D m d] w fun e w' => ∃ g, e = .returned (.slice (some ⟨g, 0, none⟩) 32 32) ∧ Hold w w.heap.size w' [.row kB 110 (.slice (some ⟨g, 0, none⟩) 32 32) (markF key s)] := by
  obtain rfl := hC.1
  obtain rfl := hD.1
  have HC := Aside0.mk (fun (wz : World) (hb : Below w.heap.size w wz) => Kd.C_below hC hb)
  have HD := Aside0.mk (fun (wz : World) (hb : Below w.heap.size w wz) => Kd.C_below hD hb)
  clear hC hD
  have HL1 : Aside0 ((key.length + 1) * 1 ≤ 140737488355328) := ⟨by omega⟩
  have HL2 : Aside0 (((key ++ [0]).length + s.length) * 1 ≤ 140737488355328) := ⟨by simp; omega⟩
  go_enter Tryz.func39, Tryz.ntmps39
  go_wp2_with fail
  refine (own_any w A _ c key (by omega) (HC.out _ (Below.refl _ _))).mono ?_
  rintro e w1 ⟨v1, rfl, h1⟩
  have H1 := Aside0.mk h1
  clear h1
  go_wp2_with (first | ((with_reducible refine at_bi (b := .append) (xs := #[.tmp 7, .tmp 8]) rfl ?_); at_builtin; refine Hold.append1 (kB) 0 H1.out rfl rfl (.tmp 7) (.tmp 8) 30 (.int .u8 0) 1 rfl Tryz.underlying30 info5 rfl (by decide) (by omega) ((0 : UInt8)) [.int .u8 0] rfl rfl rfl HL1.out ?_; intro _ _ H2'; have H2 := Aside0.mk H2'; clear H2' H1) | ((with_reducible refine at_bi (b := .append) (xs := #[.tmp 9, .tmp 10]) rfl ?_); at_builtin; refine Hold.appendRow 0 H2.out rfl rfl (.tmp 9) (.tmp 10) 30 (.int .u8 0) 1 rfl Tryz.underlying30 info5 rfl (by omega) (D) (s.length) (d) rfl rfl (HD.out _ H2.out.below) HL2.out ?_; intro _ _ H3'; have H3 := Aside0.mk H3'; clear H3' H2))
  obtain ⟨A4, c4, rfl, hle4, hC4⟩ := H3.out.reads 0 rfl
  have hz : (key ++ [0] ++ s).length ≤ 100000000 := by simp; omega
  have HSh := Aside0.mk (sha_any _ A4 _ c4 _ hz hC4)
  have HM : Aside0 (shaF (key ++ [0] ++ s) = markF key s) := ⟨rfl⟩
  obtain ⟨z, hz2⟩ : ∃ z, z = key ++ [0] ++ s := ⟨_, rfl⟩
  rw [← hz2] at HSh HM ⊢
  clear hle4 hC4 hz hz2
  refine HSh.out.mono ?_
  rintro e w4 ⟨rfl, hb⟩
  have h4 := (H3.out.tail.of_below hb).alloc (.cells (z32.map bV).toArray 110)
  have HG := Aside0.mk (h4.blk 0 rfl)
  have h5 := (h4.setRow 0 rfl (cs' := ((shaF z).map bV).toArray)).blkRow (enc := bV) (h1 := fun _ => rfl) (n := 32) (cap := 32) (xs := shaF z) 0 rfl (by simp [shaF_len]) (Nat.le_refl _) (by decide) (by rw [List.toList_toArray, List.take_of_length_le (by simp [shaF_len])]) (shaF_len z).symm
  have H5 := Aside0.mk h5
  clear hb h4 h5 HSh H3
  go_wp2_with (refine wpList_store_row rfl 110 (.tmp 5) (.tmp 12) rfl w4.heap.size (((shaF z).map bV).toArray) rfl rfl 110 _ HG.out (size32 (shaF_len z)) (by simp [shaF_len, z32]) ones32 ?_)
  go_ret
  refine ⟨_, rfl, ?_⟩
  rw [← HM.out]
  exact H5.out
end Go.Proofs.YtdldblfklalaeaaGreatDoor
