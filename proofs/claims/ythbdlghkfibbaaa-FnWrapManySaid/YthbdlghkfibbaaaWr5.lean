/-
  jwebb.Wrap: its contract.
-/
import Derived.Test.YthbdlghkfibbaaaWr4
namespace Go.Proofs.Ythbdlghkfibbaaa
open Go.RowKit Go.Proofs.YthbdlghkfibbaaaW.PrintWords Go.Lib
set_option linter.unusedVariables false
set_option linter.unusedSimpArgs false
theorem info23 : (Try.prog.info? 23).map (fun i => (i.zero, i.size, i.bytes)) = some (some (.slice none 0 0), 1, 24) := by kernel_rfl
def nilS : Value := .slice none 0 0
def sl8 (g : Nat) : Value := .slice (some ⟨g, 0, none⟩) 8 8
/-- The row of rows, of which the first ones are laid. -/
def outerC (gs : List Nat) (m : Nat) : Array Value := (gs.map sl8 ++ List.replicate m nilS).toArray
theorem made_rep (z : Value) (n : Nat) : madeCells #[z] n = (List.replicate n z).toArray := by
  apply Array.ext
  · simp [madeCells]
  · intro i h1 h2
    simp [madeCells, Nat.mod_one]
theorem outerC_at (gs : List Nat) (m : Nat) : (outerC gs (m + 1))[gs.length]? = some nilS := by
  unfold outerC
  rw [List.getElem?_toArray, List.getElem?_append_right (by simp)]
  simp
theorem outerC_get (gs : List Nat) (m j g : Nat) (h : gs[j]? = some g) : (outerC gs m)[j]? = some (sl8 g) := by
  have hj := (List.getElem?_eq_some_iff.1 h).1
  unfold outerC
  rw [List.getElem?_toArray, List.getElem?_append_left (by simpa using hj), List.getElem?_map, h]
  rfl
theorem outerC_set (gs : List Nat) (m g : Nat) : (outerC gs (m + 1)).setIfInBounds gs.length (sl8 g) = outerC (gs ++ [g]) m := by
  unfold outerC
  rw [List.setIfInBounds_toArray, List.set_append_right _ _ (by simp)]
  simp [List.replicate_succ]
def eight0 : List UInt8 := [0, 0, 0, 0, 0, 0, 0, 0]
def Z8 : Array Value := (eight0.map bV).toArray
def Z16 : Array Value := ((eight0 ++ eight0).map bV).toArray
theorem inner_nil {w0 w : World} {B : Nat} {L : List Asrt} (e : Nat) (hS : Hold w0 B w L) : Hold w0 B w (.inner e [] [] :: L) :=
  hS.push (f' := fun _ => False) ⟨List.nodup_nil, rfl, fun i g x h => by simp at h⟩ (fun _ h => h.elim) ⟨rfl, rfl, rfl, Nat.le_refl _, fun _ _ _ => rfl⟩
theorem mid_get (Z D E : List UInt8) (k : Nat) (hZ : Z.length = 8) (hD : D.length = 8) (hk : k < 8) : (((Z.take k ++ D.drop k ++ E).map bV).toArray)[k]? = some (bV (D[k]'(by omega))) := by
  have h1 : (Z.take k).length = k := by rw [List.length_take]; omega
  rw [List.getElem?_toArray, List.getElem?_map, List.append_assoc, List.getElem?_append_right (by omega), h1, Nat.sub_self, List.getElem?_append_left (by rw [List.length_drop]; omega), List.getElem?_drop, Nat.add_zero, List.getElem?_eq_getElem (by omega)]
  rfl
theorem mid_set (Z D E : List UInt8) (k : Nat) (hZ : Z.length = 8) (hD : D.length = 8) (hk : k < 8) : ((Z.take k ++ D.drop k ++ E).map bV).toArray.setIfInBounds k (bV (Z[k]'(by omega))) = ((Z.take (k + 1) ++ D.drop (k + 1) ++ E).map bV).toArray := by
  have h1 : (Z.take k).length = k := by rw [List.length_take]; omega
  rw [List.setIfInBounds_toArray, ← List.map_set]
  congr 2
  rw [List.append_assoc, List.set_append_right _ _ (by omega), h1, Nat.sub_self, List.drop_eq_getElem_cons (show k < D.length by omega), List.cons_append, List.set_cons_zero, List.take_succ_eq_append_getElem (show k < Z.length by omega), List.append_assoc, List.append_assoc]
  rfl
theorem zip_get {D T Z : List UInt8} (h : List.zipWith (fun x y : UInt8 => x ^^^ y) D T = Z) (k : Nat) {hD : k < D.length} {hT : k < T.length} {hZ : k < Z.length} : D[k] ^^^ T[k] = Z[k] := by
  subst h
  simp
theorem mid_all {D T Z E : List UInt8} (h : List.zipWith (fun x y : UInt8 => x ^^^ y) D T = Z) (k : Nat) (hZ : Z.length = 8) (hD : D.length = 8) (hT : T.length = 8) (hk : k < 8) : ∃ dk tk zk : UInt8, dk ^^^ tk = zk ∧
    (((Z.take k ++ D.drop k ++ E).map bV).toArray)[k]? = some (bV dk) ∧ ((T.map bV).toArray)[k]? = some (bV tk) ∧ ((Z.take k ++ D.drop k ++ E).map bV).toArray.setIfInBounds k (bV zk) = ((Z.take (k + 1) ++ D.drop (k + 1) ++ E).map bV).toArray :=
  ⟨_, T[k]'(by omega), _, zip_get h k (hD := by omega) (hZ := by omega), mid_get Z D E k hZ hD hk, by rw [List.getElem?_toArray, List.getElem?_map, List.getElem?_eq_getElem (by omega)]; rfl, mid_set Z D E k hZ hD hk⟩
/-- The row of the result, of which the first words are laid. -/
def outL (a : List UInt8) (r : List UInt64) (k m : Nat) : List UInt8 := a ++ bytesW (r.take k) ++ List.replicate (8 * m) 0
theorem outL_step (a : List UInt8) (r : List UInt64) (k m : Nat) (x : UInt64) (hx : r[k]? = some x) : (outL a r k (m + 1)).take (a.length + 8 * k) ++ (beB x.toNat).take 8 ++ (outL a r k (m + 1)).drop (a.length + 8 * k + 8) = outL a r (k + 1) m := by
  have hk := (List.getElem?_eq_some_iff.1 hx).1
  have hA : (a ++ bytesW (r.take k)).length = a.length + 8 * k := by rw [List.length_append, bytesW_len, List.length_take]; omega
  unfold outL
  rw [List.take_left' hA, ← hA, List.drop_append, List.drop_replicate, List.take_of_length_le (Nat.le_of_eq (beB_len _)), List.drop_eq_nil_of_le (Nat.le_add_right _ _), List.nil_append,
    List.take_succ_eq_append_getElem hk, bytesW_snoc, (List.getElem?_eq_some_iff.1 hx).2, Nat.add_sub_cancel_left, show 8 * (m + 1) - 8 = 8 * m by omega]
  simp only [List.append_assoc]
theorem outL_len (a : List UInt8) (r : List UInt64) (k m : Nat) (hk : k ≤ r.length) : (outL a r k m).length = a.length + 8 * k + 8 * m := by
  unfold outL
  rw [List.length_append, List.length_append, bytesW_len, List.length_take, List.length_replicate]
  omega
theorem outL_all (a : List UInt8) (r : List UInt64) : outL a r r.length 0 = a ++ bytesW r := by
  unfold outL
  rw [List.take_length]
  simp
set_option maxRecDepth 100000 in
set_option maxHeartbeats 4000000 in
theorem wrap_any (w : World) (s : UInt64) (A : Option Addr) (c n : Nat) (xs : List UInt8) (hn : 0 < n) (hl : xs.length = 8 * n) (hle : 8 * n ≤ c) (hmx : n ≤ 1000) (hC : kB.C w A (8 * n) xs) :
    Calls Try.prog 22 #[.iface 48 (.agg #[hv s]), .slice A (8 * n) c] w fun e w' => ∃ g, e = .returned (.tuple #[.slice (some ⟨g, 0, none⟩) (8 * (n + 1)) (8 * (n + 1)), .nilIface]) ∧ Hold w w.heap.size w' [.blk g (.cells ((wrapOut s xs).map bV).toArray 5)] := by
  obtain ⟨ad, rfl, _⟩ := hC.2.2 (by omega)
  have HC := Aside0.mk hC
  have HL := Aside0.mk hl
  have hmk := run_make_row' (P := Try.prog) 58 23 (.slice none 0 0) 24 Try.underlying58 info23 rfl .i64 .i64 n (by omega) (by omega)
  have hmk8 : ∀ W, (Instr.makeSlice 23 (.int .i64 8) (.int .i64 8)).run Try.prog W = .ok (.slice (some ⟨W.heap.size, 0, none⟩) 8 8) (W.alloc (.cells Z8 5)) := fun W =>
    (run_make_row' (P := Try.prog) 23 5 (bV 0) 1 Try.underlying23 infoB rfl .i64 .i64 8 (by omega) (by omega) W).trans (by rw [show madeCells #[bV 0] 8 = Z8 by rw [made_rep]; rfl])
  have hmk16 : ∀ W, (Instr.makeSlice 23 (.int .i64 16) (.int .i64 16)).run Try.prog W = .ok (.slice (some ⟨W.heap.size, 0, none⟩) 16 16) (W.alloc (.cells Z16 5)) := fun W =>
    (run_make_row' (P := Try.prog) 23 5 (bV 0) 1 Try.underlying23 infoB rfl .i64 .i64 16 (by omega) (by omega) W).trans (by rw [show madeCells #[bV 0] 16 = Z16 by rw [made_rep]; rfl])
  have hme : ∀ W, (method 224 48 (.agg #[hv s]) "Encrypt").run Try.prog W = .ok (75, .agg #[hv s]) W := fun W => by kernel_rfl
  have em : madeCells #[.slice none 0 0] n = outerC [] n := by rw [made_rep]; rfl
  simp only [em] at hmk
  have H0 := Aside0.mk ((inner_nil 5 ((Hold.start w).alloc (.cells (outerC [] n) 23))).swap)
  clear hC hl em
  have d1 : ((8 * n : Nat) : Int) / 8 = (n : Int) := by omega
  have d2 : ((8 * n : Nat) : Int) % 8 = 0 := by omega
  go_enter Try.func22, Try.ntmps22
  go_wp2
  go_loopw [30] (fun i wr => ∃ (k : Nat) (gs : List Nat), k ≤ n ∧ i = .int .i64 k ∧ gs.length = k ∧ Hold w w.heap.size wr [.blk w.heap.size (.cells (outerC gs (n - k)) 23), .inner 5 gs (wordsOf k xs)]) (fun i _ => n - (intOf i).toNat)
  case atStart => exact ⟨0, [], by omega, rfl, rfl, H0.out⟩
  case round =>
    obtain ⟨k, gs, hk, rfl, hgl, hR⟩ := hrel
    by_cases hlt : k < n
    · have hgz : (outerC gs (n - k))[k]? = some nilS := by
        rw [show n - k = (n - k - 1) + 1 by omega, ← hgl]
        exact outerC_at gs _
      obtain ⟨e1, f1⟩ := hR.cellAt 0 rfl k _ hgz
      have hg0 : w.heap.size < wr.heap.size := hR.blk_lt 0 rfl
      have hRa := ((hR.store 0 rfl k (sl8 wr.heap.size)).alloc (.cells Z8 5)).drew
      rw [show (wr.setCell ⟨w.heap.size, k, none⟩ (sl8 wr.heap.size)).heap.size = wr.heap.size by simp [World.setCell]] at hRa
      have HR := Aside0.mk hRa
      clear hRa
      have HG := Aside0.mk hgl
      obtain ⟨m, hm⟩ : ∃ m, m = 8 * k := ⟨_, rfl⟩
      have hw : IntKind.i64.wrap ((k : Int) * 8) = (m : Int) := by rw [hm, IntKind.wrap_i64]; omega
      have hm1 : (m : Int) ≤ 8 * (n : Int) := by omega
      have hm2 : ¬ (c = m) := by omega
      obtain ⟨x, hx⟩ : ∃ x, x = UInt64.ofNat (beN ((xs.drop m).take 8)) := ⟨_, rfl⟩
      have HX : Aside0 (eight0.take 0 ++ (xs.drop m).take 8 ++ eight0.drop (0 + 8) = beB x.toNat) := ⟨by
        rw [hx, beB_word (by rw [List.length_take, List.length_drop, HL.out]; omega)]
        simp [eight0]⟩
      have HMi : Aside0 (8 = min (8 * n - m) 8) := ⟨by omega⟩
      have HM := Aside0.mk hm
      have HXx := Aside0.mk hx
      clear hgz hgl hR hm hx
      unfold nilS at e1
      go_wp2
      go_region_law ((with_reducible refine stepCopy (.tmp 40) (.tmp 44) 23 23 rfl ?_); refine step_of rfl ?_; refine copy_wp (zs := eight0) (ys := xs.drop m) (t := 5) (HR.out.blk 0 rfl) (.tmp 40) (.tmp 44) 23 23 rfl Try.underlying23 (by kernel_rfl) 0 8 8 (8 * n - m) (c - m) (ad.add m) rfl rfl (HR.out.C (C_dropA HC.out m (by omega))) 8 HMi.out (Nat.le_refl _) (beB x.toNat) HX.out ?_; replace HR := Aside0.mk (HR.out.setRow (cs' := ((beB x.toNat).map bV).toArray) 0 rfl))
      go_wp2
      go_roundw
      case rel =>
        refine ⟨k + 1, gs ++ [wr.heap.size], hlt, by go_num, by simp [HG.out], ?_⟩
        have h := HR.out
        have eo : (outerC gs (n - k)).setIfInBounds k (sl8 wr.heap.size) = outerC (gs ++ [wr.heap.size]) (n - (k + 1)) := by
          rw [show n - k = (n - (k + 1)) + 1 by omega, ← HG.out]
          exact outerC_set gs _ _
        rw [eo] at h
        rw [wordsOf_snoc, ← HM.out, ← HXx.out]
        exact Hold.inner_add h
      case measure => simp [intOf]; omega
    · obtain rfl : n = k := by omega
      rw [Nat.sub_self] at hR
      obtain ⟨wl, hwl⟩ : ∃ wl, wl = wr := ⟨_, rfl⟩
      subst hwl
      have HRa := Aside0.mk ((hR.alloc (.cells Z16 5)).alloc (.cells Z8 5))
      have HG := Aside0.mk hgl
      clear hR hgl
      go_wp2_with fail
      refine (iv_any _).mono ?_
      rintro e w4 ⟨rfl, rfl⟩
      have hRb := HRa.out.alloc (.cells ((beB ivU.toNat).map bV).toArray 5)
      rw [show (wl.alloc (.cells Z16 5)).heap.size = wl.heap.size + 1 by simp] at hRb
      have hCi := C_blk hRb 0 rfl (by rw [beB_len]; decide)
      rw [show ((wl.alloc (.cells Z16 5)).alloc (.cells Z8 5)).heap.size = wl.heap.size + 1 + 1 by simp, beB_len] at hCi
      have HCi := Aside0.mk hCi
      have HRb := Aside0.mk hRb.tail
      have HZi : Aside0 ((eight0 ++ eight0).take 0 ++ (beB ivU.toNat).take 8 ++ (eight0 ++ eight0).drop (0 + 8) = beB ivU.toNat ++ eight0) := ⟨rfl⟩
      clear hRb hCi HRa
      go_wp2_with ((with_reducible refine at_bi (b := .copy) (xs := #[.tmp 49, .tmp 50]) rfl ?_); refine wpList_plain rfl fun K hK => ?_; refine copy_wp (zs := eight0 ++ eight0) (ys := beB ivU.toNat) (t := 5) (HRb.out.blk 1 rfl) (.tmp 49) (.tmp 50) 23 23 rfl Try.underlying23 (by kernel_rfl) 0 16 16 8 8 _ rfl rfl HCi.out 8 rfl (by decide) (beB ivU.toNat ++ eight0) HZi.out ?_; refine hK _ _ ?_; clear hK K)
      have HS := Aside0.mk (HRb.out.setRow (cs' := ((beB ivU.toNat ++ eight0).map bV).toArray) 1 rfl)
      have hd8 : (⟨wl.heap.size, 0, none⟩ : Addr).add 8 = ⟨wl.heap.size, 8, none⟩ := rfl
      clear HCi HRb HZi
      go_loopw [54] (fun i wq => ∃ (t : Nat) (y tb : List UInt8), t ≤ 6 * n ∧ i = .int .i64 t ∧ y.length = 8 ∧ tb.length = 8 ∧ Hold w w.heap.size wq [.blk (wl.heap.size + 1) (.cells (tb.map bV).toArray 5), .blk wl.heap.size (.cells ((beB (wrapN s n t (ivU, wordsOf n xs)).1.toNat ++ y).map bV).toArray 5), .blk w.heap.size (.cells (outerC gs 0) 23), .inner 5 gs (wrapN s n t (ivU, wordsOf n xs)).2]) (fun i _ => 6 * n - (intOf i).toNat)
      case atStart => exact ⟨0, eight0, eight0, by omega, rfl, rfl, rfl, HS.out⟩
      case round =>
        obtain ⟨t, y, tb, ht, rfl, hy, htb, hR⟩ := hrel
        by_cases hlt2 : t < 6 * n
        · obtain ⟨st, hst⟩ : ∃ st, st = wrapN s n t (ivU, wordsOf n xs) := ⟨_, rfl⟩
          have hsl : st.2.length = n := by rw [hst, wrapN_len]; exact wordsOf_len n xs
          rw [← hst] at hR
          obtain ⟨j, hj⟩ : ∃ j, j = t % n := ⟨_, rfl⟩
          have hjn : j < n := by rw [hj]; exact Nat.mod_lt _ hn
          have hrem : (t : Int).tmod (n : Int) = (j : Int) := by rw [hj]; rfl
          have hn0 : ¬ (n = 0) := by omega
          obtain ⟨g, hg⟩ : ∃ g, gs[j]? = some g := ⟨_, List.getElem?_eq_getElem (by rw [HG.out]; exact hjn)⟩
          obtain ⟨x, hx⟩ : ∃ x, st.2[j]? = some x := ⟨_, List.getElem?_eq_getElem (by rw [hsl]; exact hjn)⟩
          have hRd := hR.drew
          obtain ⟨e1, f1⟩ := hRd.cellAt 2 rfl j (sl8 g) (outerC_get gs 0 j g hg)
          obtain ⟨e2, f2⟩ := hR.cellAt 2 rfl j (sl8 g) (outerC_get gs 0 j g hg)
          unfold sl8 at e1 e2
          have HCx := Aside0.mk (hRd.inner_C 3 rfl j g x hg hx)
          have HR := Aside0.mk hRd
          have HZ1 : Aside0 ((beB st.1.toNat ++ y).take 8 ++ (beB x.toNat).take 8 ++ (beB st.1.toNat ++ y).drop (8 + 8) = blockOf (st.1, x)) := ⟨by
            rw [List.take_left' (beB_len _), List.take_of_length_le (Nat.le_of_eq (beB_len _)), List.drop_eq_nil_of_le (by rw [List.length_append, hy, beB_len]; exact Nat.le_refl _), List.append_nil]
            rfl⟩
          have HZf : Aside0 (8 + 8 ≤ (beB st.1.toNat ++ y).length) := ⟨by rw [List.length_append, hy, beB_len]; exact Nat.le_refl _⟩
          have HST := Aside0.mk (And.intro hst (And.intro hsl (And.intro hj (And.intro hg hx))))
          have HTB := Aside0.mk htb
          clear hst hsl hj hg hx hR hRd hy htb HS
          go_wp2
          go_region_law ((with_reducible refine stepCopy (.tmp 58) (.tmp 64) 23 23 rfl ?_); refine step_of rfl ?_; refine copy_wp (zs := beB st.1.toNat ++ y) (ys := beB x.toNat) (t := 5) (HR.out.blk 1 rfl) (.tmp 58) (.tmp 64) 23 23 rfl Try.underlying23 (by kernel_rfl) 8 8 8 8 8 _ rfl rfl HCx.out 8 rfl HZf.out (blockOf (st.1, x)) HZ1.out ?_; replace HR := Aside0.mk (HR.out.setRow (cs' := ((blockOf (st.1, x)).map bV).toArray) 1 rfl))
          clear HCx HZ1 HZf e1 f1
          go_wp2_with fail
          refine (encrypt_any _ s wl.heap.size 16 16 (blockOf (st.1, x)) (blockOf_len _) HR.out.swap).mono ?_
          rw [mixB_blockOf]
          rintro e w5 ⟨rfl, hE⟩
          obtain ⟨p, hp⟩ : ∃ p, p = mixU s (st.1, x) := ⟨_, rfl⟩
          rw [← hp] at hE
          have HP := Aside0.mk hp
          replace HR := Aside0.mk hE.swap
          clear hE hp e2 f2
          go_wp2_with fail
          have hP1 := put64b_any _ (wl.heap.size + 1) 8 (t + 1) tb HTB.out (by omega) HR.out
          rw [show ((t + 1 : Nat) : Int) = (t : Int) + 1 from rfl] at hP1
          refine hP1.mono ?_
          clear hP1 HR HTB
          rintro e w6 ⟨rfl, hE⟩
          obtain ⟨a1, ha1⟩ : ∃ a1, a1 = p.1 ^^^ UInt64.ofNat (t + 1) := ⟨_, rfl⟩
          have HA := Aside0.mk ha1
          have HZx : Aside0 (List.zipWith (fun x y : UInt8 => x ^^^ y) (beB p.1.toNat) (beB (t + 1)) = beB a1.toNat) := ⟨by
            rw [beB_xor, ha1, UInt64.toNat_xor, UInt64.toNat_ofNat_of_lt' (show t + 1 < 18446744073709551616 by omega)]⟩
          have HE := Aside0.mk hE
          clear ha1 hE
          go_wp2
          go_loopw [76] (fun i wq => ∃ k : Nat, k ≤ 8 ∧ i = .int .i64 k ∧ Hold w w.heap.size wq [.blk (wl.heap.size + 1) (.cells ((beB (t + 1)).map bV).toArray 5), .blk wl.heap.size (.cells (((beB a1.toNat).take k ++ (beB p.1.toNat).drop k ++ beB p.2.toNat).map bV).toArray 5), .blk w.heap.size (.cells (outerC gs 0) 23), .inner 5 gs st.2]) (fun i _ => 8 - (intOf i).toNat)
          case atStart => exact ⟨0, by omega, rfl, HE.out⟩
          case round =>
            obtain ⟨k, hk8, rfl, hR⟩ := hrel
            by_cases hlt3 : k < 8
            · have hRd := hR.drew
              obtain ⟨dk, tk, zk, hz, q1, q2, q3⟩ := mid_all (E := beB p.2.toNat) HZx.out k rfl rfl rfl hlt3
              obtain ⟨b1, b2⟩ := hRd.cellAt 1 rfl k _ q1
              obtain ⟨b3, _⟩ := hRd.cellAt 0 rfl k _ q2
              have hRs := (hR.store 1 rfl k (bV zk)).drew
              rw [q3] at hRs
              have HR := Aside0.mk hRs
              change _ = some (Value.int .u8 (dk.toNat : Int)) at b1
              change _ = some (Value.int .u8 (tk.toNat : Int)) at b3
              have s1 := xor8U dk tk
              rw [hz] at s1
              clear hR hRd hz q1 q2 q3 HE hRs
              go_wp2
              go_region
              go_wp2
              go_roundw
              case rel => exact ⟨k + 1, hlt3, by go_num, HR.out⟩
              case measure => simp [intOf]; omega
            · obtain rfl : k = 8 := by omega
              have hq : (beB a1.toNat).take 8 ++ (beB p.1.toNat).drop 8 ++ beB p.2.toNat = blockOf (a1, p.2) := rfl
              rw [hq] at hR
              have hRd := hR.drew
              obtain ⟨hst, hsl, hj, hg, hx⟩ := HST.out
              obtain ⟨e1, f1⟩ := hRd.cellAt 2 rfl j (sl8 g) (outerC_get gs 0 j g hg)
              unfold sl8 at e1
              have hCb := C_blk hRd 1 rfl (by rw [blockOf_len]; decide)
              rw [blockOf_len] at hCb
              have HCb := Aside0.mk (show kB.C _ (some ⟨wl.heap.size, 8, none⟩) 8 (beB p.2.toNat) from C_dropA hCb 8 (by omega))
              have HBk := Aside0.mk (hRd.inner_blk 3 rfl j g x hg hx)
              have HZ2 : Aside0 ((beB x.toNat).take 0 ++ (beB p.2.toNat).take 8 ++ (beB x.toNat).drop (0 + 8) = beB p.2.toNat) := ⟨rfl⟩
              have HR := Aside0.mk hRd
              have HGj := Aside0.mk hg
              clear hR hRd hst hsl hj hg hx hCb hq HE
              go_wp2
              go_region_law ((with_reducible refine stepCopy (.tmp 97) (.tmp 99) 23 23 rfl ?_); refine step_of rfl ?_; refine copy_wp (zs := beB x.toNat) (ys := beB p.2.toNat) (t := 5) HBk.out (.tmp 97) (.tmp 99) 23 23 rfl Try.underlying23 (by kernel_rfl) 0 8 8 8 8 _ rfl rfl HCb.out 8 rfl (Nat.le_of_eq rfl) (beB p.2.toNat) HZ2.out ?_; replace HR := Aside0.mk (HR.out.inner_set 3 rfl j g p.2 HGj.out))
              go_wp2
              go_roundw
              case rel =>
                obtain ⟨hst, hsl, hj, hg, hx⟩ := HST.out
                have hgd : st.2.getD j 0 = x := by rw [List.getD_eq_getElem?_getD, hx]; rfl
                have hN : wrapN s n (t + 1) (ivU, wordsOf n xs) = (a1, st.2.set j p.2) := by
                  show wrapR s n (wrapN s n t (ivU, wordsOf n xs)) t = _
                  rw [← hst]
                  unfold wrapR
                  rw [← hj, hgd, ← HP.out, ← HA.out]
                refine ⟨t + 1, beB p.2.toNat, beB (t + 1), hlt2, by go_num, rfl, rfl, ?_⟩
                rw [hN]
                exact HR.out
              case measure => simp [intOf]; omega
        · obtain rfl : t = 6 * n := by omega
          have hql : (wrapN s n (6 * n) (ivU, wordsOf n xs)).2.length = n := by rw [wrapN_len]; exact wordsOf_len n xs
          have hWO : wrapOut s xs = beB (wrapN s n (6 * n) (ivU, wordsOf n xs)).1.toNat ++ bytesW (wrapN s n (6 * n) (ivU, wordsOf n xs)).2 := by
            unfold wrapOut
            rw [show xs.length / 8 = n by rw [HL.out]; omega]
          obtain ⟨q, hq⟩ : ∃ q, q = wrapN s n (6 * n) (ivU, wordsOf n xs) := ⟨_, rfl⟩
          rw [← hq] at hR hql hWO
          have HWO := Aside0.mk hWO
          obtain ⟨N, hN⟩ : ∃ N, N = 8 * (n + 1) := ⟨_, rfl⟩
          have hmkO : ∀ W, (Instr.makeSlice 23 (.int .i64 (((n : Int) + 1) * 8)) (.int .i64 (((n : Int) + 1) * 8))).run Try.prog W = .ok (.slice (some ⟨W.heap.size, 0, none⟩) N N) (W.alloc (.cells ((List.replicate N (0 : UInt8)).map bV).toArray 5)) := fun W => by
            rw [show ((n : Int) + 1) * 8 = ((N : Nat) : Int) by omega]
            exact (run_make_row' (P := Try.prog) 23 5 (bV 0) 1 Try.underlying23 infoB rfl .i64 .i64 N (by omega) (by omega) W).trans (by rw [made_rep, List.map_replicate])
          obtain ⟨O0, hO0⟩ : ∃ O0, O0 = List.replicate N (0 : UInt8) := ⟨_, rfl⟩
          rw [← hO0] at hmkO
          have hRa := hR.alloc (.cells (O0.map bV).toArray 5)
          have hCb := C_blk hRa 2 rfl (by rw [List.length_append, hy, beB_len]; decide)
          rw [List.length_append, hy, beB_len] at hCb
          have hCt := C_takeA hCb 8 (by omega)
          rw [List.take_left' (beB_len _)] at hCt
          have HCt := Aside0.mk hCt
          have HRa := Aside0.mk hRa.swap.tail.swap.tail
          have HZo : Aside0 (O0.take 0 ++ (beB q.1.toNat).take 8 ++ O0.drop (0 + 8) = outL (beB q.1.toNat) q.2 0 n) := ⟨by
            rw [hO0, hN, List.drop_replicate, List.take_of_length_le (Nat.le_of_eq (beB_len _)), show 8 * (n + 1) - (0 + 8) = 8 * n by omega]
            simp [outL, bytesW]⟩
          have HOk : Aside0 (8 = min 8 N ∧ 0 + 8 ≤ O0.length) := ⟨by rw [hO0, List.length_replicate]; omega⟩
          have HQ := Aside0.mk hql
          have HNn := Aside0.mk hN
          have hN1 : 0 ≤ (N : Int) := by omega
          clear hR hRa hCb hCt hO0 hy htb hWO hq hql hN
          go_wp2_with ((with_reducible refine at_bi (b := .copy) (xs := #[.tmp 106, .tmp 108]) rfl ?_); refine wpList_plain rfl fun K hK => ?_; refine copy_wp (zs := O0) (ys := beB q.1.toNat) (t := 5) (HRa.out.blk 0 rfl) (.tmp 106) (.tmp 108) 23 23 rfl Try.underlying23 (by kernel_rfl) 0 N N 8 16 _ rfl rfl HCt.out 8 HOk.out.1 HOk.out.2 (outL (beB q.1.toNat) q.2 0 n) HZo.out ?_; refine hK _ _ ?_; clear hK K)
          have HS := Aside0.mk (HRa.out.setRow (cs' := ((outL (beB q.1.toNat) q.2 0 n).map bV).toArray) 0 rfl)
          obtain ⟨we, hwe⟩ : ∃ we, we = wr := ⟨_, rfl⟩
          subst hwe
          clear HRa HZo HOk HCt
          go_loopw [112] (fun i wq => ∃ k : Nat, k ≤ n ∧ i = .int .i64 k ∧ Hold w w.heap.size wq [.blk we.heap.size (.cells ((outL (beB q.1.toNat) q.2 k (n - k)).map bV).toArray 5), .blk w.heap.size (.cells (outerC gs 0) 23), .inner 5 gs q.2]) (fun i _ => n - (intOf i).toNat)
          case atStart => exact ⟨0, by omega, rfl, HS.out⟩
          case round =>
            obtain ⟨k, hkn, rfl, hR⟩ := hrel
            by_cases hlt4 : k < n
            · obtain ⟨g, hg⟩ : ∃ g, gs[k]? = some g := ⟨_, List.getElem?_eq_getElem (by rw [HG.out]; exact hlt4)⟩
              obtain ⟨x, hx⟩ : ∃ x, q.2[k]? = some x := ⟨_, List.getElem?_eq_getElem (by rw [HQ.out]; exact hlt4)⟩
              have hRd := hR.drew
              obtain ⟨e1, f1⟩ := hRd.cellAt 1 rfl k (sl8 g) (outerC_get gs 0 k g hg)
              unfold sl8 at e1
              have HCx := Aside0.mk (hRd.inner_C 2 rfl k g x hg hx)
              obtain ⟨m, hm⟩ : ∃ m, m = 8 * (k + 1) := ⟨_, rfl⟩
              obtain ⟨k1, hk1⟩ : ∃ k1, k1 = k + 1 := ⟨_, rfl⟩
              have hNn := HNn.out
              have hw1 : IntKind.i64.wrap ((k : Int) + 1) = (k1 : Int) := by rw [hk1, IntKind.wrap_i64]; omega
              have hw2 : IntKind.i64.wrap ((k1 : Int) * 8) = (m : Int) := by rw [hm, hk1, IntKind.wrap_i64]; omega
              have hm1 : (m : Int) ≤ (N : Int) := by omega
              have hm2 : ¬ (N = m) := by omega
              have HZ : Aside0 ((outL (beB q.1.toNat) q.2 k (n - k)).take m ++ (beB x.toNat).take 8 ++ (outL (beB q.1.toNat) q.2 k (n - k)).drop (m + 8) = outL (beB q.1.toNat) q.2 (k + 1) (n - (k + 1))) := ⟨by
                have := outL_step (beB q.1.toNat) q.2 k (n - (k + 1)) x hx
                rw [beB_len, show 8 + 8 * k = m by omega, show n - (k + 1) + 1 = n - k by omega] at this
                exact this⟩
              have HOk : Aside0 (8 = min 8 (N - m) ∧ m + 8 ≤ (outL (beB q.1.toNat) q.2 k (n - k)).length) := ⟨by
                rw [outL_len _ _ _ _ (by rw [HQ.out]; exact hkn), beB_len]
                omega⟩
              have HR := Aside0.mk hRd
              have HK1 := Aside0.mk hk1
              clear hR hRd hg hx hm hk1 hNn HS
              go_wp2
              go_region_law ((with_reducible refine stepCopy (.tmp 119) (.tmp 123) 23 23 rfl ?_); refine step_of rfl ?_; refine copy_wp (zs := outL (beB q.1.toNat) q.2 k (n - k)) (ys := beB x.toNat) (t := 5) (HR.out.blk 0 rfl) (.tmp 119) (.tmp 123) 23 23 rfl Try.underlying23 (by kernel_rfl) m (N - m) (N - m) 8 8 _ rfl rfl HCx.out 8 HOk.out.1 HOk.out.2 (outL (beB q.1.toNat) q.2 (k + 1) (n - (k + 1))) HZ.out ?_; replace HR := Aside0.mk (HR.out.setRow (cs' := ((outL (beB q.1.toNat) q.2 (k + 1) (n - (k + 1))).map bV).toArray) 0 rfl))
              go_wp2
              go_roundw
              case rel => exact ⟨k + 1, hlt4, by rw [← HK1.out], HR.out⟩
              case measure => have := HK1.out; simp [intOf]; omega
            · obtain rfl : n = k := by omega
              have hq2 := outL_all (beB q.1.toNat) q.2
              rw [HQ.out] at hq2
              rw [Nat.sub_self, hq2, ← HWO.out] at hR
              have HR := Aside0.mk hR.swap.tail.swap.tail
              clear hR hq2
              go_wp2
              go_ret2
              rw [← HNn.out]
              exact ⟨_, rfl, HR.out⟩
end Go.Proofs.Ythbdlghkfibbaaa
