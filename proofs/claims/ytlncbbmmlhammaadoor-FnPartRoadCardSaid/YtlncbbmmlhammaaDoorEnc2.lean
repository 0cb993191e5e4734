/-
  encoding/base64: NewEncoding's walk.
-/
import Derived.Test.YtlncbbmmlhammaaDoorEnc
namespace Go.Proofs.YtlncbbmmlhammaaDoor
open Go.RowKit Go.Proofs.YtlncbbmmlhammaaDoorW.PrintWords Go.Lib
set_option linter.unusedVariables false
set_option linter.unusedSimpArgs false
theorem Hold.cellq {w0 : World} {B : Nat} {w : World} {L : List Asrt} {g : Nat} {cs : Array Value} {t : Nat} (hS : Hold w0 B w L) (i : Nat) (hi : L[i]? = some (.blk g (.cells cs t (0, 0)))) (j : Nat) (v : Value) (hj : cs[j]? = some v) :
    w.cell? ⟨g, j, none⟩ = some v ∧ w.frozen? ⟨g, j, none⟩ = false := by
  obtain ⟨hjs, hv⟩ := Array.getElem?_eq_some_iff.1 hj
  have := hS.cell i hi j hjs
  rw [hv] at this
  exact this
set_option maxRecDepth 100000 in
set_option maxHeartbeats 4000000 in
theorem newEnc_any (w : World) (s : ByteArray) (hA : Alpha s.data.toList) :
    Calls Tryd.prog 28 #[.string s] w fun e w' => e = .returned (.pointer (some ⟨w.heap.size, 0, none⟩)) ∧ Hold w w.heap.size w' [.blk w.heap.size (.cells (ecells s.data.toList (decN s.data.toList 64) 61) 70)] := by
  have hsz : s.size = 64 := hA.len
  have H0 := Aside0.mk (Hold.start w)
  have HA := Aside0.mk hA
  have hu := Tryd.underlying70
  have HZ1 : Aside0 (0 + s.size ≤ (ecells (List.replicate 64 0) (List.replicate 256 0) 61).size) := ⟨by rw [ecells_size List.length_replicate List.length_replicate]; omega⟩
  have HZ2 : Aside0 (((ecells (List.replicate 64 0) (List.replicate 256 0) 61).toList.take 0 ++ byteCells s.data.toList ++ (ecells (List.replicate 64 0) (List.replicate 256 0) 61).toList.drop (0 + s.size)).toArray = ecells s.data.toList (List.replicate 256 0) 61) := ⟨by rw [hsz]; exact ecells_enc _ _ _ hA.len List.length_replicate _⟩
  have HZ3 : Aside0 (64 + 256 ≤ (ecells s.data.toList (List.replicate 256 0) 61).size) := ⟨by rw [ecells_size hA.len List.length_replicate]; decide⟩
  clear hA
  go_enter Tryd.func28, Tryd.ntmps28
  go_wp2_with (first
    | ((with_reducible refine at_dst (N := 9) rfl ?_); refine Hold.allocZ H0.out rfl rfl 70 rfl zEnc _ zEnc_info rfl ?_; intro w1 h1 hlt1; have H1 := Aside0.mk h1; have hc := (H1.out.cellq 0 rfl 320 _ (ecells_atP _ _ _ (by rfl) (by rfl))).1; have hf := (H1.out.cellq 0 rfl 320 _ (ecells_atP _ _ _ (by rfl) (by rfl))).2; have H2 : Aside0 (Hold w w.heap.size (w1.setCell ⟨w.heap.size, 320, none⟩ (.int .i32 61)) [.blk w.heap.size (.cells (ecells (List.replicate 64 0) (List.replicate 256 0) 61) 70)]) := ⟨(by have h := H1.out.store 0 rfl 320 (.int .i32 61); rw [show zEnc.cells = ecells (List.replicate 64 0) (List.replicate 256 0) 0 from rfl, ecells_pad _ _ (by rfl) (by rfl)] at h; exact h)⟩; clear h1 H0 H1)
    | ((with_reducible refine at_bi (b := .copy) (xs := #[.tmp 16, .tmp 17]) rfl ?_); refine Hold.copyStr 0 H2.out rfl rfl (.tmp 16) (.tmp 17) 22 9 5 rfl Tryd.underlying22 (by kernel_rfl) 0 64 64 s rfl rfl (by omega) HZ1.out _ HZ2.out ?_; intro w2 h3 hs2; have H3 := Aside0.mk h3; clear h3 H2)
    | ((with_reducible refine at_bi (b := .copy) (xs := #[.tmp 22, _]) rfl ?_); refine Hold.copyStr 0 H3.out rfl rfl (.tmp 22) _ 22 9 5 rfl Tryd.underlying22 (by kernel_rfl) 64 256 256 ⟨ff256.toArray⟩ rfl rfl (by show 256 ≤ 256; exact Nat.le_refl _) HZ3.out (ecells s.data.toList ff256 61) (ecells_dec _ _ _ HA.out.len List.length_replicate List.length_replicate _) ?_; intro w3 h4 hs3; have H4 := Aside0.mk h4; clear h4 H3))
  clear hc hf
  go_loopw [4] (fun i wr => ∃ k : Nat, k ≤ 64 ∧ i = .int .i64 k ∧ Hold w w.heap.size wr [.blk w.heap.size (.cells (ecells s.data.toList (decN s.data.toList k) 61) 70)]) (fun i _ => 64 - (intOf i).toNat)
  case atStart => exact ⟨0, Nat.zero_le _, rfl, H4.out⟩
  case round =>
    obtain ⟨k, hk, rfl, hR⟩ := hrel
    have HR := Aside0.mk hR
    clear hR H4
    by_cases hlt : k < 64
    · have hlt2 : k + 1 ≤ 64 := hlt
      obtain ⟨⟨hn1, hn2⟩, hn3⟩ := HA.out.ok k hlt
      have hks : k < s.size := by omega
      obtain ⟨c, hc⟩ : ∃ c, c = s[k] := ⟨_, rfl⟩
      have hcd : s.data.toList.getD k 0 = c := by
        rw [hc, List.getD_eq_getElem?_getD, List.getElem?_eq_getElem (by simpa using hks)]
        simp [ByteArray.getElem_eq_getElem_data]
      rw [hcd] at hn1 hn2 hn3
      have hsk : s[k] = c := hc.symm
      have hlc : c.toNat < 256 := c.toNat_lt
      have t1 : ((c.toNat : Int) == 10) = false := by
        rw [beq_eq_false_iff_ne]; intro h; exact hn1 (UInt8.toNat_inj.1 (by show c.toNat = 10; omega))
      have t2 : ((c.toNat : Int) == 13) = false := by
        rw [beq_eq_false_iff_ne]; intro h; exact hn2 (UInt8.toNat_inj.1 (by show c.toNat = 13; omega))
      have HD : Aside0 ((decN s.data.toList k).set c.toNat (UInt8.ofNat k) = decN s.data.toList (k + 1)) := ⟨by show _ = (decN s.data.toList k).set _ _; rw [hcd]⟩
      obtain ⟨e1, f1⟩ := HR.out.cellq 0 rfl (64 + c.toNat) _ (ecells_atD _ _ _ HA.out.len (decN_len _ _) c.toNat hlc)
      rw [hn3] at e1
      have e2 : wr.cell? ⟨w.heap.size, 64 + c.toNat, none⟩ = some (.int .u8 255) := e1
      clear hn1 hn2 hn3 hc hcd e1
      go_wp2
      go_quiet (fail)
      go_wp2
      go_region
      go_wp2
      go_roundw
      case rel =>
        refine ⟨k + 1, hlt2, by go_num, ?_⟩
        have hv : (k : Int) = ((UInt8.ofNat k).toNat : Int) := by
          rw [UInt8.toNat_ofNat_of_lt' (by show k < 256; omega)]
        rw [hv]
        have h := (HR.out.drewN (nq + 1)).store 0 rfl (64 + c.toNat) (.int .u8 ((UInt8.ofNat k).toNat : Int))
        rw [ecells_set _ _ HA.out.len _ (by rw [decN_len]; exact hlc), HD.out] at h
        exact h
      case measure => simp [intOf]; omega
    · obtain rfl : k = 64 := by omega
      go_wp2
      go_ret
      exact ⟨rfl, HR.out⟩
end Go.Proofs.YtlncbbmmlhammaaDoor
