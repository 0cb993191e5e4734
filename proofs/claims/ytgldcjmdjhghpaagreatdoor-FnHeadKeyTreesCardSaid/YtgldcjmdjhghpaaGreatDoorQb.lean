/-
  fastjson's skipWS: its contract.
  fastjson's zzFold: its contract.
  errors.New: its contract; what a reader of texts gives.
  strings.IndexByte: its contract.
-/
import Derived.Test.YtgldcjmdjhghpaaGreatDoorQa
import Derived.BigQuiet
import Derived.Deep.QuietTactic
import Derived.Deep.DeepFit
import Derived.Lib.Bytealg
import Derived.BigCall
import Derived.Lib.Strings
namespace Go.Proofs.YtgldcjmdjhghpaaGreatDoor
open Go.RowKit Go.Proofs.YtgldcjmdjhghpaaGreatDoorW.PrintWords Go.ChangeShapes Go.WideShapes
set_option linter.unusedVariables false
set_option linter.unusedSimpArgs false
set_option maxRecDepth 100000
theorem ws_yes {c : UInt8} (h : isWS c = true) : c = 32 ∨ c = 10 ∨ c = 9 ∨ c = 13 := by
  unfold isWS at h
  simp only [Bool.or_eq_true, beq_iff_eq] at h
  rcases h with ((h | h) | h) | h
  · exact .inl h
  · exact .inr (.inl h)
  · exact .inr (.inr (.inl h))
  · exact .inr (.inr (.inr h))
theorem ws_no {c : UInt8} (h : isWS c = false) : NeC c 32 ∧ NeC c 10 ∧ NeC c 9 ∧ NeC c 13 := by
  unfold isWS at h
  simp only [Bool.or_eq_false_iff, beq_eq_false_iff_ne] at h
  obtain ⟨⟨⟨h1, h2⟩, h3⟩, h4⟩ := h
  exact ⟨neC 32 (toNat_ne h1), neC 10 (toNat_ne h2), neC 9 (toNat_ne h3), neC 13 (toNat_ne h4)⟩
theorem skipSlow_no (c : UInt8) (r : Bs) (w : World) (hw : isWS c = false) :
    Calls Tryz.prog 60 #[.string (bStr (c :: r))] w fun e w' => e = .returned (.string (bStr (c :: r))) ∧ w = w' := by
  obtain ⟨⟨a1, b1, d1⟩, ⟨a2, b2, d2⟩, ⟨a3, b3, d3⟩, ⟨a4, b4, d4⟩⟩ := ws_no hw
  have T := tcons c r
  obtain ⟨t, ht⟩ : ∃ t, t = bStr (c :: r) := ⟨_, rfl⟩
  rw [← ht] at T ⊢
  obtain ⟨-, tp, tn, tz, t0, tt⟩ := T
  have t0 := t0 tp
  clear ht tt hw
  go_enter Tryz.func60, Tryz.ntmps60
  go_wp2
  go_ret
  exact ⟨rfl, rfl⟩
theorem skipWS_at (s : Bs) (k : Nat) (h : ∀ c ∈ s.take k, isWS c = true) : skipWS s = skipWS (s.drop k) := by
  unfold skipWS
  conv => lhs; rw [← List.take_append_drop k s]
  rw [List.dropWhile_append_of_pos h]
theorem skipWS_stop (s : Bs) (k : Nat) (hk : k < s.length) (h : ∀ c ∈ s.take k, isWS c = true) (hn : isWS s[k] = false) : skipWS s = s.drop k := by
  rw [skipWS_at s k h, List.drop_eq_getElem_cons hk]
  unfold skipWS
  rw [List.dropWhile_cons_of_neg (by rw [hn]; exact Bool.false_ne_true)]
theorem skipWS_end (s : Bs) (h : ∀ c ∈ s, isWS c = true) : skipWS s = [] := by
  unfold skipWS
  induction s with
  | nil => rfl
  | cons c r ih => rw [List.dropWhile_cons_of_pos (h c (by simp))]; exact ih (fun d hd => h d (by simp [hd]))
/-- All ahead of k are blanks. -/
structure Blk (s : Bs) (k : Nat) : Prop where
  out : ∀ c ∈ s.take k, isWS c = true
theorem Blk.step {s : Bs} {k : Nat} (h : Blk s k) (hk : k < s.length) (hw : isWS s[k] = true) : Blk s (k + 1) := ⟨fun c hc => by
  rw [List.take_succ_eq_append_getElem hk] at hc
  rcases List.mem_append.1 hc with hc | hc
  · exact h.out c hc
  · rw [List.mem_singleton] at hc
    rw [hc]
    exact hw⟩
set_option maxHeartbeats 1000000 in
theorem skipSlow_yes (c : UInt8) (r : Bs) (w : World) (hw : isWS c = true) (hl : (c :: r).length ≤ 9223372036854775807) :
    Calls Tryz.prog 60 #[.string (bStr (c :: r))] w fun e w' => e = .returned (.string (bStr (skipWS (c :: r)))) ∧ w = w' := by
  have T := tcons c r
  have HB := Aside0.mk (show Blk (c :: r) 1 from ⟨fun d hd => by
    obtain rfl : d = c := by simpa using hd
    exact hw⟩)
  obtain ⟨s, hs⟩ : ∃ s, s = c :: r := ⟨_, rfl⟩
  have hsl : 1 ≤ s.length := by rw [hs]; simp
  rw [← hs] at T hl HB ⊢
  clear hs
  have hsz : (bStr s).size = s.length := bStr_size s
  have HD := Aside0.mk (bStr_drop s)
  obtain ⟨t, ht⟩ : ∃ t, t = bStr s := ⟨_, rfl⟩
  have HT := Aside0.mk ht
  rw [← ht] at T HD hsz ⊢
  clear ht
  obtain ⟨-, tp, tn, tz, t0, tt⟩ := T
  have t0 := t0 tp
  clear tt
  have hl2 : t.size ≤ 9223372036854775807 := by omega
  obtain ⟨f, hf⟩ : ∃ f, f = bStr (skipWS s) := ⟨_, rfl⟩
  rw [← hf]
  have HF := Aside0.mk hf
  have HZ := Aside0.mk hsz
  have hle : t.size ≤ s.length := by omega
  have hge : s.length ≤ t.size := by omega
  clear hf hsz
  go_enter Tryz.func60, Tryz.ntmps60
  rcases ws_yes hw with rfl | rfl | rfl | rfl
  all_goals
    clear hw
    go_wp2
    go_loop [3] (fun i => ∃ k : Nat, k ≤ t.size ∧ i = .int .i64 k ∧ Blk s k) (fun i => t.size - (intOf i).toNat)
    case atStart => exact ⟨1, tp, rfl, HB.out⟩
    case round =>
      obtain ⟨k, hk, rfl, hB⟩ := hrel
      have HK := Aside0.mk hB
      clear hB
      by_cases hlt : k < t.size
      · have tk : t[k] = s[k]'(by omega) := tget HT.out k hlt (by omega)
        have HN := Aside0.mk (show isWS (s[k]'(by omega)) = true → Blk s (k + 1) from HK.out.step (by omega))
        have HE := Aside0.mk (show isWS (s[k]'(by omega)) = false → skipWS s = s.drop k from skipWS_stop s k (by omega) HK.out.out)
        obtain ⟨d, hd⟩ : ∃ d, d = s[k]'(by omega) := ⟨_, rfl⟩
        rw [← hd] at tk HN HE
        clear hd
        cases hdw : isWS d with
        | true =>
          have HN2 := Aside0.mk (HN.out hdw)
          clear HE HN
          rcases ws_yes hdw with rfl | rfl | rfl | rfl
          all_goals
            clear hdw
            go_wp2
            go_round
            case rel => exact ⟨k + 1, hlt, by go_num, HN2.out⟩
            case measure => simp [intOf]; omega
        | false =>
          have HE2 := Aside0.mk (HE.out hdw)
          clear HN HE
          obtain ⟨⟨a1, b1, d1⟩, ⟨a2, b2, d2⟩, ⟨a3, b3, d3⟩, ⟨a4, b4, d4⟩⟩ := ws_no hdw
          clear hdw
          go_wp2
          go_ret
          exact ⟨by rw [HF.out, HE2.out, ← HD.out]; rfl, rfl⟩
      · have HE := Aside0.mk (skipWS_end s (by
          have := HK.out.out
          rwa [List.take_of_length_le (by omega)] at this))
        go_wp2
        go_ret
        exact ⟨by rw [HF.out, HE.out, bStr_nil]; rfl, rfl⟩
theorem skipSlow_any (s : Bs) (w : World) (hl : s.length ≤ 9223372036854775807) :
    Calls Tryz.prog 60 #[.string (bStr s)] w fun e w' => e = .returned (.string (bStr (skipWS s))) ∧ w = w' := by
  cases s with
  | nil =>
    go_enter Tryz.func60, Tryz.ntmps60
    rw [bStr_nil]
    go_wp2
    go_ret
    exact ⟨rfl, rfl⟩
  | cons c r =>
    cases hw : isWS c with
    | true => exact skipSlow_yes c r w hw hl
    | false =>
      have : skipWS (c :: r) = c :: r := skipWS_stop (c :: r) 0 (by simp) (by simp) hw
      rw [this]
      exact skipSlow_no c r w hw
theorem skipWS_any (s : Bs) (w : World) (hl : s.length ≤ 9223372036854775807) :
    Calls Tryz.prog 50 #[.string (bStr s)] w fun e w' => e = .returned (.string (bStr (skipWS s))) ∧ w = w' := by
  cases s with
  | nil =>
    go_enter Tryz.func50, Tryz.ntmps50
    rw [bStr_nil]
    go_wp2
    go_ret
    exact ⟨rfl, rfl⟩
  | cons c r =>
    have HL := Aside0.mk hl
    have HN := Aside0.mk (show 32 < c.toNat → skipWS (c :: r) = c :: r from fun h => skipWS_stop (c :: r) 0 (by simp) (by simp) (by
      show isWS c = false
      cases hw : isWS c with
      | false => rfl
      | true => rcases ws_yes hw with rfl | rfl | rfl | rfl <;> simp at h))
    have T := tcons c r
    obtain ⟨s, hs⟩ : ∃ s, s = c :: r := ⟨_, rfl⟩
    rw [← hs] at HL HN T ⊢
    obtain ⟨t, ht⟩ : ∃ t, t = bStr s := ⟨_, rfl⟩
    have HT := Aside0.mk ht
    rw [← ht] at T ⊢
    clear ht hs hl
    obtain ⟨-, tp, tn, tz, t0, tt⟩ := T
    have t0 := t0 tp
    clear tt
    by_cases hc : 32 < c.toNat
    · have hd : decide ((32 : Int) < (c.toNat : Int)) = true := by rw [decide_eq_true_iff]; omega
      have HN2 := Aside0.mk (HN.out hc)
      clear HN
      clear hc
      go_enter Tryz.func50, Tryz.ntmps50
      go_wp2
      go_ret
      exact ⟨by rw [HN2.out, HT.out]; rfl, rfl⟩
    · have hd : decide ((32 : Int) < (c.toNat : Int)) = false := by rw [decide_eq_false_iff_not]; omega
      have hcn : (c.toNat : Int) ≤ 32 := by omega
      clear hc
      go_enter Tryz.func50, Tryz.ntmps50
      go_wp2_with fail
      rw [HT.out]
      refine (skipSlow_any s _ HL.out).mono ?_
      rintro e w1 ⟨rfl, rfl⟩
      go_wp2
      go_ret
      exact ⟨rfl, rfl⟩
end Go.Proofs.YtgldcjmdjhghpaaGreatDoor
namespace Go.Proofs.YtgldcjmdjhghpaaGreatDoor
open Go.RowKit Go.Proofs.YtgldcjmdjhghpaaGreatDoorW.PrintWords Go.ChangeShapes Go.WideShapes
set_option linter.unusedVariables false
set_option linter.unusedSimpArgs false
set_option maxRecDepth 100000
structure FoldTo (s small : Bs) (k : Nat) : Prop where
  out : (s.take k).map lowC = small.take k
theorem FoldTo.step {s small : Bs} {k : Nat} (h : FoldTo s small k) (hk : k < s.length) (hl : s.length = small.length) (he : lowC s[k] = small[k]'(by omega)) : FoldTo s small (k + 1) := ⟨by
  rw [List.take_succ_eq_append_getElem hk, List.take_succ_eq_append_getElem (show k < small.length by omega), List.map_append, h.out, List.map_singleton, he]⟩
theorem fold_ne {s small : Bs} (k : Nat) (hk : k < s.length) (hl : s.length = small.length) (he : lowC s[k] ≠ small[k]'(by omega)) : foldEq s small = false := by
  unfold foldEq
  rw [beq_eq_false_iff_ne]
  intro h
  apply he
  have h1 : (s.map lowC)[k]? = small[k]? := by rw [h]
  rw [List.getElem?_map, List.getElem?_eq_getElem hk, List.getElem?_eq_getElem (show k < small.length by omega)] at h1
  simpa using h1
theorem fold_len {s small : Bs} (hl : s.length ≠ small.length) : foldEq s small = false := by
  unfold foldEq
  rw [beq_eq_false_iff_ne]
  intro h
  apply hl
  rw [← h, List.length_map]
theorem fold_eq {s small : Bs} (h : FoldTo s small s.length) (hl : s.length = small.length) : foldEq s small = true := by
  unfold foldEq
  have := h.out
  rw [List.take_length, hl, List.take_length] at this
  rw [this]
  exact beq_self_eq_true _
theorem lowC_add {c : UInt8} (h1 : 65 ≤ c.toNat) (h2 : c.toNat ≤ 90) : lowC c = c + 32 ∧ (c + 32).toNat = c.toNat + 32 := by
  constructor
  · unfold lowC
    rw [if_pos ⟨UInt8.le_iff_toNat_le.2 h1, UInt8.le_iff_toNat_le.2 h2⟩]
  · rw [UInt8.toNat_add]
    show (c.toNat + 32) % 256 = _
    omega
theorem lowC_same {c : UInt8} (h : ¬ (65 ≤ c.toNat ∧ c.toNat ≤ 90)) : lowC c = c := by
  unfold lowC
  rw [if_neg (fun hh => h ?_)]
  have h1 : (65 : UInt8).toNat ≤ c.toNat := UInt8.le_iff_toNat_le.1 hh.1
  have h2 : c.toNat ≤ (90 : UInt8).toNat := UInt8.le_iff_toNat_le.1 hh.2
  exact ⟨h1, h2⟩
set_option maxHeartbeats 2000000 in
theorem fold_any (s small : Bs) (w : World) (hl : s.length ≤ 1000) (hl2 : small.length ≤ 1000) :
    Calls Tryz.prog 68 #[.string (bStr s), .string (bStr small)] w fun e w' => e = .returned (.bool (foldEq s small)) ∧ w = w' := by
  have hz1 : (bStr s).size = s.length := bStr_size s
  have hz2 : (bStr small).size = small.length := bStr_size small
  obtain ⟨t, ht⟩ : ∃ t, t = bStr s := ⟨_, rfl⟩
  obtain ⟨u, hu⟩ : ∃ u, u = bStr small := ⟨_, rfl⟩
  have HT := Aside0.mk ht
  have HU := Aside0.mk hu
  rw [← ht] at hz1 ⊢
  rw [← hu] at hz2 ⊢
  clear ht hu
  by_cases hle : s.length = small.length
  · have hd : ((t.size : Int) != (u.size : Int)) = false := by rw [hz1, hz2, hle]; simp
    have hn : t.size = u.size := by omega
    have b1 : t.size ≤ 1000 := by omega
    have HE := Aside0.mk hle
    have H1 := Aside0.mk hz1
    have H2 := Aside0.mk hz2
    have HN := Aside0.mk hn
    clear hz1 hz2 hle hn
    obtain ⟨res, hres⟩ : ∃ res, res = foldEq s small := ⟨_, rfl⟩
    rw [← hres]
    have HR := Aside0.mk hres
    clear hres
    go_enter Tryz.func68, Tryz.ntmps68
    go_wp2
    go_loop [5, 6] (fun i c => ∃ k : Nat, k ≤ t.size ∧ i = .int .i64 k ∧ FoldTo s small k) (fun i c => t.size - (intOf i).toNat)
    case atStart => exact ⟨0, Nat.zero_le _, rfl, ⟨rfl⟩⟩
    case round =>
      obtain ⟨k, hk, rfl, hB⟩ := hrel
      have HK := Aside0.mk hB
      clear hB
      by_cases hlt : k < t.size
      · have hlu : k < u.size := by have := HN.out; omega
        have h1 : k < s.length := by have := H1.out; omega
        have h2 : k < small.length := by have := H2.out; omega
        have tk : t[k] = s[k] := tget HT.out k hlt h1
        have uk : u[k] = small[k] := tget HU.out k hlu h2
        have HS := Aside0.mk (show lowC s[k] = small[k] → FoldTo s small (k + 1) from HK.out.step h1 HE.out)
        have HF := Aside0.mk (show lowC s[k] ≠ small[k] → foldEq s small = false from fold_ne k h1 HE.out)
        obtain ⟨c, hc⟩ : ∃ c, c = s[k] := ⟨_, rfl⟩
        obtain ⟨d, hd2⟩ : ∃ d, d = small[k] := ⟨_, rfl⟩
        rw [← hc] at tk HS HF
        rw [← hd2] at uk HS HF
        clear hc hd2 h1 h2
        have hc255 : c.toNat < 256 := UInt8.toNat_lt c
        by_cases hcap : 65 ≤ c.toNat ∧ c.toNat ≤ 90
        · obtain ⟨e1, e2⟩ := lowC_add hcap.1 hcap.2
          have f1 : (65 : Int) ≤ (c.toNat : Int) := by omega
          have f2 : (c.toNat : Int) ≤ 90 := by omega
          have d1 : decide ((65 : Int) ≤ (c.toNat : Int)) = true := decide_eq_true f1
          have d2 : decide ((c.toNat : Int) ≤ (90 : Int)) = true := decide_eq_true f2
          have HC2 := Aside0.mk e2
          have HC1 := Aside0.mk e1
          clear hcap e1 e2
          by_cases heq : c.toNat + 32 = d.toNat
          · have g1 : ((c.toNat : Int) + 32 != (d.toNat : Int)) = false := by rw [bne_eq_false_iff_eq]; omega
            have HS2 := Aside0.mk (HS.out (by rw [HC1.out]; exact UInt8.toNat_inj.1 (by rw [HC2.out]; exact heq)))
            clear heq
            go_wp2
            go_round
            case rel => exact ⟨k + 1, hlt, by go_num, HS2.out⟩
            case measure => simp [intOf]; omega
          · have g1 : ((c.toNat : Int) + 32 != (d.toNat : Int)) = true := by rw [bne_iff_ne]; omega
            have HF2 := Aside0.mk (HF.out (by rw [HC1.out]; intro h; exact heq (by rw [← h, HC2.out])))
            clear heq
            go_wp2
            go_ret
            exact ⟨by rw [HR.out, HF2.out]; rfl, rfl⟩
        · have HC1 := Aside0.mk (lowC_same hcap)
          by_cases heq : c = d
          · have HS2 := Aside0.mk (HS.out (by rw [HC1.out]; exact heq))
            subst heq
            by_cases h65 : 65 ≤ c.toNat
            · have d1 : decide ((65 : Int) ≤ (c.toNat : Int)) = true := decide_eq_true (by omega)
              have d2 : decide ((c.toNat : Int) ≤ (90 : Int)) = false := decide_eq_false (by omega)
              clear hcap h65
              go_wp2
              go_round
              case rel => exact ⟨k + 1, hlt, by go_num, HS2.out⟩
              case measure => simp [intOf]; omega
            · have d1 : decide ((65 : Int) ≤ (c.toNat : Int)) = false := decide_eq_false (by omega)
              clear hcap h65
              go_wp2
              go_round
              case rel => exact ⟨k + 1, hlt, by go_num, HS2.out⟩
              case measure => simp [intOf]; omega
          · have HF2 := Aside0.mk (HF.out (by rw [HC1.out]; exact heq))
            obtain ⟨g1, g2, g3⟩ : ¬ (c.toNat : Int) = (d.toNat : Int) ∧ ((c.toNat : Int) != (d.toNat : Int)) = true ∧ ((c.toNat : Int) == (d.toNat : Int)) = false := by
              have := neC d.toNat (toNat_ne heq)
              exact ⟨this.ne, this.bne, this.beq⟩
            clear heq
            by_cases h65 : 65 ≤ c.toNat
            · have d1 : decide ((65 : Int) ≤ (c.toNat : Int)) = true := decide_eq_true (by omega)
              have d2 : decide ((c.toNat : Int) ≤ (90 : Int)) = false := decide_eq_false (by omega)
              clear hcap h65
              go_wp2
              go_ret
              exact ⟨by rw [HR.out, HF2.out]; rfl, rfl⟩
            · have d1 : decide ((65 : Int) ≤ (c.toNat : Int)) = false := decide_eq_false (by omega)
              clear hcap h65
              go_wp2
              go_ret
              exact ⟨by rw [HR.out, HF2.out]; rfl, rfl⟩
      · have HE2 := Aside0.mk (fold_eq (by
          have h := HK.out
          rwa [show k = s.length by have := H1.out; omega] at h) HE.out)
        go_wp2
        go_ret
        exact ⟨by rw [HR.out, HE2.out]; rfl, rfl⟩
  · have hd : ((t.size : Int) != (u.size : Int)) = true := by rw [bne_iff_ne]; omega
    have HF := Aside0.mk (fold_len hle)
    clear hz1 hz2 hle
    rw [HF.out]
    go_enter Tryz.func68, Tryz.ntmps68
    go_wp2
    go_ret
    exact ⟨rfl, rfl⟩
end Go.Proofs.YtgldcjmdjhghpaaGreatDoor
namespace Go.Proofs.YtgldcjmdjhghpaaGreatDoor
open Go.RowKit Go.Proofs.YtgldcjmdjhghpaaGreatDoorW.PrintWords
set_option linter.unusedVariables false
set_option maxRecDepth 100000
def errV (g : Nat) : Value := .iface 116 (.pointer (some ⟨g, 0, none⟩))
theorem errNew_b (w : World) (s : ByteArray) :
    Calls Tryz.prog 42 #[.string s] w fun e w' => e = .returned (.iface 116 (.pointer (some ⟨w.heap.size, 0, none⟩))) ∧ Below w.heap.size w w' := by
  have hu := Tryz.underlying118
  have H1 := Aside0.mk ((Hold.start w).alloc_ (.cells #[.string s] 118))
  go_enter Tryz.func42, Tryz.ntmps42
  go_wp2
  go_ret
  exact ⟨rfl, H1.out.below⟩
/-- What is read of a text, what is left; an error where nothing is. -/
def StrRes (w : World) (o : Option (Bs × Bs)) (e : Ending) (w' : World) : Prop :=
  Below w.heap.size w w' ∧ match o with
  | some q => e = .returned (.tuple #[.string (bStr q.1), .string (bStr q.2), .nilIface])
  | none => ∃ a b g, e = .returned (.tuple #[.string a, .string b, errV g])
theorem StrRes.yes {w w' : World} {p r : Bs} {e : Ending} (hb : Below w.heap.size w w') (he : e = .returned (.tuple #[.string (bStr p), .string (bStr r), .nilIface])) : StrRes w (some (p, r)) e w' := ⟨hb, he⟩
theorem StrRes.no {w w' : World} {a b : ByteArray} {g : Nat} {e : Ending} (hb : Below w.heap.size w w') (he : e = .returned (.tuple #[.string a, .string b, .iface 116 (.pointer (some ⟨g, 0, none⟩))])) : StrRes w none e w' := ⟨hb, a, b, g, he⟩
end Go.Proofs.YtgldcjmdjhghpaaGreatDoor
namespace Go.Proofs.YtgldcjmdjhghpaaGreatDoor
open Go.RowKit Go.Proofs.YtgldcjmdjhghpaaGreatDoorW.PrintWords
set_option linter.unusedVariables false
set_option maxRecDepth 100000
set_option maxHeartbeats 1000000 in
theorem litIdx_any (s : ByteArray) (c : Int) (w : World) :
    Calls Tryz.prog 71 #[.string s, .int .u8 c] w fun e w' => e = .returned (.int .i64 (Lib.indexByte s.data.toList c.toNat.toUInt8)) ∧ w = w' := by
  go_enter Tryz.func71, Tryz.ntmps71
  go_wp2
  rw [run_callFunc_extern Tryz.func81 (by kernel_rfl) (by kernel_rfl) (by kernel_rfl) (e := Extern.BytealgIndexByte.indexByte) (by kernel_rfl), Lib.run_indexByteString]
  simp only [Result.andThen]
  rw [Oper.upon_value]
  go_wp2
  go_ret
  exact ⟨rfl, rfl⟩
theorem idx_any (s : ByteArray) (c : Int) (w : World) :
    Calls Tryz.prog 53 #[.string s, .int .u8 c] w fun e w' => e = .returned (.int .i64 (Lib.indexByte s.data.toList c.toNat.toUInt8)) ∧ w = w' := by
  go_enter Tryz.func53, Tryz.ntmps53
  go_wp2_with fail
  refine (litIdx_any _ _ _).mono ?_
  rintro e w1 ⟨rfl, rfl⟩
  go_wp2
  go_ret
  exact ⟨rfl, rfl⟩
theorem idx_no : ∀ (s : List UInt8) (c : UInt8), c ∉ s → Lib.indexByte s c = -1
  | [], c, _ => rfl
  | b :: l, c, h => by
    have hb : (b == c) = false := by rw [beq_eq_false_iff_ne]; rintro rfl; simp at h
    have ih := idx_no l c (fun hc => h (by simp [hc]))
    rw [Lib.indexByte, hb, ih]
    rfl
theorem idx_at : ∀ (p : List UInt8) (c : UInt8) (r : List UInt8), c ∉ p → Lib.indexByte (p ++ c :: r) c = (p.length : Int)
  | [], c, r, _ => by rw [List.nil_append, Lib.indexByte, if_pos (by simp)]; rfl
  | b :: l, c, r, h => by
    have hb : (b == c) = false := by rw [beq_eq_false_iff_ne]; rintro rfl; simp at h
    have ih := idx_at l c r (fun hc => h (by simp [hc]))
    rw [List.cons_append, Lib.indexByte, hb, ih]
    have : ((l.length : Int) == -1) = false := by rw [beq_eq_false_iff_ne]; omega
    rw [this]
    simp
theorem split_at (c : UInt8) : ∀ s : List UInt8, c ∉ s ∨ ∃ p r, s = p ++ c :: r ∧ c ∉ p
  | [] => .inl (by simp)
  | b :: l => by
    by_cases h : b = c
    · subst h
      exact .inr ⟨[], l, rfl, by simp⟩
    · rcases split_at c l with h2 | ⟨p, r, rfl, h2⟩
      · exact .inl (by simp; exact ⟨fun e => h e.symm, h2⟩)
      · exact .inr ⟨b :: p, r, rfl, by simp; exact ⟨fun e => h e.symm, h2⟩⟩
theorem idx34_no (s : Bs) (w : World) (h : (34 : UInt8) ∉ s) :
    Calls Tryz.prog 53 #[.string (bStr s), .int .u8 34] w fun e w' => e = .returned (.int .i64 (-1)) ∧ w = w' := by
  refine (idx_any _ _ _).mono ?_
  rintro e w' ⟨rfl, rfl⟩
  refine ⟨?_, rfl⟩
  rw [bStr_list]
  exact congrArg _ (congrArg _ (idx_no s 34 h))
theorem idx34_at (p r : Bs) (w : World) (h : (34 : UInt8) ∉ p) :
    Calls Tryz.prog 53 #[.string (bStr (p ++ 34 :: r)), .int .u8 34] w fun e w' => e = .returned (.int .i64 (p.length : Int)) ∧ w = w' := by
  refine (idx_any _ _ _).mono ?_
  rintro e w' ⟨rfl, rfl⟩
  refine ⟨?_, rfl⟩
  rw [bStr_list]
  exact congrArg _ (congrArg _ (idx_at p 34 r h))
theorem idx92_no (s : Bs) (w : World) (h : (92 : UInt8) ∉ s) :
    Calls Tryz.prog 53 #[.string (bStr s), .int .u8 92] w fun e w' => e = .returned (.int .i64 (-1)) ∧ w = w' := by
  refine (idx_any _ _ _).mono ?_
  rintro e w' ⟨rfl, rfl⟩
  refine ⟨?_, rfl⟩
  rw [bStr_list]
  exact congrArg _ (congrArg _ (idx_no s 92 h))
theorem idx92_at (p r : Bs) (w : World) (h : (92 : UInt8) ∉ p) :
    Calls Tryz.prog 53 #[.string (bStr (p ++ 92 :: r)), .int .u8 92] w fun e w' => e = .returned (.int .i64 (p.length : Int)) ∧ w = w' := by
  refine (idx_any _ _ _).mono ?_
  rintro e w' ⟨rfl, rfl⟩
  refine ⟨?_, rfl⟩
  rw [bStr_list]
  exact congrArg _ (congrArg _ (idx_at p 92 r h))
end Go.Proofs.YtgldcjmdjhghpaaGreatDoor
