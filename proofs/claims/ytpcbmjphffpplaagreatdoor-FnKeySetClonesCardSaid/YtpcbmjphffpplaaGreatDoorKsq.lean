/-
  impl.KeyRun's switch: a theorem a kind, over the frame written out. Printed by ksqgen.py.
-/
import Derived.Test.YtpcbmjphffpplaaGreatDoorKa5
namespace Go.Proofs.YtpcbmjphffpplaaGreatDoor
open Go.RowKit Go.Proofs.YtpcbmjphffpplaaGreatDoorW.PrintWords
set_option linter.unusedVariables false
set_option linter.unusedSimpArgs false
set_option maxRecDepth 1000000
def kr19Val (gs2 gst kb ky cm : Nat) (ad : Addr) (l : List (Nat × Option ByteArray)) (ok : Bool) (idx : Int) (t : Value) (d : Nat) : Value :=
  match d with
  | 85 => .iface 83 (.pointer (some ⟨gs2, 0, none⟩))
  | 86 => .slice (some ad) l.length cm
  | 87 => .pointer (some ⟨gst, 1, none⟩)
  | 88 => .int .i64 (ky : Int)
  | 89 => .pointer (some (ad.add ky))
  | 90 => .iface 81 (.pointer (some ⟨kb, 0, none⟩))
  | 91 => .func (.method "AddKey") #[.iface 83 (.pointer (some ⟨gs2, 0, none⟩))] #[]
  | 92 => .func (.method "AddKey") #[.iface 83 (.pointer (some ⟨gs2, 0, none⟩))] #[]
  | 93 => .iface 83 (.pointer (some ⟨gs2, 0, none⟩))
  | 94 => t
  | 95 => .bool ok
  | 96 => .pointer (some ⟨gst + 1, 0, none⟩)
  | _ => undef
def kr19Dp (i : Nat) : List (Nat × Nat) :=
  match i with
  | 3 => [(2, 87)]
  | 4 => [(1, 86), (3, 88)]
  | 5 => [(4, 89)]
  | 6 => [(0, 85)]
  | 7 => [(6, 91)]
  | 8 => [(0, 85)]
  | 9 => [(8, 93), (5, 90)]
  | 10 => [(9, 94)]
  | _ => []
theorem kr19Val_ne (gs2 gst kb ky cm : Nat) (ad : Addr) (l : List (Nat × Option ByteArray)) (ok : Bool) (idx : Int) (t t' : Value) (d : Nat) (h94 : d ≠ 94) : kr19Val gs2 gst kb ky cm ad l ok idx t' d = kr19Val gs2 gst kb ky cm ad l ok idx t d := by
  unfold kr19Val
  split <;> first | rfl | exact absurd rfl h94
def kr21Val (gs2 gst kb ky cm : Nat) (ad : Addr) (l : List (Nat × Option ByteArray)) (ok : Bool) (idx : Int) (t : Value) (d : Nat) : Value :=
  match d with
  | 104 => .iface 83 (.pointer (some ⟨gs2, 0, none⟩))
  | 105 => .slice (some ad) l.length cm
  | 106 => .pointer (some ⟨gst, 1, none⟩)
  | 107 => .int .i64 (ky : Int)
  | 108 => .pointer (some (ad.add ky))
  | 109 => .iface 81 (.pointer (some ⟨kb, 0, none⟩))
  | 110 => .func (.method "RemoveKey") #[.iface 83 (.pointer (some ⟨gs2, 0, none⟩))] #[]
  | 111 => .func (.method "RemoveKey") #[.iface 83 (.pointer (some ⟨gs2, 0, none⟩))] #[]
  | 112 => .iface 83 (.pointer (some ⟨gs2, 0, none⟩))
  | 113 => t
  | 114 => .bool ok
  | 115 => .pointer (some ⟨gst + 1, 0, none⟩)
  | _ => undef
def kr21Dp (i : Nat) : List (Nat × Nat) :=
  match i with
  | 3 => [(2, 106)]
  | 4 => [(1, 105), (3, 107)]
  | 5 => [(4, 108)]
  | 6 => [(0, 104)]
  | 7 => [(6, 110)]
  | 8 => [(0, 104)]
  | 9 => [(8, 112), (5, 109)]
  | 10 => [(9, 113)]
  | _ => []
theorem kr21Val_ne (gs2 gst kb ky cm : Nat) (ad : Addr) (l : List (Nat × Option ByteArray)) (ok : Bool) (idx : Int) (t t' : Value) (d : Nat) (h113 : d ≠ 113) : kr21Val gs2 gst kb ky cm ad l ok idx t' d = kr21Val gs2 gst kb ky cm ad l ok idx t d := by
  unfold kr21Val
  split <;> first | rfl | exact absurd rfl h113
def kr23Val (gs2 gst kb ky cm : Nat) (ad : Addr) (l : List (Nat × Option ByteArray)) (ok : Bool) (idx : Int) (t : Value) (d : Nat) : Value :=
  match d with
  | 123 => .iface 83 (.pointer (some ⟨gs2, 0, none⟩))
  | 124 => .slice (some ad) l.length cm
  | 125 => .pointer (some ⟨gst, 1, none⟩)
  | 126 => .int .i64 (ky : Int)
  | 127 => .pointer (some (ad.add ky))
  | 128 => .iface 81 (.pointer (some ⟨kb, 0, none⟩))
  | 129 => .func (.method "Index") #[.iface 83 (.pointer (some ⟨gs2, 0, none⟩))] #[]
  | 130 => .func (.method "Index") #[.iface 83 (.pointer (some ⟨gs2, 0, none⟩))] #[]
  | 131 => .iface 83 (.pointer (some ⟨gs2, 0, none⟩))
  | 132 => .int .i64 idx
  | 133 => .pointer (some ⟨gst + 1, 1, none⟩)
  | _ => undef
def kr23Dp (i : Nat) : List (Nat × Nat) :=
  match i with
  | 3 => [(2, 125)]
  | 4 => [(1, 124), (3, 126)]
  | 5 => [(4, 127)]
  | 6 => [(0, 123)]
  | 7 => [(6, 129)]
  | 8 => [(0, 123)]
  | 9 => [(8, 131), (5, 128)]
  | _ => []
/-- A block of a function's text. -/
def findBlk (n : Nat) : Code → Option Code
  | .loop c => findBlk n c
  | .seq a b => match findBlk n a with
    | some c => some c
    | none => findBlk n b
  | .block k c => if k = n then some (.block k c) else findBlk n c
  | .scope c => findBlk n c
  | .cond _ a b => match findBlk n a with
    | some c => some c
    | none => findBlk n b
  | _ => none
noncomputable def swC : Code := (Tryz.f9.body.bind (findBlk 4)).getD .skip
set_option maxHeartbeats 16000000 in
theorem sw0 {z0 z1 z2 z3 z4 z6 z7 z8 z9 z12 z13 z17 z18 z19 z20 z21 z22 z23 z24 z25 z26 z27 z28 z29 z30 z31 z32 z33 z34 z35 z36 z37 z38 z39 z40 z41 z42 z43 z44 z45 z46 z47 z48 z49 z50 z51 z52 z53 z54 z55 z56 z57 z58 z59 z60 z61 z62 z63 z64 z65 z66 z67 z68 z69 z70 z71 z72 z73 z74 z75 z76 z77 z78 z79 z80 z81 z82 z83 z84 z85 z86 z87 z88 z89 z90 z91 z92 z93 z94 z95 z96 z97 z98 z99 z100 z101 z102 z103 z104 z105 z106 z107 z108 z109 z110 z111 z112 z113 z114 z115 z116 z117 z118 z119 z120 z121 z122 z123 z124 z125 z126 z127 z128 z129 z130 z131 z132 z133 z134 z135 z136 z137 z138 z139 z140 z141 z142 z143 z144 z145 z146 z147 z148 z149 z150 z151 z152 z153 z154 z155 z156 z157 z158 z159 z160 z161 z162 z163 z164 z165 z166 z167 z168 z169 z170 z171 z172 z173 z174 z175 z176 z177 z178 z179 z180 z181 z182 z183 z184 z185 z186 z187 z188 z189 z190 z191 z192 z193 z194 z195 z196 z197 z198 z199 z200 z201 z202 z203 z204 z205 z206 z207 z208 z209 z210 z211 z212 z213 z214 z215 z216 z217 z218 z219 z220 z221 z222 z223 z224 z225 z226 z227 z228 z229 z230 z231 z232 z233 z234 z235 z236 z237 z238 z239 z240 z241 z242 z243 z244 z245 z246 z247 z248 z249 z250 : Value} {w wx : World} {gst gs2 gm2 n2 ky m j : Nat} {at' : Int} {id tx : ByteArray} {D : DataW Value} {kv : Value} {l : List (Nat × Option ByteArray)} {kds : List KDr} {Am : Option Addr} {cm : Nat} {T : List Sn} {s0 : KSt}
    (hm : m ≤ 1000) (hj1 : j + 1 ≤ m) (hK2 : (ky : Int) < (l.length : Int)) (hid : id.size ≤ maxLen) (HLs : Aside0 (l.map Prod.snd = kds.map idOf))
    (HD : Aside0 (DMap D s0.ns ∧ n2 ≤ j ∧ s0.ns.length ≤ j ∧ s0.ks.length ≤ j ∧ ∀ k ∈ s0.ks, k < l.length))
    (H4 : Aside0 (Hold w w.heap.size wx (.blk gs2 (.cells #[kv, .map (some gm2)] 95) :: .sl kyV kv (s0.ks.map (blkAt l)) :: .hm gm2 n2 D :: Mid (gst + 1) gst w.heap.size (0, ky, at', id, tx) true (-1) (-1) (.slice Am l.length cm) l T z12)))
    {J K' : Act → World → Prop} {Q2 : Exit → Act → World → Prop}
    (hJ : ∀ a' w', (∃ u11 u17 u18 u19 u20 u21 u22 u64 u65 u66 u67 u68 u69 u70 u71 u72 u73 u74 u75 u76 u77 u78 u79 u80 u81 u82 u83 u84 u85 u86 u87 u88 u89 u90 u91 u92 u93 u94 u95 u96 u97 u98 u99 u100 u101 u102 u103 u104 u105 u106 u107 u108 u109 u110 u111 u112 u113 u114 u115 u116 u117 u118 u119 u120 u121 u122 u123 u124 u125 u126 u127 u128 u129 u130 u131 u132 u133 u134 u135 u136 u137 u138 u139 u140 u141 u142 u143 u144 u145 u146 u147 u148 u149 u150 u151 u152 u153 u154 u155 u156 u157 u158 u159 u160 u161 u162 u163 u164 u165 u166 u167 u168 u169 u170 u171 u172 u173 u174 u175 u176 u177 u178 u179 u180 u181 u182 u183 u184 u185 u186 u187 u188 u189 u190 u191 u192 u193 u194 u195 u196 u197 u198 u199 u200 u201 u202 u203 u204 u205 u206 u207 u208 u209 u210 u211 u212 u213 u214 u215 u216 u217 u218 u219 u220 u221 u222 u223 u224 u225 u226 u227 u228 u229 u230 u231 u232 u233 u234 u235 u236 u237 u238 u239 u240 u241 u242 u243 u244 u245 u246 u247 u248 u249 : Value, SwI w (stepF (kdOf kds) s0 (0, ky, at', id, tx)) j (gst + 1) gst w.heap.size (0, ky, at', id, tx) (.slice Am l.length cm) l T z12 u11 w' ∧ a' = ⟨#[z0, z1, z2, z3, z4, .pointer (some ⟨w.heap.size, 0, none⟩), z6, z7, z8, z9, .func (.func 16) #[] #[.pointer (some ⟨w.heap.size, 0, none⟩)], u11, z12, z13, .pointer (some ⟨gst, 0, none⟩), .pointer (some ⟨gst + 1, 0, none⟩), .bool true, u17, u18, u19, u20, u21, u22, z23, z24, z25, z26, z27, z28, z29, z30, z31, z32, z33, z34, z35, z36, z37, z38, z39, z40, z41, z42, z43, z44, z45, z46, z47, z48, z49, z50, z51, z52, z53, z54, z55, z56, z57, z58, z59, z60, z61, z62, z63, u64, u65, u66, u67, u68, u69, u70, u71, u72, u73, u74, u75, u76, u77, u78, u79, u80, u81, u82, u83, u84, u85, u86, u87, u88, u89, u90, u91, u92, u93, u94, u95, u96, u97, u98, u99, u100, u101, u102, u103, u104, u105, u106, u107, u108, u109, u110, u111, u112, u113, u114, u115, u116, u117, u118, u119, u120, u121, u122, u123, u124, u125, u126, u127, u128, u129, u130, u131, u132, u133, u134, u135, u136, u137, u138, u139, u140, u141, u142, u143, u144, u145, u146, u147, u148, u149, u150, u151, u152, u153, u154, u155, u156, u157, u158, u159, u160, u161, u162, u163, u164, u165, u166, u167, u168, u169, u170, u171, u172, u173, u174, u175, u176, u177, u178, u179, u180, u181, u182, u183, u184, u185, u186, u187, u188, u189, u190, u191, u192, u193, u194, u195, u196, u197, u198, u199, u200, u201, u202, u203, u204, u205, u206, u207, u208, u209, u210, u211, u212, u213, u214, u215, u216, u217, u218, u219, u220, u221, u222, u223, u224, u225, u226, u227, u228, u229, u230, u231, u232, u233, u234, u235, u236, u237, u238, u239, u240, u241, u242, u243, u244, u245, u246, u247, u248, u249, z250], []⟩) → J a' w')
    (hK : ∀ a' w', Met J a' w' → K' a' w') :
    Code.wp Tryz.prog swC (Exit.then K' Q2) ⟨#[z0, z1, z2, z3, z4, .pointer (some ⟨w.heap.size, 0, none⟩), z6, z7, z8, z9, .func (.func 16) #[] #[.pointer (some ⟨w.heap.size, 0, none⟩)], .iface 83 (.pointer (some ⟨gs2, 0, none⟩)), z12, z13, .pointer (some ⟨gst, 0, none⟩), .pointer (some ⟨gst + 1, 0, none⟩), .bool true, z17, z18, z19, z20, z21, z22, z23, z24, z25, z26, z27, z28, z29, z30, z31, z32, z33, z34, z35, z36, z37, z38, z39, z40, z41, z42, z43, z44, z45, z46, z47, z48, z49, z50, z51, z52, z53, z54, z55, z56, z57, z58, z59, z60, z61, z62, z63, z64, z65, z66, z67, z68, z69, z70, z71, z72, z73, z74, z75, z76, z77, z78, z79, z80, z81, z82, z83, z84, z85, z86, z87, z88, z89, z90, z91, z92, z93, z94, z95, z96, z97, z98, z99, z100, z101, z102, z103, z104, z105, z106, z107, z108, z109, z110, z111, z112, z113, z114, z115, z116, z117, z118, z119, z120, z121, z122, z123, z124, z125, z126, z127, z128, z129, z130, z131, z132, z133, z134, z135, z136, z137, z138, z139, z140, z141, z142, z143, z144, z145, z146, z147, z148, z149, z150, z151, z152, z153, z154, z155, z156, z157, z158, z159, z160, z161, z162, z163, z164, z165, z166, z167, z168, z169, z170, z171, z172, z173, z174, z175, z176, z177, z178, z179, z180, z181, z182, z183, z184, z185, z186, z187, z188, z189, z190, z191, z192, z193, z194, z195, z196, z197, z198, z199, z200, z201, z202, z203, z204, z205, z206, z207, z208, z209, z210, z211, z212, z213, z214, z215, z216, z217, z218, z219, z220, z221, z222, z223, z224, z225, z226, z227, z228, z229, z230, z231, z232, z233, z234, z235, z236, z237, z238, z239, z240, z241, z242, z243, z244, z245, z246, z247, z248, z249, z250], []⟩ wx := by
  conv => arg 2; whnf
  have hmf : ∀ (fn : Fn) (first cap : Array Value) (w : World), (Instr.makeFunc fn first cap).run Tryz.prog w = .ok (.func fn first cap) w := fun _ _ _ _ => rfl
  have hH4 := H4.out
  obtain ⟨t0, _⟩ := hH4.cell 4 rfl 0 (by simp)
  obtain ⟨t1, _⟩ := hH4.cell 4 rfl 1 (by simp)
  obtain ⟨t2, _⟩ := hH4.cell 4 rfl 2 (by simp)
  obtain ⟨t3, _⟩ := hH4.cell 4 rfl 3 (by simp)
  obtain ⟨t4, _⟩ := hH4.cell 4 rfl 4 (by simp)
  obtain ⟨k5, _⟩ := hH4.cell 5 rfl 0 (by simp)
  simp only at t0 t1 t2 t3 t4 k5
  clear hH4
  have hky : ky < l.length := by exact_mod_cast hK2
  obtain ⟨d1, d2, d3, d4, d5⟩ := HD.out
  have hk3 := d5
  have hkl : s0.ks.length ≤ 1000000 := by omega
  obtain ⟨Am2, cm2, em, hcm2, hCm⟩ := H4.out.slReads kyV_one 6 rfl
  injection em with e1 e2 e3
  subst e1
  obtain ⟨ad, e4, _⟩ := C1_get hCm ky (by simpa using hky)
  subst e4
  have HKP : Aside0 (KP w gs2 gm2 n2 D (Mid (gst + 1) gst w.heap.size (0, ky, at', id, tx) true (-1) (-1) (.slice (some ad) l.length cm) l T z12) kv (s0.ks.map (blkAt l)) wx) := ⟨H4.out⟩
  clear hCm e2 e3 hcm2 H4
  obtain ⟨ok, hok⟩ : ∃ ok, decide (ky ∉ s0.ks) = ok := ⟨_, rfl⟩
  obtain ⟨kb, hkb⟩ : ∃ kb, blkAt l ky = kb := ⟨_, rfl⟩
  go_upto_region 19 with (fail)
  have HF : Aside0 (∀ kv ks wq, KP w gs2 gm2 n2 D (Mid (gst + 1) gst w.heap.size (0, ky, at', id, tx) true (-1) (-1) (.slice (some ad) l.length cm) l T z12) kv ks wq → SwF w.heap.size gst (.slice (some ad) l.length cm) ky ad kb wq) := ⟨fun kv ks wq h => h.f hkb rfl hky⟩
  have HW : Aside0 (∀ k t wq, WiK (ok) (KP w gs2 gm2 n2 D (Mid (gst + 1) gst w.heap.size (0, ky, at', id, tx) true (-1) (-1) (.slice (some ad) l.length cm) l T z12) kv (s0.ks.map (blkAt l))) (fun wq => ∃ kv', KP w gs2 gm2 n2 D (Mid (gst + 1) gst w.heap.size (0, ky, at', id, tx) true (-1) (-1) (.slice (some ad) l.length cm) l T z12) kv' ((addF ky s0.ks).map (blkAt l)) wq) k t wq → SwF w.heap.size gst (.slice (some ad) l.length cm) ky ad kb wq) := ⟨WiK.both (fun wq h => HF.out _ _ _ h) (fun wq h => (let ⟨kv', h'⟩ := h; HF.out kv' _ _ h'))⟩
  have H0 : Aside0 (WiK (ok) (KP w gs2 gm2 n2 D (Mid (gst + 1) gst w.heap.size (0, ky, at', id, tx) true (-1) (-1) (.slice (some ad) l.length cm) l T z12) kv (s0.ks.map (blkAt l))) (fun wq => ∃ kv', KP w gs2 gm2 n2 D (Mid (gst + 1) gst w.heap.size (0, ky, at', id, tx) true (-1) (-1) (.slice (some ad) l.length cm) l T z12) kv' ((addF ky s0.ks).map (blkAt l)) wq) 0 (errV (ok)) wx.drew) := ⟨WiK.mk0 HKP.out.drew⟩
  clear HF HKP
  refine wp_region_any (by kernel_rfl) ?_
  change wpAny _ _ _ _ _ _ _ (World.drew _)
  refine region_chainS _ _ [85, 86, 87, 88, 89, 90, 91, 92, 93, 94, 95, 96] (kr19Val gs2 gst kb ky cm ad l ok 0) kr19Dp (fun _ => []) [9] (WiK (ok) (KP w gs2 gm2 n2 D (Mid (gst + 1) gst w.heap.size (0, ky, at', id, tx) true (-1) (-1) (.slice (some ad) l.length cm) l T z12) kv (s0.ks.map (blkAt l))) (fun wq => ∃ kv', KP w gs2 gm2 n2 D (Mid (gst + 1) gst w.heap.size (0, ky, at', id, tx) true (-1) (-1) (.slice (some ad) l.length cm) l T z12) kv' ((addF ky s0.ks).map (blkAt l)) wq)) (by kernel_rfl) (by kernel_rfl) (by kernel_rfl) (by kernel_rfl) (errV (ok)) ?_ ?_
  case' refine_1 => exact H0.out
  refine StepsS.quiet (by decide) (fun k t a wc hI hc hp hr K hK => ?_) ?_
  · -- slot 85
    have q11 : a.tmps[11]?.getD undef = .iface 83 (.pointer (some ⟨gs2, 0, none⟩)) := ev_get (hc 11 (by decide))
    have HI := Aside0.mk hI
    clear hp hc hr hI
    go_simp
    exact hK _ HI.out
  refine StepsS.quiet (by decide) (fun k t a wc hI hc hp hr K hK => ?_) ?_
  · -- slot 86
    have q5 : a.tmps[5]?.getD undef = .pointer (some ⟨w.heap.size, 0, none⟩) := ev_get (hc 5 (by decide))
    have HI := Aside0.mk hI
    clear hp hc hr hI
    obtain ⟨m0, s1, el⟩ := HW.out k t _ HI.out
    go_simp
    exact hK _ HI.out
  refine StepsS.quiet (by decide) (fun k t a wc hI hc hp hr K hK => ?_) ?_
  · -- slot 87
    have q14 : a.tmps[14]?.getD undef = .pointer (some ⟨gst, 0, none⟩) := ev_get (hc 14 (by decide))
    have HI := Aside0.mk hI
    clear hp hc hr hI
    go_simp
    exact hK _ HI.out
  refine StepsS.quiet (by decide) (fun k t a wc hI hc hp hr K hK => ?_) ?_
  · -- slot 88
    have q87 : a.tmps[87]?.getD undef = .pointer (some ⟨gst, 1, none⟩) := ev_get (hp (2, 87) (by simp [kr19Dp]))
    have HI := Aside0.mk hI
    clear hp hc hr hI
    obtain ⟨m0, s1, el⟩ := HW.out k t _ HI.out
    go_simp
    exact hK _ HI.out
  refine StepsS.quiet (by decide) (fun k t a wc hI hc hp hr K hK => ?_) ?_
  · -- slot 89
    have q86 : a.tmps[86]?.getD undef = .slice (some ad) l.length cm := ev_get (hp (1, 86) (by simp [kr19Dp]))
    have q88 : a.tmps[88]?.getD undef = .int .i64 (ky : Int) := ev_get (hp (3, 88) (by simp [kr19Dp]))
    have HI := Aside0.mk hI
    clear hp hc hr hI
    have k0 : (0 : Int) ≤ (ky : Int) := by omega
    go_simp
    exact hK _ HI.out
  refine StepsS.quiet (by decide) (fun k t a wc hI hc hp hr K hK => ?_) ?_
  · -- slot 90
    have q89 : a.tmps[89]?.getD undef = .pointer (some (ad.add ky)) := ev_get (hp (4, 89) (by simp [kr19Dp]))
    have HI := Aside0.mk hI
    clear hp hc hr hI
    obtain ⟨m0, s1, el⟩ := HW.out k t _ HI.out
    go_simp
    exact hK _ HI.out
  refine StepsS.quiet (by decide) (fun k t a wc hI hc hp hr K hK => ?_) ?_
  · -- slot 91
    have q85 : a.tmps[85]?.getD undef = .iface 83 (.pointer (some ⟨gs2, 0, none⟩)) := ev_get (hp (0, 85) (by simp [kr19Dp]))
    have HI := Aside0.mk hI
    clear hp hc hr hI
    go_simp
    exact hK _ HI.out
  refine StepsS.quiet (by decide) (fun k t a wc hI hc hp hr K hK => ?_) ?_
  · -- slot 92
    have q91 : a.tmps[91]?.getD undef = .func (.method "AddKey") #[.iface 83 (.pointer (some ⟨gs2, 0, none⟩))] #[] := ev_get (hp (6, 91) (by simp [kr19Dp]))
    have HI := Aside0.mk hI
    clear hp hc hr hI
    rw [if_pos (by rfl)]
    exact wp_nilCheck rfl (get_ev q91) (nilAhead_set _ (.inl rfl) _ _) (hK _ HI.out)
  refine StepsS.quiet (by decide) (fun k t a wc hI hc hp hr K hK => ?_) ?_
  · -- slot 93
    have q85 : a.tmps[85]?.getD undef = .iface 83 (.pointer (some ⟨gs2, 0, none⟩)) := ev_get (hp (0, 85) (by simp [kr19Dp]))
    have HI := Aside0.mk hI
    clear hp hc hr hI
    go_simp
    exact hK _ HI.out
  refine StepsS.call 0 rfl (fun t a wc hI hc hp hr K hK => ?_) ?_
  · -- slot 94
    have q93 : a.tmps[93]?.getD undef = .iface 83 (.pointer (some ⟨gs2, 0, none⟩)) := ev_get (hp (8, 93) (by simp [kr19Dp]))
    have q90 : a.tmps[90]?.getD undef = .iface 81 (.pointer (some ⟨kb, 0, none⟩)) := ev_get (hp (5, 90) (by simp [kr19Dp]))
    have HI := Aside0.mk hI
    clear hp hc hr hI
    go_simp
    refine ((HI.out.at0 rfl).add hkb hok hk3 hky hkl).mono ?_
    rintro e w9 ⟨r, rfl, hr, h9⟩
    exact hK r w9 (WiK.mk1 hr h9) (fun d hd => kr19Val_ne _ _ _ _ _ _ _ _ _ _ _ d hd)
  refine StepsS.quiet (by decide) (fun k t a wc hI hc hp hr K hK => ?_) ?_
  · -- slot 95
    have q94 : a.tmps[94]?.getD undef = t := ev_get (hp (9, 94) (by simp [kr19Dp]))
    have HI := Aside0.mk hI
    clear hp hc hr hI
    have hq := errE_eql HI.out.err wc
    have hq2 := errE_guard HI.out.err 94 wc
    go_simp
    exact hK _ HI.out
  refine StepsS.quiet (by decide) (fun k t a wc hI hc hp hr K hK => ?_) ?_
  · -- slot 96
    have q15 : a.tmps[15]?.getD undef = .pointer (some ⟨gst + 1, 0, none⟩) := ev_get (hc 15 (by decide))
    have HI := Aside0.mk hI
    clear hp hc hr hI
    go_simp
    exact hK _ HI.out
  refine StepsS.fin (fun _ wq => ∃ kv', KP w gs2 gm2 n2 D (Mid (gst + 1) gst w.heap.size (0, ky, at', id, tx) (ok) (-1) (-1) (.slice (some ad) l.length cm) l T z12) kv' ((addF ky s0.ks).map (blkAt l)) wq) (by kernel_rfl) (fun t wc a hI hc hp K hK => ?_) (fun t wc hJ => ?_)
  · -- the last one
    have q95 : a.tmps[95]?.getD undef = .bool ok := ev_get (hp 95 (by decide))
    have q96 : a.tmps[96]?.getD undef = .pointer (some ⟨gst + 1, 0, none⟩) := ev_get (hp 96 (by decide))
    clear hp hc
    obtain ⟨kv', hP⟩ := hI.at1 (by decide)
    have H1 := Aside0.mk hP
    obtain ⟨⟨c0, f0⟩, _, _⟩ := hP.sn
    clear hP hI HW H0
    go_simp
    exact hK _ ⟨kv', H1.out.ok_ _⟩
  · -- and what follows
    simp only [ov, List.foldl_cons, List.foldl_nil, Act.put, List.setIfInBounds_toArray, List.set_cons_succ, List.set_cons_zero, kr19Val]
    have H5 := Aside0.mk hJ
    clear hJ HW H0
    go_wp2
    go_meet
    obtain ⟨kv5, h5⟩ := H5.out
    subst hok
    exact ⟨⟨gs2, gm2, kv5, n2, D, rfl, d1, by omega, by show s0.ns.length ≤ _; omega, Nat.le_trans (addF_len _ _) (by omega), addF_mem hky d5, h5⟩⟩
set_option maxHeartbeats 16000000 in
theorem sw1 {z0 z1 z2 z3 z4 z6 z7 z8 z9 z12 z13 z17 z18 z19 z20 z21 z22 z23 z24 z25 z26 z27 z28 z29 z30 z31 z32 z33 z34 z35 z36 z37 z38 z39 z40 z41 z42 z43 z44 z45 z46 z47 z48 z49 z50 z51 z52 z53 z54 z55 z56 z57 z58 z59 z60 z61 z62 z63 z64 z65 z66 z67 z68 z69 z70 z71 z72 z73 z74 z75 z76 z77 z78 z79 z80 z81 z82 z83 z84 z85 z86 z87 z88 z89 z90 z91 z92 z93 z94 z95 z96 z97 z98 z99 z100 z101 z102 z103 z104 z105 z106 z107 z108 z109 z110 z111 z112 z113 z114 z115 z116 z117 z118 z119 z120 z121 z122 z123 z124 z125 z126 z127 z128 z129 z130 z131 z132 z133 z134 z135 z136 z137 z138 z139 z140 z141 z142 z143 z144 z145 z146 z147 z148 z149 z150 z151 z152 z153 z154 z155 z156 z157 z158 z159 z160 z161 z162 z163 z164 z165 z166 z167 z168 z169 z170 z171 z172 z173 z174 z175 z176 z177 z178 z179 z180 z181 z182 z183 z184 z185 z186 z187 z188 z189 z190 z191 z192 z193 z194 z195 z196 z197 z198 z199 z200 z201 z202 z203 z204 z205 z206 z207 z208 z209 z210 z211 z212 z213 z214 z215 z216 z217 z218 z219 z220 z221 z222 z223 z224 z225 z226 z227 z228 z229 z230 z231 z232 z233 z234 z235 z236 z237 z238 z239 z240 z241 z242 z243 z244 z245 z246 z247 z248 z249 z250 : Value} {w wx : World} {gst gs2 gm2 n2 ky m j : Nat} {at' : Int} {id tx : ByteArray} {D : DataW Value} {kv : Value} {l : List (Nat × Option ByteArray)} {kds : List KDr} {Am : Option Addr} {cm : Nat} {T : List Sn} {s0 : KSt}
    (hm : m ≤ 1000) (hj1 : j + 1 ≤ m) (hK2 : (ky : Int) < (l.length : Int)) (hid : id.size ≤ maxLen) (HLs : Aside0 (l.map Prod.snd = kds.map idOf))
    (HD : Aside0 (DMap D s0.ns ∧ n2 ≤ j ∧ s0.ns.length ≤ j ∧ s0.ks.length ≤ j ∧ ∀ k ∈ s0.ks, k < l.length))
    (H4 : Aside0 (Hold w w.heap.size wx (.blk gs2 (.cells #[kv, .map (some gm2)] 95) :: .sl kyV kv (s0.ks.map (blkAt l)) :: .hm gm2 n2 D :: Mid (gst + 1) gst w.heap.size (1, ky, at', id, tx) true (-1) (-1) (.slice Am l.length cm) l T z12)))
    {J K' : Act → World → Prop} {Q2 : Exit → Act → World → Prop}
    (hJ : ∀ a' w', (∃ u11 u17 u18 u19 u20 u21 u22 u64 u65 u66 u67 u68 u69 u70 u71 u72 u73 u74 u75 u76 u77 u78 u79 u80 u81 u82 u83 u84 u85 u86 u87 u88 u89 u90 u91 u92 u93 u94 u95 u96 u97 u98 u99 u100 u101 u102 u103 u104 u105 u106 u107 u108 u109 u110 u111 u112 u113 u114 u115 u116 u117 u118 u119 u120 u121 u122 u123 u124 u125 u126 u127 u128 u129 u130 u131 u132 u133 u134 u135 u136 u137 u138 u139 u140 u141 u142 u143 u144 u145 u146 u147 u148 u149 u150 u151 u152 u153 u154 u155 u156 u157 u158 u159 u160 u161 u162 u163 u164 u165 u166 u167 u168 u169 u170 u171 u172 u173 u174 u175 u176 u177 u178 u179 u180 u181 u182 u183 u184 u185 u186 u187 u188 u189 u190 u191 u192 u193 u194 u195 u196 u197 u198 u199 u200 u201 u202 u203 u204 u205 u206 u207 u208 u209 u210 u211 u212 u213 u214 u215 u216 u217 u218 u219 u220 u221 u222 u223 u224 u225 u226 u227 u228 u229 u230 u231 u232 u233 u234 u235 u236 u237 u238 u239 u240 u241 u242 u243 u244 u245 u246 u247 u248 u249 : Value, SwI w (stepF (kdOf kds) s0 (1, ky, at', id, tx)) j (gst + 1) gst w.heap.size (1, ky, at', id, tx) (.slice Am l.length cm) l T z12 u11 w' ∧ a' = ⟨#[z0, z1, z2, z3, z4, .pointer (some ⟨w.heap.size, 0, none⟩), z6, z7, z8, z9, .func (.func 16) #[] #[.pointer (some ⟨w.heap.size, 0, none⟩)], u11, z12, z13, .pointer (some ⟨gst, 0, none⟩), .pointer (some ⟨gst + 1, 0, none⟩), .bool true, u17, u18, u19, u20, u21, u22, z23, z24, z25, z26, z27, z28, z29, z30, z31, z32, z33, z34, z35, z36, z37, z38, z39, z40, z41, z42, z43, z44, z45, z46, z47, z48, z49, z50, z51, z52, z53, z54, z55, z56, z57, z58, z59, z60, z61, z62, z63, u64, u65, u66, u67, u68, u69, u70, u71, u72, u73, u74, u75, u76, u77, u78, u79, u80, u81, u82, u83, u84, u85, u86, u87, u88, u89, u90, u91, u92, u93, u94, u95, u96, u97, u98, u99, u100, u101, u102, u103, u104, u105, u106, u107, u108, u109, u110, u111, u112, u113, u114, u115, u116, u117, u118, u119, u120, u121, u122, u123, u124, u125, u126, u127, u128, u129, u130, u131, u132, u133, u134, u135, u136, u137, u138, u139, u140, u141, u142, u143, u144, u145, u146, u147, u148, u149, u150, u151, u152, u153, u154, u155, u156, u157, u158, u159, u160, u161, u162, u163, u164, u165, u166, u167, u168, u169, u170, u171, u172, u173, u174, u175, u176, u177, u178, u179, u180, u181, u182, u183, u184, u185, u186, u187, u188, u189, u190, u191, u192, u193, u194, u195, u196, u197, u198, u199, u200, u201, u202, u203, u204, u205, u206, u207, u208, u209, u210, u211, u212, u213, u214, u215, u216, u217, u218, u219, u220, u221, u222, u223, u224, u225, u226, u227, u228, u229, u230, u231, u232, u233, u234, u235, u236, u237, u238, u239, u240, u241, u242, u243, u244, u245, u246, u247, u248, u249, z250], []⟩) → J a' w')
    (hK : ∀ a' w', Met J a' w' → K' a' w') :
    Code.wp Tryz.prog swC (Exit.then K' Q2) ⟨#[z0, z1, z2, z3, z4, .pointer (some ⟨w.heap.size, 0, none⟩), z6, z7, z8, z9, .func (.func 16) #[] #[.pointer (some ⟨w.heap.size, 0, none⟩)], .iface 83 (.pointer (some ⟨gs2, 0, none⟩)), z12, z13, .pointer (some ⟨gst, 0, none⟩), .pointer (some ⟨gst + 1, 0, none⟩), .bool true, z17, z18, z19, z20, z21, z22, z23, z24, z25, z26, z27, z28, z29, z30, z31, z32, z33, z34, z35, z36, z37, z38, z39, z40, z41, z42, z43, z44, z45, z46, z47, z48, z49, z50, z51, z52, z53, z54, z55, z56, z57, z58, z59, z60, z61, z62, z63, z64, z65, z66, z67, z68, z69, z70, z71, z72, z73, z74, z75, z76, z77, z78, z79, z80, z81, z82, z83, z84, z85, z86, z87, z88, z89, z90, z91, z92, z93, z94, z95, z96, z97, z98, z99, z100, z101, z102, z103, z104, z105, z106, z107, z108, z109, z110, z111, z112, z113, z114, z115, z116, z117, z118, z119, z120, z121, z122, z123, z124, z125, z126, z127, z128, z129, z130, z131, z132, z133, z134, z135, z136, z137, z138, z139, z140, z141, z142, z143, z144, z145, z146, z147, z148, z149, z150, z151, z152, z153, z154, z155, z156, z157, z158, z159, z160, z161, z162, z163, z164, z165, z166, z167, z168, z169, z170, z171, z172, z173, z174, z175, z176, z177, z178, z179, z180, z181, z182, z183, z184, z185, z186, z187, z188, z189, z190, z191, z192, z193, z194, z195, z196, z197, z198, z199, z200, z201, z202, z203, z204, z205, z206, z207, z208, z209, z210, z211, z212, z213, z214, z215, z216, z217, z218, z219, z220, z221, z222, z223, z224, z225, z226, z227, z228, z229, z230, z231, z232, z233, z234, z235, z236, z237, z238, z239, z240, z241, z242, z243, z244, z245, z246, z247, z248, z249, z250], []⟩ wx := by
  conv => arg 2; whnf
  have hmf : ∀ (fn : Fn) (first cap : Array Value) (w : World), (Instr.makeFunc fn first cap).run Tryz.prog w = .ok (.func fn first cap) w := fun _ _ _ _ => rfl
  have hH4 := H4.out
  obtain ⟨t0, _⟩ := hH4.cell 4 rfl 0 (by simp)
  obtain ⟨t1, _⟩ := hH4.cell 4 rfl 1 (by simp)
  obtain ⟨t2, _⟩ := hH4.cell 4 rfl 2 (by simp)
  obtain ⟨t3, _⟩ := hH4.cell 4 rfl 3 (by simp)
  obtain ⟨t4, _⟩ := hH4.cell 4 rfl 4 (by simp)
  obtain ⟨k5, _⟩ := hH4.cell 5 rfl 0 (by simp)
  simp only at t0 t1 t2 t3 t4 k5
  clear hH4
  have hky : ky < l.length := by exact_mod_cast hK2
  obtain ⟨d1, d2, d3, d4, d5⟩ := HD.out
  have hk3 := d5
  have hkl : s0.ks.length ≤ 1000000 := by omega
  obtain ⟨Am2, cm2, em, hcm2, hCm⟩ := H4.out.slReads kyV_one 6 rfl
  injection em with e1 e2 e3
  subst e1
  obtain ⟨ad, e4, _⟩ := C1_get hCm ky (by simpa using hky)
  subst e4
  have HKP : Aside0 (KP w gs2 gm2 n2 D (Mid (gst + 1) gst w.heap.size (1, ky, at', id, tx) true (-1) (-1) (.slice (some ad) l.length cm) l T z12) kv (s0.ks.map (blkAt l)) wx) := ⟨H4.out⟩
  clear hCm e2 e3 hcm2 H4
  obtain ⟨ok, hok⟩ : ∃ ok, decide (ky ∈ s0.ks) = ok := ⟨_, rfl⟩
  obtain ⟨kb, hkb⟩ : ∃ kb, blkAt l ky = kb := ⟨_, rfl⟩
  go_upto_region 21 with (fail)
  have HF : Aside0 (∀ kv ks wq, KP w gs2 gm2 n2 D (Mid (gst + 1) gst w.heap.size (1, ky, at', id, tx) true (-1) (-1) (.slice (some ad) l.length cm) l T z12) kv ks wq → SwF w.heap.size gst (.slice (some ad) l.length cm) ky ad kb wq) := ⟨fun kv ks wq h => h.f hkb rfl hky⟩
  have HW : Aside0 (∀ k t wq, WiK (ok) (KP w gs2 gm2 n2 D (Mid (gst + 1) gst w.heap.size (1, ky, at', id, tx) true (-1) (-1) (.slice (some ad) l.length cm) l T z12) kv (s0.ks.map (blkAt l))) (fun wq => ∃ kv', KP w gs2 gm2 n2 D (Mid (gst + 1) gst w.heap.size (1, ky, at', id, tx) true (-1) (-1) (.slice (some ad) l.length cm) l T z12) kv' ((s0.ks.erase ky).map (blkAt l)) wq) k t wq → SwF w.heap.size gst (.slice (some ad) l.length cm) ky ad kb wq) := ⟨WiK.both (fun wq h => HF.out _ _ _ h) (fun wq h => (let ⟨kv', h'⟩ := h; HF.out kv' _ _ h'))⟩
  have H0 : Aside0 (WiK (ok) (KP w gs2 gm2 n2 D (Mid (gst + 1) gst w.heap.size (1, ky, at', id, tx) true (-1) (-1) (.slice (some ad) l.length cm) l T z12) kv (s0.ks.map (blkAt l))) (fun wq => ∃ kv', KP w gs2 gm2 n2 D (Mid (gst + 1) gst w.heap.size (1, ky, at', id, tx) true (-1) (-1) (.slice (some ad) l.length cm) l T z12) kv' ((s0.ks.erase ky).map (blkAt l)) wq) 0 (errV (ok)) wx.drew) := ⟨WiK.mk0 HKP.out.drew⟩
  clear HF HKP
  refine wp_region_any (by kernel_rfl) ?_
  change wpAny _ _ _ _ _ _ _ (World.drew _)
  refine region_chainS _ _ [104, 105, 106, 107, 108, 109, 110, 111, 112, 113, 114, 115] (kr21Val gs2 gst kb ky cm ad l ok 0) kr21Dp (fun _ => []) [9] (WiK (ok) (KP w gs2 gm2 n2 D (Mid (gst + 1) gst w.heap.size (1, ky, at', id, tx) true (-1) (-1) (.slice (some ad) l.length cm) l T z12) kv (s0.ks.map (blkAt l))) (fun wq => ∃ kv', KP w gs2 gm2 n2 D (Mid (gst + 1) gst w.heap.size (1, ky, at', id, tx) true (-1) (-1) (.slice (some ad) l.length cm) l T z12) kv' ((s0.ks.erase ky).map (blkAt l)) wq)) (by kernel_rfl) (by kernel_rfl) (by kernel_rfl) (by kernel_rfl) (errV (ok)) ?_ ?_
  case' refine_1 => exact H0.out
  refine StepsS.quiet (by decide) (fun k t a wc hI hc hp hr K hK => ?_) ?_
  · -- slot 104
    have q11 : a.tmps[11]?.getD undef = .iface 83 (.pointer (some ⟨gs2, 0, none⟩)) := ev_get (hc 11 (by decide))
    have HI := Aside0.mk hI
    clear hp hc hr hI
    go_simp
    exact hK _ HI.out
  refine StepsS.quiet (by decide) (fun k t a wc hI hc hp hr K hK => ?_) ?_
  · -- slot 105
    have q5 : a.tmps[5]?.getD undef = .pointer (some ⟨w.heap.size, 0, none⟩) := ev_get (hc 5 (by decide))
    have HI := Aside0.mk hI
    clear hp hc hr hI
    obtain ⟨m0, s1, el⟩ := HW.out k t _ HI.out
    go_simp
    exact hK _ HI.out
  refine StepsS.quiet (by decide) (fun k t a wc hI hc hp hr K hK => ?_) ?_
  · -- slot 106
    have q14 : a.tmps[14]?.getD undef = .pointer (some ⟨gst, 0, none⟩) := ev_get (hc 14 (by decide))
    have HI := Aside0.mk hI
    clear hp hc hr hI
    go_simp
    exact hK _ HI.out
  refine StepsS.quiet (by decide) (fun k t a wc hI hc hp hr K hK => ?_) ?_
  · -- slot 107
    have q106 : a.tmps[106]?.getD undef = .pointer (some ⟨gst, 1, none⟩) := ev_get (hp (2, 106) (by simp [kr21Dp]))
    have HI := Aside0.mk hI
    clear hp hc hr hI
    obtain ⟨m0, s1, el⟩ := HW.out k t _ HI.out
    go_simp
    exact hK _ HI.out
  refine StepsS.quiet (by decide) (fun k t a wc hI hc hp hr K hK => ?_) ?_
  · -- slot 108
    have q105 : a.tmps[105]?.getD undef = .slice (some ad) l.length cm := ev_get (hp (1, 105) (by simp [kr21Dp]))
    have q107 : a.tmps[107]?.getD undef = .int .i64 (ky : Int) := ev_get (hp (3, 107) (by simp [kr21Dp]))
    have HI := Aside0.mk hI
    clear hp hc hr hI
    have k0 : (0 : Int) ≤ (ky : Int) := by omega
    go_simp
    exact hK _ HI.out
  refine StepsS.quiet (by decide) (fun k t a wc hI hc hp hr K hK => ?_) ?_
  · -- slot 109
    have q108 : a.tmps[108]?.getD undef = .pointer (some (ad.add ky)) := ev_get (hp (4, 108) (by simp [kr21Dp]))
    have HI := Aside0.mk hI
    clear hp hc hr hI
    obtain ⟨m0, s1, el⟩ := HW.out k t _ HI.out
    go_simp
    exact hK _ HI.out
  refine StepsS.quiet (by decide) (fun k t a wc hI hc hp hr K hK => ?_) ?_
  · -- slot 110
    have q104 : a.tmps[104]?.getD undef = .iface 83 (.pointer (some ⟨gs2, 0, none⟩)) := ev_get (hp (0, 104) (by simp [kr21Dp]))
    have HI := Aside0.mk hI
    clear hp hc hr hI
    go_simp
    exact hK _ HI.out
  refine StepsS.quiet (by decide) (fun k t a wc hI hc hp hr K hK => ?_) ?_
  · -- slot 111
    have q110 : a.tmps[110]?.getD undef = .func (.method "RemoveKey") #[.iface 83 (.pointer (some ⟨gs2, 0, none⟩))] #[] := ev_get (hp (6, 110) (by simp [kr21Dp]))
    have HI := Aside0.mk hI
    clear hp hc hr hI
    rw [if_pos (by rfl)]
    exact wp_nilCheck rfl (get_ev q110) (nilAhead_set _ (.inr (.inl rfl)) _ _) (hK _ HI.out)
  refine StepsS.quiet (by decide) (fun k t a wc hI hc hp hr K hK => ?_) ?_
  · -- slot 112
    have q104 : a.tmps[104]?.getD undef = .iface 83 (.pointer (some ⟨gs2, 0, none⟩)) := ev_get (hp (0, 104) (by simp [kr21Dp]))
    have HI := Aside0.mk hI
    clear hp hc hr hI
    go_simp
    exact hK _ HI.out
  refine StepsS.call 0 rfl (fun t a wc hI hc hp hr K hK => ?_) ?_
  · -- slot 113
    have q112 : a.tmps[112]?.getD undef = .iface 83 (.pointer (some ⟨gs2, 0, none⟩)) := ev_get (hp (8, 112) (by simp [kr21Dp]))
    have q109 : a.tmps[109]?.getD undef = .iface 81 (.pointer (some ⟨kb, 0, none⟩)) := ev_get (hp (5, 109) (by simp [kr21Dp]))
    have HI := Aside0.mk hI
    clear hp hc hr hI
    go_simp
    refine ((HI.out.at0 rfl).rem hkb hok hk3 hky hkl).mono ?_
    rintro e w9 ⟨r, rfl, hr, h9⟩
    exact hK r w9 (WiK.mk1 hr h9) (fun d hd => kr21Val_ne _ _ _ _ _ _ _ _ _ _ _ d hd)
  refine StepsS.quiet (by decide) (fun k t a wc hI hc hp hr K hK => ?_) ?_
  · -- slot 114
    have q113 : a.tmps[113]?.getD undef = t := ev_get (hp (9, 113) (by simp [kr21Dp]))
    have HI := Aside0.mk hI
    clear hp hc hr hI
    have hq := errE_eql HI.out.err wc
    have hq2 := errE_guard HI.out.err 113 wc
    go_simp
    exact hK _ HI.out
  refine StepsS.quiet (by decide) (fun k t a wc hI hc hp hr K hK => ?_) ?_
  · -- slot 115
    have q15 : a.tmps[15]?.getD undef = .pointer (some ⟨gst + 1, 0, none⟩) := ev_get (hc 15 (by decide))
    have HI := Aside0.mk hI
    clear hp hc hr hI
    go_simp
    exact hK _ HI.out
  refine StepsS.fin (fun _ wq => ∃ kv', KP w gs2 gm2 n2 D (Mid (gst + 1) gst w.heap.size (1, ky, at', id, tx) (ok) (-1) (-1) (.slice (some ad) l.length cm) l T z12) kv' ((s0.ks.erase ky).map (blkAt l)) wq) (by kernel_rfl) (fun t wc a hI hc hp K hK => ?_) (fun t wc hJ => ?_)
  · -- the last one
    have q114 : a.tmps[114]?.getD undef = .bool ok := ev_get (hp 114 (by decide))
    have q115 : a.tmps[115]?.getD undef = .pointer (some ⟨gst + 1, 0, none⟩) := ev_get (hp 115 (by decide))
    clear hp hc
    obtain ⟨kv', hP⟩ := hI.at1 (by decide)
    have H1 := Aside0.mk hP
    obtain ⟨⟨c0, f0⟩, _, _⟩ := hP.sn
    clear hP hI HW H0
    go_simp
    exact hK _ ⟨kv', H1.out.ok_ _⟩
  · -- and what follows
    simp only [ov, List.foldl_cons, List.foldl_nil, Act.put, List.setIfInBounds_toArray, List.set_cons_succ, List.set_cons_zero, kr21Val]
    have H5 := Aside0.mk hJ
    clear hJ HW H0
    go_wp2
    go_meet
    obtain ⟨kv5, h5⟩ := H5.out
    subst hok
    exact ⟨⟨gs2, gm2, kv5, n2, D, rfl, d1, by omega, by show s0.ns.length ≤ _; omega, Nat.le_trans (List.length_erase_le) (by omega), fun k hk => d5 k (List.mem_of_mem_erase hk), h5⟩⟩
set_option maxHeartbeats 16000000 in
theorem sw2 {z0 z1 z2 z3 z4 z6 z7 z8 z9 z12 z13 z17 z18 z19 z20 z21 z22 z23 z24 z25 z26 z27 z28 z29 z30 z31 z32 z33 z34 z35 z36 z37 z38 z39 z40 z41 z42 z43 z44 z45 z46 z47 z48 z49 z50 z51 z52 z53 z54 z55 z56 z57 z58 z59 z60 z61 z62 z63 z64 z65 z66 z67 z68 z69 z70 z71 z72 z73 z74 z75 z76 z77 z78 z79 z80 z81 z82 z83 z84 z85 z86 z87 z88 z89 z90 z91 z92 z93 z94 z95 z96 z97 z98 z99 z100 z101 z102 z103 z104 z105 z106 z107 z108 z109 z110 z111 z112 z113 z114 z115 z116 z117 z118 z119 z120 z121 z122 z123 z124 z125 z126 z127 z128 z129 z130 z131 z132 z133 z134 z135 z136 z137 z138 z139 z140 z141 z142 z143 z144 z145 z146 z147 z148 z149 z150 z151 z152 z153 z154 z155 z156 z157 z158 z159 z160 z161 z162 z163 z164 z165 z166 z167 z168 z169 z170 z171 z172 z173 z174 z175 z176 z177 z178 z179 z180 z181 z182 z183 z184 z185 z186 z187 z188 z189 z190 z191 z192 z193 z194 z195 z196 z197 z198 z199 z200 z201 z202 z203 z204 z205 z206 z207 z208 z209 z210 z211 z212 z213 z214 z215 z216 z217 z218 z219 z220 z221 z222 z223 z224 z225 z226 z227 z228 z229 z230 z231 z232 z233 z234 z235 z236 z237 z238 z239 z240 z241 z242 z243 z244 z245 z246 z247 z248 z249 z250 : Value} {w wx : World} {gst gs2 gm2 n2 ky m j : Nat} {at' : Int} {id tx : ByteArray} {D : DataW Value} {kv : Value} {l : List (Nat × Option ByteArray)} {kds : List KDr} {Am : Option Addr} {cm : Nat} {T : List Sn} {s0 : KSt}
    (hm : m ≤ 1000) (hj1 : j + 1 ≤ m) (hK2 : (ky : Int) < (l.length : Int)) (hid : id.size ≤ maxLen) (HLs : Aside0 (l.map Prod.snd = kds.map idOf))
    (HD : Aside0 (DMap D s0.ns ∧ n2 ≤ j ∧ s0.ns.length ≤ j ∧ s0.ks.length ≤ j ∧ ∀ k ∈ s0.ks, k < l.length))
    (H4 : Aside0 (Hold w w.heap.size wx (.blk gs2 (.cells #[kv, .map (some gm2)] 95) :: .sl kyV kv (s0.ks.map (blkAt l)) :: .hm gm2 n2 D :: Mid (gst + 1) gst w.heap.size (2, ky, at', id, tx) true (-1) (-1) (.slice Am l.length cm) l T z12)))
    {J K' : Act → World → Prop} {Q2 : Exit → Act → World → Prop}
    (hJ : ∀ a' w', (∃ u11 u17 u18 u19 u20 u21 u22 u64 u65 u66 u67 u68 u69 u70 u71 u72 u73 u74 u75 u76 u77 u78 u79 u80 u81 u82 u83 u84 u85 u86 u87 u88 u89 u90 u91 u92 u93 u94 u95 u96 u97 u98 u99 u100 u101 u102 u103 u104 u105 u106 u107 u108 u109 u110 u111 u112 u113 u114 u115 u116 u117 u118 u119 u120 u121 u122 u123 u124 u125 u126 u127 u128 u129 u130 u131 u132 u133 u134 u135 u136 u137 u138 u139 u140 u141 u142 u143 u144 u145 u146 u147 u148 u149 u150 u151 u152 u153 u154 u155 u156 u157 u158 u159 u160 u161 u162 u163 u164 u165 u166 u167 u168 u169 u170 u171 u172 u173 u174 u175 u176 u177 u178 u179 u180 u181 u182 u183 u184 u185 u186 u187 u188 u189 u190 u191 u192 u193 u194 u195 u196 u197 u198 u199 u200 u201 u202 u203 u204 u205 u206 u207 u208 u209 u210 u211 u212 u213 u214 u215 u216 u217 u218 u219 u220 u221 u222 u223 u224 u225 u226 u227 u228 u229 u230 u231 u232 u233 u234 u235 u236 u237 u238 u239 u240 u241 u242 u243 u244 u245 u246 u247 u248 u249 : Value, SwI w (stepF (kdOf kds) s0 (2, ky, at', id, tx)) j (gst + 1) gst w.heap.size (2, ky, at', id, tx) (.slice Am l.length cm) l T z12 u11 w' ∧ a' = ⟨#[z0, z1, z2, z3, z4, .pointer (some ⟨w.heap.size, 0, none⟩), z6, z7, z8, z9, .func (.func 16) #[] #[.pointer (some ⟨w.heap.size, 0, none⟩)], u11, z12, z13, .pointer (some ⟨gst, 0, none⟩), .pointer (some ⟨gst + 1, 0, none⟩), .bool true, u17, u18, u19, u20, u21, u22, z23, z24, z25, z26, z27, z28, z29, z30, z31, z32, z33, z34, z35, z36, z37, z38, z39, z40, z41, z42, z43, z44, z45, z46, z47, z48, z49, z50, z51, z52, z53, z54, z55, z56, z57, z58, z59, z60, z61, z62, z63, u64, u65, u66, u67, u68, u69, u70, u71, u72, u73, u74, u75, u76, u77, u78, u79, u80, u81, u82, u83, u84, u85, u86, u87, u88, u89, u90, u91, u92, u93, u94, u95, u96, u97, u98, u99, u100, u101, u102, u103, u104, u105, u106, u107, u108, u109, u110, u111, u112, u113, u114, u115, u116, u117, u118, u119, u120, u121, u122, u123, u124, u125, u126, u127, u128, u129, u130, u131, u132, u133, u134, u135, u136, u137, u138, u139, u140, u141, u142, u143, u144, u145, u146, u147, u148, u149, u150, u151, u152, u153, u154, u155, u156, u157, u158, u159, u160, u161, u162, u163, u164, u165, u166, u167, u168, u169, u170, u171, u172, u173, u174, u175, u176, u177, u178, u179, u180, u181, u182, u183, u184, u185, u186, u187, u188, u189, u190, u191, u192, u193, u194, u195, u196, u197, u198, u199, u200, u201, u202, u203, u204, u205, u206, u207, u208, u209, u210, u211, u212, u213, u214, u215, u216, u217, u218, u219, u220, u221, u222, u223, u224, u225, u226, u227, u228, u229, u230, u231, u232, u233, u234, u235, u236, u237, u238, u239, u240, u241, u242, u243, u244, u245, u246, u247, u248, u249, z250], []⟩) → J a' w')
    (hK : ∀ a' w', Met J a' w' → K' a' w') :
    Code.wp Tryz.prog swC (Exit.then K' Q2) ⟨#[z0, z1, z2, z3, z4, .pointer (some ⟨w.heap.size, 0, none⟩), z6, z7, z8, z9, .func (.func 16) #[] #[.pointer (some ⟨w.heap.size, 0, none⟩)], .iface 83 (.pointer (some ⟨gs2, 0, none⟩)), z12, z13, .pointer (some ⟨gst, 0, none⟩), .pointer (some ⟨gst + 1, 0, none⟩), .bool true, z17, z18, z19, z20, z21, z22, z23, z24, z25, z26, z27, z28, z29, z30, z31, z32, z33, z34, z35, z36, z37, z38, z39, z40, z41, z42, z43, z44, z45, z46, z47, z48, z49, z50, z51, z52, z53, z54, z55, z56, z57, z58, z59, z60, z61, z62, z63, z64, z65, z66, z67, z68, z69, z70, z71, z72, z73, z74, z75, z76, z77, z78, z79, z80, z81, z82, z83, z84, z85, z86, z87, z88, z89, z90, z91, z92, z93, z94, z95, z96, z97, z98, z99, z100, z101, z102, z103, z104, z105, z106, z107, z108, z109, z110, z111, z112, z113, z114, z115, z116, z117, z118, z119, z120, z121, z122, z123, z124, z125, z126, z127, z128, z129, z130, z131, z132, z133, z134, z135, z136, z137, z138, z139, z140, z141, z142, z143, z144, z145, z146, z147, z148, z149, z150, z151, z152, z153, z154, z155, z156, z157, z158, z159, z160, z161, z162, z163, z164, z165, z166, z167, z168, z169, z170, z171, z172, z173, z174, z175, z176, z177, z178, z179, z180, z181, z182, z183, z184, z185, z186, z187, z188, z189, z190, z191, z192, z193, z194, z195, z196, z197, z198, z199, z200, z201, z202, z203, z204, z205, z206, z207, z208, z209, z210, z211, z212, z213, z214, z215, z216, z217, z218, z219, z220, z221, z222, z223, z224, z225, z226, z227, z228, z229, z230, z231, z232, z233, z234, z235, z236, z237, z238, z239, z240, z241, z242, z243, z244, z245, z246, z247, z248, z249, z250], []⟩ wx := by
  conv => arg 2; whnf
  have hmf : ∀ (fn : Fn) (first cap : Array Value) (w : World), (Instr.makeFunc fn first cap).run Tryz.prog w = .ok (.func fn first cap) w := fun _ _ _ _ => rfl
  have hH4 := H4.out
  obtain ⟨t0, _⟩ := hH4.cell 4 rfl 0 (by simp)
  obtain ⟨t1, _⟩ := hH4.cell 4 rfl 1 (by simp)
  obtain ⟨t2, _⟩ := hH4.cell 4 rfl 2 (by simp)
  obtain ⟨t3, _⟩ := hH4.cell 4 rfl 3 (by simp)
  obtain ⟨t4, _⟩ := hH4.cell 4 rfl 4 (by simp)
  obtain ⟨k5, _⟩ := hH4.cell 5 rfl 0 (by simp)
  simp only at t0 t1 t2 t3 t4 k5
  clear hH4
  have hky : ky < l.length := by exact_mod_cast hK2
  obtain ⟨d1, d2, d3, d4, d5⟩ := HD.out
  have hk3 := d5
  have hkl : s0.ks.length ≤ 1000000 := by omega
  obtain ⟨Am2, cm2, em, hcm2, hCm⟩ := H4.out.slReads kyV_one 6 rfl
  injection em with e1 e2 e3
  subst e1
  obtain ⟨ad, e4, _⟩ := C1_get hCm ky (by simpa using hky)
  subst e4
  have HKP : Aside0 (KP w gs2 gm2 n2 D (Mid (gst + 1) gst w.heap.size (2, ky, at', id, tx) true (-1) (-1) (.slice (some ad) l.length cm) l T z12) kv (s0.ks.map (blkAt l)) wx) := ⟨H4.out⟩
  clear hCm e2 e3 hcm2 H4
  obtain ⟨idx, hix⟩ : ∃ idx, idxF ky s0.ks 0 = idx := ⟨_, rfl⟩
  obtain ⟨kb, hkb⟩ : ∃ kb, blkAt l ky = kb := ⟨_, rfl⟩
  go_upto_region 23 with (fail)
  have HF : Aside0 (∀ kv ks wq, KP w gs2 gm2 n2 D (Mid (gst + 1) gst w.heap.size (2, ky, at', id, tx) true (-1) (-1) (.slice (some ad) l.length cm) l T z12) kv ks wq → SwF w.heap.size gst (.slice (some ad) l.length cm) ky ad kb wq) := ⟨fun kv ks wq h => h.f hkb rfl hky⟩
  have HW : Aside0 (∀ k t wq, WiK true (KP w gs2 gm2 n2 D (Mid (gst + 1) gst w.heap.size (2, ky, at', id, tx) true (-1) (-1) (.slice (some ad) l.length cm) l T z12) kv (s0.ks.map (blkAt l))) (KP w gs2 gm2 n2 D (Mid (gst + 1) gst w.heap.size (2, ky, at', id, tx) true (-1) (-1) (.slice (some ad) l.length cm) l T z12) kv (s0.ks.map (blkAt l))) k t wq → SwF w.heap.size gst (.slice (some ad) l.length cm) ky ad kb wq) := ⟨WiK.both (fun wq h => HF.out _ _ _ h) (fun wq h => HF.out _ _ _ h)⟩
  have H0 : Aside0 (WiK true (KP w gs2 gm2 n2 D (Mid (gst + 1) gst w.heap.size (2, ky, at', id, tx) true (-1) (-1) (.slice (some ad) l.length cm) l T z12) kv (s0.ks.map (blkAt l))) (KP w gs2 gm2 n2 D (Mid (gst + 1) gst w.heap.size (2, ky, at', id, tx) true (-1) (-1) (.slice (some ad) l.length cm) l T z12) kv (s0.ks.map (blkAt l))) 0 (.nilIface) wx.drew) := ⟨⟨rfl, fun _ => HKP.out.drew, fun e => absurd rfl e⟩⟩
  clear HF HKP
  refine wp_region_any (by kernel_rfl) ?_
  change wpAny _ _ _ _ _ _ _ (World.drew _)
  refine region_chainS _ _ [123, 124, 125, 126, 127, 128, 129, 130, 131, 132, 133] (kr23Val gs2 gst kb ky cm ad l true idx) kr23Dp (fun _ => []) [9] (WiK true (KP w gs2 gm2 n2 D (Mid (gst + 1) gst w.heap.size (2, ky, at', id, tx) true (-1) (-1) (.slice (some ad) l.length cm) l T z12) kv (s0.ks.map (blkAt l))) (KP w gs2 gm2 n2 D (Mid (gst + 1) gst w.heap.size (2, ky, at', id, tx) true (-1) (-1) (.slice (some ad) l.length cm) l T z12) kv (s0.ks.map (blkAt l)))) (by kernel_rfl) (by kernel_rfl) (by kernel_rfl) (by kernel_rfl) (.nilIface) ?_ ?_
  case' refine_1 => exact H0.out
  refine StepsS.quiet (by decide) (fun k t a wc hI hc hp hr K hK => ?_) ?_
  · -- slot 123
    have q11 : a.tmps[11]?.getD undef = .iface 83 (.pointer (some ⟨gs2, 0, none⟩)) := ev_get (hc 11 (by decide))
    have HI := Aside0.mk hI
    clear hp hc hr hI
    go_simp
    exact hK _ HI.out
  refine StepsS.quiet (by decide) (fun k t a wc hI hc hp hr K hK => ?_) ?_
  · -- slot 124
    have q5 : a.tmps[5]?.getD undef = .pointer (some ⟨w.heap.size, 0, none⟩) := ev_get (hc 5 (by decide))
    have HI := Aside0.mk hI
    clear hp hc hr hI
    obtain ⟨m0, s1, el⟩ := HW.out k t _ HI.out
    go_simp
    exact hK _ HI.out
  refine StepsS.quiet (by decide) (fun k t a wc hI hc hp hr K hK => ?_) ?_
  · -- slot 125
    have q14 : a.tmps[14]?.getD undef = .pointer (some ⟨gst, 0, none⟩) := ev_get (hc 14 (by decide))
    have HI := Aside0.mk hI
    clear hp hc hr hI
    go_simp
    exact hK _ HI.out
  refine StepsS.quiet (by decide) (fun k t a wc hI hc hp hr K hK => ?_) ?_
  · -- slot 126
    have q125 : a.tmps[125]?.getD undef = .pointer (some ⟨gst, 1, none⟩) := ev_get (hp (2, 125) (by simp [kr23Dp]))
    have HI := Aside0.mk hI
    clear hp hc hr hI
    obtain ⟨m0, s1, el⟩ := HW.out k t _ HI.out
    go_simp
    exact hK _ HI.out
  refine StepsS.quiet (by decide) (fun k t a wc hI hc hp hr K hK => ?_) ?_
  · -- slot 127
    have q124 : a.tmps[124]?.getD undef = .slice (some ad) l.length cm := ev_get (hp (1, 124) (by simp [kr23Dp]))
    have q126 : a.tmps[126]?.getD undef = .int .i64 (ky : Int) := ev_get (hp (3, 126) (by simp [kr23Dp]))
    have HI := Aside0.mk hI
    clear hp hc hr hI
    have k0 : (0 : Int) ≤ (ky : Int) := by omega
    go_simp
    exact hK _ HI.out
  refine StepsS.quiet (by decide) (fun k t a wc hI hc hp hr K hK => ?_) ?_
  · -- slot 128
    have q127 : a.tmps[127]?.getD undef = .pointer (some (ad.add ky)) := ev_get (hp (4, 127) (by simp [kr23Dp]))
    have HI := Aside0.mk hI
    clear hp hc hr hI
    obtain ⟨m0, s1, el⟩ := HW.out k t _ HI.out
    go_simp
    exact hK _ HI.out
  refine StepsS.quiet (by decide) (fun k t a wc hI hc hp hr K hK => ?_) ?_
  · -- slot 129
    have q123 : a.tmps[123]?.getD undef = .iface 83 (.pointer (some ⟨gs2, 0, none⟩)) := ev_get (hp (0, 123) (by simp [kr23Dp]))
    have HI := Aside0.mk hI
    clear hp hc hr hI
    go_simp
    exact hK _ HI.out
  refine StepsS.quiet (by decide) (fun k t a wc hI hc hp hr K hK => ?_) ?_
  · -- slot 130
    have q129 : a.tmps[129]?.getD undef = .func (.method "Index") #[.iface 83 (.pointer (some ⟨gs2, 0, none⟩))] #[] := ev_get (hp (6, 129) (by simp [kr23Dp]))
    have HI := Aside0.mk hI
    clear hp hc hr hI
    rw [if_pos (by rfl)]
    exact wp_nilCheck rfl (get_ev q129) (nilAhead_set _ (.inr (.inr rfl)) _ _) (hK _ HI.out)
  refine StepsS.quiet (by decide) (fun k t a wc hI hc hp hr K hK => ?_) ?_
  · -- slot 131
    have q123 : a.tmps[123]?.getD undef = .iface 83 (.pointer (some ⟨gs2, 0, none⟩)) := ev_get (hp (0, 123) (by simp [kr23Dp]))
    have HI := Aside0.mk hI
    clear hp hc hr hI
    go_simp
    exact hK _ HI.out
  refine StepsS.call 0 rfl (fun t a wc hI hc hp hr K hK => ?_) ?_
  · -- slot 132
    have q131 : a.tmps[131]?.getD undef = .iface 83 (.pointer (some ⟨gs2, 0, none⟩)) := ev_get (hp (8, 131) (by simp [kr23Dp]))
    have q128 : a.tmps[128]?.getD undef = .iface 81 (.pointer (some ⟨kb, 0, none⟩)) := ev_get (hp (5, 128) (by simp [kr23Dp]))
    have HI := Aside0.mk hI
    clear hp hc hr hI
    go_simp
    refine ((HI.out.at0 rfl).idx hkb hix hk3 hky).mono ?_
    rintro e w9 ⟨rfl, rfl⟩
    exact hK .nilIface _ (WiK.mk1 (ok := true) rfl (HI.out.at0 rfl)) (fun _ _ => rfl)
  refine StepsS.quiet (by decide) (fun k t a wc hI hc hp hr K hK => ?_) ?_
  · -- slot 133
    have q15 : a.tmps[15]?.getD undef = .pointer (some ⟨gst + 1, 0, none⟩) := ev_get (hc 15 (by decide))
    have HI := Aside0.mk hI
    clear hp hc hr hI
    go_simp
    exact hK _ HI.out
  refine StepsS.fin (fun _ wq => KP w gs2 gm2 n2 D (Mid (gst + 1) gst w.heap.size (2, ky, at', id, tx) true idx (-1) (.slice (some ad) l.length cm) l T z12) kv (s0.ks.map (blkAt l)) wq) (by kernel_rfl) (fun t wc a hI hc hp K hK => ?_) (fun t wc hJ => ?_)
  · -- the last one
    have q132 : a.tmps[132]?.getD undef = .int .i64 idx := ev_get (hp 132 (by decide))
    have q133 : a.tmps[133]?.getD undef = .pointer (some ⟨gst + 1, 1, none⟩) := ev_get (hp 133 (by decide))
    clear hp hc
    have hP := hI.at1 (by decide)
    have H1 := Aside0.mk hP
    obtain ⟨_, ⟨c0, f0⟩, _⟩ := hP.sn
    clear hP hI HW H0
    go_simp
    exact hK _ (H1.out.ix_ _)
  · -- and what follows
    simp only [ov, List.foldl_cons, List.foldl_nil, Act.put, List.setIfInBounds_toArray, List.set_cons_succ, List.set_cons_zero, kr23Val]
    have H5 := Aside0.mk hJ
    clear hJ HW H0
    go_wp2
    go_meet
    subst hix
    exact ⟨⟨gs2, gm2, kv, n2, D, rfl, d1, by omega, by show s0.ns.length ≤ _; omega, by show s0.ks.length ≤ _; omega, d5, H5.out⟩⟩
set_option maxHeartbeats 16000000 in
theorem sw3 {z0 z1 z2 z3 z4 z6 z7 z8 z9 z12 z13 z17 z18 z19 z20 z21 z22 z23 z24 z25 z26 z27 z28 z29 z30 z31 z32 z33 z34 z35 z36 z37 z38 z39 z40 z41 z42 z43 z44 z45 z46 z47 z48 z49 z50 z51 z52 z53 z54 z55 z56 z57 z58 z59 z60 z61 z62 z63 z64 z65 z66 z67 z68 z69 z70 z71 z72 z73 z74 z75 z76 z77 z78 z79 z80 z81 z82 z83 z84 z85 z86 z87 z88 z89 z90 z91 z92 z93 z94 z95 z96 z97 z98 z99 z100 z101 z102 z103 z104 z105 z106 z107 z108 z109 z110 z111 z112 z113 z114 z115 z116 z117 z118 z119 z120 z121 z122 z123 z124 z125 z126 z127 z128 z129 z130 z131 z132 z133 z134 z135 z136 z137 z138 z139 z140 z141 z142 z143 z144 z145 z146 z147 z148 z149 z150 z151 z152 z153 z154 z155 z156 z157 z158 z159 z160 z161 z162 z163 z164 z165 z166 z167 z168 z169 z170 z171 z172 z173 z174 z175 z176 z177 z178 z179 z180 z181 z182 z183 z184 z185 z186 z187 z188 z189 z190 z191 z192 z193 z194 z195 z196 z197 z198 z199 z200 z201 z202 z203 z204 z205 z206 z207 z208 z209 z210 z211 z212 z213 z214 z215 z216 z217 z218 z219 z220 z221 z222 z223 z224 z225 z226 z227 z228 z229 z230 z231 z232 z233 z234 z235 z236 z237 z238 z239 z240 z241 z242 z243 z244 z245 z246 z247 z248 z249 z250 : Value} {w wx : World} {gst gs2 gm2 n2 ky m j : Nat} {at' : Int} {id tx : ByteArray} {D : DataW Value} {kv : Value} {l : List (Nat × Option ByteArray)} {kds : List KDr} {Am : Option Addr} {cm : Nat} {T : List Sn} {s0 : KSt}
    (hm : m ≤ 1000) (hj1 : j + 1 ≤ m) (hK2 : (ky : Int) < (l.length : Int)) (hid : id.size ≤ maxLen) (HLs : Aside0 (l.map Prod.snd = kds.map idOf))
    (HD : Aside0 (DMap D s0.ns ∧ n2 ≤ j ∧ s0.ns.length ≤ j ∧ s0.ks.length ≤ j ∧ ∀ k ∈ s0.ks, k < l.length))
    (H4 : Aside0 (Hold w w.heap.size wx (.blk gs2 (.cells #[kv, .map (some gm2)] 95) :: .sl kyV kv (s0.ks.map (blkAt l)) :: .hm gm2 n2 D :: Mid (gst + 1) gst w.heap.size (3, ky, at', id, tx) true (-1) (-1) (.slice Am l.length cm) l T z12)))
    {J K' : Act → World → Prop} {Q2 : Exit → Act → World → Prop}
    (hJ : ∀ a' w', (∃ u11 u17 u18 u19 u20 u21 u22 u64 u65 u66 u67 u68 u69 u70 u71 u72 u73 u74 u75 u76 u77 u78 u79 u80 u81 u82 u83 u84 u85 u86 u87 u88 u89 u90 u91 u92 u93 u94 u95 u96 u97 u98 u99 u100 u101 u102 u103 u104 u105 u106 u107 u108 u109 u110 u111 u112 u113 u114 u115 u116 u117 u118 u119 u120 u121 u122 u123 u124 u125 u126 u127 u128 u129 u130 u131 u132 u133 u134 u135 u136 u137 u138 u139 u140 u141 u142 u143 u144 u145 u146 u147 u148 u149 u150 u151 u152 u153 u154 u155 u156 u157 u158 u159 u160 u161 u162 u163 u164 u165 u166 u167 u168 u169 u170 u171 u172 u173 u174 u175 u176 u177 u178 u179 u180 u181 u182 u183 u184 u185 u186 u187 u188 u189 u190 u191 u192 u193 u194 u195 u196 u197 u198 u199 u200 u201 u202 u203 u204 u205 u206 u207 u208 u209 u210 u211 u212 u213 u214 u215 u216 u217 u218 u219 u220 u221 u222 u223 u224 u225 u226 u227 u228 u229 u230 u231 u232 u233 u234 u235 u236 u237 u238 u239 u240 u241 u242 u243 u244 u245 u246 u247 u248 u249 : Value, SwI w (stepF (kdOf kds) s0 (3, ky, at', id, tx)) j (gst + 1) gst w.heap.size (3, ky, at', id, tx) (.slice Am l.length cm) l T z12 u11 w' ∧ a' = ⟨#[z0, z1, z2, z3, z4, .pointer (some ⟨w.heap.size, 0, none⟩), z6, z7, z8, z9, .func (.func 16) #[] #[.pointer (some ⟨w.heap.size, 0, none⟩)], u11, z12, z13, .pointer (some ⟨gst, 0, none⟩), .pointer (some ⟨gst + 1, 0, none⟩), .bool true, u17, u18, u19, u20, u21, u22, z23, z24, z25, z26, z27, z28, z29, z30, z31, z32, z33, z34, z35, z36, z37, z38, z39, z40, z41, z42, z43, z44, z45, z46, z47, z48, z49, z50, z51, z52, z53, z54, z55, z56, z57, z58, z59, z60, z61, z62, z63, u64, u65, u66, u67, u68, u69, u70, u71, u72, u73, u74, u75, u76, u77, u78, u79, u80, u81, u82, u83, u84, u85, u86, u87, u88, u89, u90, u91, u92, u93, u94, u95, u96, u97, u98, u99, u100, u101, u102, u103, u104, u105, u106, u107, u108, u109, u110, u111, u112, u113, u114, u115, u116, u117, u118, u119, u120, u121, u122, u123, u124, u125, u126, u127, u128, u129, u130, u131, u132, u133, u134, u135, u136, u137, u138, u139, u140, u141, u142, u143, u144, u145, u146, u147, u148, u149, u150, u151, u152, u153, u154, u155, u156, u157, u158, u159, u160, u161, u162, u163, u164, u165, u166, u167, u168, u169, u170, u171, u172, u173, u174, u175, u176, u177, u178, u179, u180, u181, u182, u183, u184, u185, u186, u187, u188, u189, u190, u191, u192, u193, u194, u195, u196, u197, u198, u199, u200, u201, u202, u203, u204, u205, u206, u207, u208, u209, u210, u211, u212, u213, u214, u215, u216, u217, u218, u219, u220, u221, u222, u223, u224, u225, u226, u227, u228, u229, u230, u231, u232, u233, u234, u235, u236, u237, u238, u239, u240, u241, u242, u243, u244, u245, u246, u247, u248, u249, z250], []⟩) → J a' w')
    (hK : ∀ a' w', Met J a' w' → K' a' w') :
    Code.wp Tryz.prog swC (Exit.then K' Q2) ⟨#[z0, z1, z2, z3, z4, .pointer (some ⟨w.heap.size, 0, none⟩), z6, z7, z8, z9, .func (.func 16) #[] #[.pointer (some ⟨w.heap.size, 0, none⟩)], .iface 83 (.pointer (some ⟨gs2, 0, none⟩)), z12, z13, .pointer (some ⟨gst, 0, none⟩), .pointer (some ⟨gst + 1, 0, none⟩), .bool true, z17, z18, z19, z20, z21, z22, z23, z24, z25, z26, z27, z28, z29, z30, z31, z32, z33, z34, z35, z36, z37, z38, z39, z40, z41, z42, z43, z44, z45, z46, z47, z48, z49, z50, z51, z52, z53, z54, z55, z56, z57, z58, z59, z60, z61, z62, z63, z64, z65, z66, z67, z68, z69, z70, z71, z72, z73, z74, z75, z76, z77, z78, z79, z80, z81, z82, z83, z84, z85, z86, z87, z88, z89, z90, z91, z92, z93, z94, z95, z96, z97, z98, z99, z100, z101, z102, z103, z104, z105, z106, z107, z108, z109, z110, z111, z112, z113, z114, z115, z116, z117, z118, z119, z120, z121, z122, z123, z124, z125, z126, z127, z128, z129, z130, z131, z132, z133, z134, z135, z136, z137, z138, z139, z140, z141, z142, z143, z144, z145, z146, z147, z148, z149, z150, z151, z152, z153, z154, z155, z156, z157, z158, z159, z160, z161, z162, z163, z164, z165, z166, z167, z168, z169, z170, z171, z172, z173, z174, z175, z176, z177, z178, z179, z180, z181, z182, z183, z184, z185, z186, z187, z188, z189, z190, z191, z192, z193, z194, z195, z196, z197, z198, z199, z200, z201, z202, z203, z204, z205, z206, z207, z208, z209, z210, z211, z212, z213, z214, z215, z216, z217, z218, z219, z220, z221, z222, z223, z224, z225, z226, z227, z228, z229, z230, z231, z232, z233, z234, z235, z236, z237, z238, z239, z240, z241, z242, z243, z244, z245, z246, z247, z248, z249, z250], []⟩ wx := by
  conv => arg 2; whnf
  have hmf : ∀ (fn : Fn) (first cap : Array Value) (w : World), (Instr.makeFunc fn first cap).run Tryz.prog w = .ok (.func fn first cap) w := fun _ _ _ _ => rfl
  have hH4 := H4.out
  obtain ⟨t0, _⟩ := hH4.cell 4 rfl 0 (by simp)
  obtain ⟨t1, _⟩ := hH4.cell 4 rfl 1 (by simp)
  obtain ⟨t2, _⟩ := hH4.cell 4 rfl 2 (by simp)
  obtain ⟨t3, _⟩ := hH4.cell 4 rfl 3 (by simp)
  obtain ⟨t4, _⟩ := hH4.cell 4 rfl 4 (by simp)
  obtain ⟨k5, _⟩ := hH4.cell 5 rfl 0 (by simp)
  simp only at t0 t1 t2 t3 t4 k5
  clear hH4
  have hky : ky < l.length := by exact_mod_cast hK2
  obtain ⟨d1, d2, d3, d4, d5⟩ := HD.out
  have hk3 := d5
  have hkl : s0.ks.length ≤ 1000000 := by omega
  obtain ⟨Am2, cm2, em, hcm2, hCm⟩ := H4.out.slReads kyV_one 6 rfl
  injection em with e1 e2 e3
  subst e1
  obtain ⟨ad, e4, _⟩ := C1_get hCm ky (by simpa using hky)
  subst e4
  have HKP : Aside0 (KP w gs2 gm2 n2 D (Mid (gst + 1) gst w.heap.size (3, ky, at', id, tx) true (-1) (-1) (.slice (some ad) l.length cm) l T z12) kv (s0.ks.map (blkAt l)) wx) := ⟨H4.out⟩
  clear hCm e2 e3 hcm2 H4
  by_cases hat : 0 ≤ at' ∧ at' < (s0.ks.length : Int)
  · obtain ⟨k, hkk⟩ : ∃ k, s0.ks[at'.toNat]'(by omega) = k := ⟨_, rfl⟩
    have hkn : k < l.length := d5 k (by rw [← hkk]; exact List.getElem_mem _)
    obtain ⟨kb, hkb⟩ : ∃ kb, blkAt l k = kb := ⟨_, rfl⟩
    have HS7 : Aside0 (stepF (kdOf kds) s0 (3, ky, at', id, tx) = (s0, true, -1, (k : Int))) := ⟨by show (if h : 0 ≤ at' ∧ at' < s0.ks.length then (s0, true, -1, ((s0.ks[at'.toNat]'(by omega) : Nat) : Int)) else (s0, false, -1, -1)) = _; rw [dif_pos hat, hkk]⟩
    have HC1 := Aside0.mk (HKP.out.keyYes hat hkk hkb)
    have H5 := Aside0.mk (HKP.out.ok_ true)
    have HC2 := Aside0.mk (H5.out.at' hkb hkn)
    have H6 := Aside0.mk (H5.out.fd_ (k : Int))
    obtain ⟨⟨c0, f0⟩, _, _⟩ := HKP.out.sn
    obtain ⟨_, _, c2, f2⟩ := H5.out.sn
    clear H5 HKP hat hkk
    go_wp2_with fail
    refine HC1.out.mono ?_
    rintro e w4 ⟨rfl, rfl⟩
    try dsimp only
    go_wp2_with fail
    refine HC2.out.mono ?_
    rintro e w5 ⟨rfl, rfl⟩
    try dsimp only
    clear HC1 HC2
    go_wp2
    go_meet
    rw [HS7.out]
    exact ⟨⟨gs2, gm2, kv, n2, D, rfl, d1, by omega, by show s0.ns.length ≤ _; omega, by show s0.ks.length ≤ _; omega, d5, H6.out⟩⟩
  · have HS7 : Aside0 (stepF (kdOf kds) s0 (3, ky, at', id, tx) = (s0, false, -1, -1)) := ⟨by show (if h : 0 ≤ at' ∧ at' < s0.ks.length then (s0, true, -1, ((s0.ks[at'.toNat]'(by omega) : Nat) : Int)) else (s0, false, -1, -1)) = _; rw [dif_neg hat]⟩
    have HC1 := Aside0.mk (HKP.out.keyNo hat)
    have H5 := Aside0.mk (HKP.out.ok_ false)
    obtain ⟨⟨c0, f0⟩, _, _⟩ := HKP.out.sn
    clear HKP hat
    go_wp2_with fail
    refine HC1.out.mono ?_
    rintro e w4 ⟨rfl, rfl⟩
    try dsimp only
    clear HC1
    go_wp2
    go_meet
    rw [HS7.out]
    exact ⟨⟨gs2, gm2, kv, n2, D, rfl, d1, by omega, by show s0.ns.length ≤ _; omega, by show s0.ks.length ≤ _; omega, d5, H5.out⟩⟩
set_option maxHeartbeats 16000000 in
theorem sw4 {z0 z1 z2 z3 z4 z6 z7 z8 z9 z12 z13 z17 z18 z19 z20 z21 z22 z23 z24 z25 z26 z27 z28 z29 z30 z31 z32 z33 z34 z35 z36 z37 z38 z39 z40 z41 z42 z43 z44 z45 z46 z47 z48 z49 z50 z51 z52 z53 z54 z55 z56 z57 z58 z59 z60 z61 z62 z63 z64 z65 z66 z67 z68 z69 z70 z71 z72 z73 z74 z75 z76 z77 z78 z79 z80 z81 z82 z83 z84 z85 z86 z87 z88 z89 z90 z91 z92 z93 z94 z95 z96 z97 z98 z99 z100 z101 z102 z103 z104 z105 z106 z107 z108 z109 z110 z111 z112 z113 z114 z115 z116 z117 z118 z119 z120 z121 z122 z123 z124 z125 z126 z127 z128 z129 z130 z131 z132 z133 z134 z135 z136 z137 z138 z139 z140 z141 z142 z143 z144 z145 z146 z147 z148 z149 z150 z151 z152 z153 z154 z155 z156 z157 z158 z159 z160 z161 z162 z163 z164 z165 z166 z167 z168 z169 z170 z171 z172 z173 z174 z175 z176 z177 z178 z179 z180 z181 z182 z183 z184 z185 z186 z187 z188 z189 z190 z191 z192 z193 z194 z195 z196 z197 z198 z199 z200 z201 z202 z203 z204 z205 z206 z207 z208 z209 z210 z211 z212 z213 z214 z215 z216 z217 z218 z219 z220 z221 z222 z223 z224 z225 z226 z227 z228 z229 z230 z231 z232 z233 z234 z235 z236 z237 z238 z239 z240 z241 z242 z243 z244 z245 z246 z247 z248 z249 z250 : Value} {w wx : World} {gst gs2 gm2 n2 ky m j : Nat} {at' : Int} {id tx : ByteArray} {D : DataW Value} {kv : Value} {l : List (Nat × Option ByteArray)} {kds : List KDr} {Am : Option Addr} {cm : Nat} {T : List Sn} {s0 : KSt}
    (hm : m ≤ 1000) (hj1 : j + 1 ≤ m) (hK2 : (ky : Int) < (l.length : Int)) (hid : id.size ≤ maxLen) (HLs : Aside0 (l.map Prod.snd = kds.map idOf))
    (HD : Aside0 (DMap D s0.ns ∧ n2 ≤ j ∧ s0.ns.length ≤ j ∧ s0.ks.length ≤ j ∧ ∀ k ∈ s0.ks, k < l.length))
    (H4 : Aside0 (Hold w w.heap.size wx (.blk gs2 (.cells #[kv, .map (some gm2)] 95) :: .sl kyV kv (s0.ks.map (blkAt l)) :: .hm gm2 n2 D :: Mid (gst + 1) gst w.heap.size (4, ky, at', id, tx) true (-1) (-1) (.slice Am l.length cm) l T z12)))
    {J K' : Act → World → Prop} {Q2 : Exit → Act → World → Prop}
    (hJ : ∀ a' w', (∃ u11 u17 u18 u19 u20 u21 u22 u64 u65 u66 u67 u68 u69 u70 u71 u72 u73 u74 u75 u76 u77 u78 u79 u80 u81 u82 u83 u84 u85 u86 u87 u88 u89 u90 u91 u92 u93 u94 u95 u96 u97 u98 u99 u100 u101 u102 u103 u104 u105 u106 u107 u108 u109 u110 u111 u112 u113 u114 u115 u116 u117 u118 u119 u120 u121 u122 u123 u124 u125 u126 u127 u128 u129 u130 u131 u132 u133 u134 u135 u136 u137 u138 u139 u140 u141 u142 u143 u144 u145 u146 u147 u148 u149 u150 u151 u152 u153 u154 u155 u156 u157 u158 u159 u160 u161 u162 u163 u164 u165 u166 u167 u168 u169 u170 u171 u172 u173 u174 u175 u176 u177 u178 u179 u180 u181 u182 u183 u184 u185 u186 u187 u188 u189 u190 u191 u192 u193 u194 u195 u196 u197 u198 u199 u200 u201 u202 u203 u204 u205 u206 u207 u208 u209 u210 u211 u212 u213 u214 u215 u216 u217 u218 u219 u220 u221 u222 u223 u224 u225 u226 u227 u228 u229 u230 u231 u232 u233 u234 u235 u236 u237 u238 u239 u240 u241 u242 u243 u244 u245 u246 u247 u248 u249 : Value, SwI w (stepF (kdOf kds) s0 (4, ky, at', id, tx)) j (gst + 1) gst w.heap.size (4, ky, at', id, tx) (.slice Am l.length cm) l T z12 u11 w' ∧ a' = ⟨#[z0, z1, z2, z3, z4, .pointer (some ⟨w.heap.size, 0, none⟩), z6, z7, z8, z9, .func (.func 16) #[] #[.pointer (some ⟨w.heap.size, 0, none⟩)], u11, z12, z13, .pointer (some ⟨gst, 0, none⟩), .pointer (some ⟨gst + 1, 0, none⟩), .bool true, u17, u18, u19, u20, u21, u22, z23, z24, z25, z26, z27, z28, z29, z30, z31, z32, z33, z34, z35, z36, z37, z38, z39, z40, z41, z42, z43, z44, z45, z46, z47, z48, z49, z50, z51, z52, z53, z54, z55, z56, z57, z58, z59, z60, z61, z62, z63, u64, u65, u66, u67, u68, u69, u70, u71, u72, u73, u74, u75, u76, u77, u78, u79, u80, u81, u82, u83, u84, u85, u86, u87, u88, u89, u90, u91, u92, u93, u94, u95, u96, u97, u98, u99, u100, u101, u102, u103, u104, u105, u106, u107, u108, u109, u110, u111, u112, u113, u114, u115, u116, u117, u118, u119, u120, u121, u122, u123, u124, u125, u126, u127, u128, u129, u130, u131, u132, u133, u134, u135, u136, u137, u138, u139, u140, u141, u142, u143, u144, u145, u146, u147, u148, u149, u150, u151, u152, u153, u154, u155, u156, u157, u158, u159, u160, u161, u162, u163, u164, u165, u166, u167, u168, u169, u170, u171, u172, u173, u174, u175, u176, u177, u178, u179, u180, u181, u182, u183, u184, u185, u186, u187, u188, u189, u190, u191, u192, u193, u194, u195, u196, u197, u198, u199, u200, u201, u202, u203, u204, u205, u206, u207, u208, u209, u210, u211, u212, u213, u214, u215, u216, u217, u218, u219, u220, u221, u222, u223, u224, u225, u226, u227, u228, u229, u230, u231, u232, u233, u234, u235, u236, u237, u238, u239, u240, u241, u242, u243, u244, u245, u246, u247, u248, u249, z250], []⟩) → J a' w')
    (hK : ∀ a' w', Met J a' w' → K' a' w') :
    Code.wp Tryz.prog swC (Exit.then K' Q2) ⟨#[z0, z1, z2, z3, z4, .pointer (some ⟨w.heap.size, 0, none⟩), z6, z7, z8, z9, .func (.func 16) #[] #[.pointer (some ⟨w.heap.size, 0, none⟩)], .iface 83 (.pointer (some ⟨gs2, 0, none⟩)), z12, z13, .pointer (some ⟨gst, 0, none⟩), .pointer (some ⟨gst + 1, 0, none⟩), .bool true, z17, z18, z19, z20, z21, z22, z23, z24, z25, z26, z27, z28, z29, z30, z31, z32, z33, z34, z35, z36, z37, z38, z39, z40, z41, z42, z43, z44, z45, z46, z47, z48, z49, z50, z51, z52, z53, z54, z55, z56, z57, z58, z59, z60, z61, z62, z63, z64, z65, z66, z67, z68, z69, z70, z71, z72, z73, z74, z75, z76, z77, z78, z79, z80, z81, z82, z83, z84, z85, z86, z87, z88, z89, z90, z91, z92, z93, z94, z95, z96, z97, z98, z99, z100, z101, z102, z103, z104, z105, z106, z107, z108, z109, z110, z111, z112, z113, z114, z115, z116, z117, z118, z119, z120, z121, z122, z123, z124, z125, z126, z127, z128, z129, z130, z131, z132, z133, z134, z135, z136, z137, z138, z139, z140, z141, z142, z143, z144, z145, z146, z147, z148, z149, z150, z151, z152, z153, z154, z155, z156, z157, z158, z159, z160, z161, z162, z163, z164, z165, z166, z167, z168, z169, z170, z171, z172, z173, z174, z175, z176, z177, z178, z179, z180, z181, z182, z183, z184, z185, z186, z187, z188, z189, z190, z191, z192, z193, z194, z195, z196, z197, z198, z199, z200, z201, z202, z203, z204, z205, z206, z207, z208, z209, z210, z211, z212, z213, z214, z215, z216, z217, z218, z219, z220, z221, z222, z223, z224, z225, z226, z227, z228, z229, z230, z231, z232, z233, z234, z235, z236, z237, z238, z239, z240, z241, z242, z243, z244, z245, z246, z247, z248, z249, z250], []⟩ wx := by
  conv => arg 2; whnf
  have hmf : ∀ (fn : Fn) (first cap : Array Value) (w : World), (Instr.makeFunc fn first cap).run Tryz.prog w = .ok (.func fn first cap) w := fun _ _ _ _ => rfl
  have hH4 := H4.out
  obtain ⟨t0, _⟩ := hH4.cell 4 rfl 0 (by simp)
  obtain ⟨t1, _⟩ := hH4.cell 4 rfl 1 (by simp)
  obtain ⟨t2, _⟩ := hH4.cell 4 rfl 2 (by simp)
  obtain ⟨t3, _⟩ := hH4.cell 4 rfl 3 (by simp)
  obtain ⟨t4, _⟩ := hH4.cell 4 rfl 4 (by simp)
  obtain ⟨k5, _⟩ := hH4.cell 5 rfl 0 (by simp)
  simp only at t0 t1 t2 t3 t4 k5
  clear hH4
  have hky : ky < l.length := by exact_mod_cast hK2
  obtain ⟨d1, d2, d3, d4, d5⟩ := HD.out
  have hk3 := d5
  have hkl : s0.ks.length ≤ 1000000 := by omega
  obtain ⟨Am2, cm2, em, hcm2, hCm⟩ := H4.out.slReads kyV_one 6 rfl
  injection em with e1 e2 e3
  subst e1
  obtain ⟨ad, e4, _⟩ := C1_get hCm ky (by simpa using hky)
  subst e4
  have HKP : Aside0 (KP w gs2 gm2 n2 D (Mid (gst + 1) gst w.heap.size (4, ky, at', id, tx) true (-1) (-1) (.slice (some ad) l.length cm) l T z12) kv (s0.ks.map (blkAt l)) wx) := ⟨H4.out⟩
  clear hCm e2 e3 hcm2 H4
  have hst : stepF (kdOf kds) s0 (4, ky, at', id, tx) = (match s0.ks.find? (fun k => decide (kdId (kdOf kds) k = some id)) with | some k => (s0, true, -1, (k : Int)) | none => (s0, false, -1, -1)) := rfl
  cases hf : s0.ks.find? (fun k => decide (kdId (kdOf kds) k = some id)) with
  | some k =>
    have hkn : k < l.length := d5 k (List.mem_of_find?_eq_some hf)
    obtain ⟨kb, hkb⟩ : ∃ kb, blkAt l k = kb := ⟨_, rfl⟩
    rw [hf] at hst
    have HS7 := Aside0.mk hst
    have HC1 := Aside0.mk (HKP.out.lookYes HLs.out hk3 hkl hf hkb)
    have H5 := Aside0.mk (HKP.out.ok_ true)
    have HC2 := Aside0.mk (H5.out.at' hkb hkn)
    have H6 := Aside0.mk (H5.out.fd_ (k : Int))
    obtain ⟨⟨c0, f0⟩, _, _⟩ := HKP.out.sn
    obtain ⟨_, _, c2, f2⟩ := H5.out.sn
    clear H5 HKP hf hst
    go_wp2_with fail
    refine HC1.out.mono ?_
    rintro e w4 ⟨rfl, rfl⟩
    try dsimp only
    go_wp2_with fail
    refine HC2.out.mono ?_
    rintro e w5 ⟨rfl, rfl⟩
    try dsimp only
    clear HC1 HC2
    go_wp2
    go_meet
    rw [HS7.out]
    exact ⟨⟨gs2, gm2, kv, n2, D, rfl, d1, by omega, by show s0.ns.length ≤ _; omega, by show s0.ks.length ≤ _; omega, d5, H6.out⟩⟩
  | none =>
    rw [hf] at hst
    have HS7 := Aside0.mk hst
    have HC1 := Aside0.mk (HKP.out.lookNo HLs.out hk3 hkl hf)
    have H5 := Aside0.mk (HKP.out.ok_ false)
    obtain ⟨⟨c0, f0⟩, _, _⟩ := HKP.out.sn
    clear HKP hf hst
    go_wp2_with fail
    refine HC1.out.mono ?_
    rintro e w4 ⟨rfl, rfl⟩
    try dsimp only
    clear HC1
    go_wp2
    go_meet
    rw [HS7.out]
    exact ⟨⟨gs2, gm2, kv, n2, D, rfl, d1, by omega, by show s0.ns.length ≤ _; omega, by show s0.ks.length ≤ _; omega, d5, H5.out⟩⟩
set_option maxHeartbeats 16000000 in
theorem sw5 {z0 z1 z2 z3 z4 z6 z7 z8 z9 z12 z13 z17 z18 z19 z20 z21 z22 z23 z24 z25 z26 z27 z28 z29 z30 z31 z32 z33 z34 z35 z36 z37 z38 z39 z40 z41 z42 z43 z44 z45 z46 z47 z48 z49 z50 z51 z52 z53 z54 z55 z56 z57 z58 z59 z60 z61 z62 z63 z64 z65 z66 z67 z68 z69 z70 z71 z72 z73 z74 z75 z76 z77 z78 z79 z80 z81 z82 z83 z84 z85 z86 z87 z88 z89 z90 z91 z92 z93 z94 z95 z96 z97 z98 z99 z100 z101 z102 z103 z104 z105 z106 z107 z108 z109 z110 z111 z112 z113 z114 z115 z116 z117 z118 z119 z120 z121 z122 z123 z124 z125 z126 z127 z128 z129 z130 z131 z132 z133 z134 z135 z136 z137 z138 z139 z140 z141 z142 z143 z144 z145 z146 z147 z148 z149 z150 z151 z152 z153 z154 z155 z156 z157 z158 z159 z160 z161 z162 z163 z164 z165 z166 z167 z168 z169 z170 z171 z172 z173 z174 z175 z176 z177 z178 z179 z180 z181 z182 z183 z184 z185 z186 z187 z188 z189 z190 z191 z192 z193 z194 z195 z196 z197 z198 z199 z200 z201 z202 z203 z204 z205 z206 z207 z208 z209 z210 z211 z212 z213 z214 z215 z216 z217 z218 z219 z220 z221 z222 z223 z224 z225 z226 z227 z228 z229 z230 z231 z232 z233 z234 z235 z236 z237 z238 z239 z240 z241 z242 z243 z244 z245 z246 z247 z248 z249 z250 : Value} {w wx : World} {gst gs2 gm2 n2 ky m j : Nat} {at' : Int} {id tx : ByteArray} {D : DataW Value} {kv : Value} {l : List (Nat × Option ByteArray)} {kds : List KDr} {Am : Option Addr} {cm : Nat} {T : List Sn} {s0 : KSt}
    (hm : m ≤ 1000) (hj1 : j + 1 ≤ m) (hK2 : (ky : Int) < (l.length : Int)) (hid : id.size ≤ maxLen) (HLs : Aside0 (l.map Prod.snd = kds.map idOf))
    (HD : Aside0 (DMap D s0.ns ∧ n2 ≤ j ∧ s0.ns.length ≤ j ∧ s0.ks.length ≤ j ∧ ∀ k ∈ s0.ks, k < l.length))
    (H4 : Aside0 (Hold w w.heap.size wx (.blk gs2 (.cells #[kv, .map (some gm2)] 95) :: .sl kyV kv (s0.ks.map (blkAt l)) :: .hm gm2 n2 D :: Mid (gst + 1) gst w.heap.size (5, ky, at', id, tx) true (-1) (-1) (.slice Am l.length cm) l T z12)))
    {J K' : Act → World → Prop} {Q2 : Exit → Act → World → Prop}
    (hJ : ∀ a' w', (∃ u11 u17 u18 u19 u20 u21 u22 u64 u65 u66 u67 u68 u69 u70 u71 u72 u73 u74 u75 u76 u77 u78 u79 u80 u81 u82 u83 u84 u85 u86 u87 u88 u89 u90 u91 u92 u93 u94 u95 u96 u97 u98 u99 u100 u101 u102 u103 u104 u105 u106 u107 u108 u109 u110 u111 u112 u113 u114 u115 u116 u117 u118 u119 u120 u121 u122 u123 u124 u125 u126 u127 u128 u129 u130 u131 u132 u133 u134 u135 u136 u137 u138 u139 u140 u141 u142 u143 u144 u145 u146 u147 u148 u149 u150 u151 u152 u153 u154 u155 u156 u157 u158 u159 u160 u161 u162 u163 u164 u165 u166 u167 u168 u169 u170 u171 u172 u173 u174 u175 u176 u177 u178 u179 u180 u181 u182 u183 u184 u185 u186 u187 u188 u189 u190 u191 u192 u193 u194 u195 u196 u197 u198 u199 u200 u201 u202 u203 u204 u205 u206 u207 u208 u209 u210 u211 u212 u213 u214 u215 u216 u217 u218 u219 u220 u221 u222 u223 u224 u225 u226 u227 u228 u229 u230 u231 u232 u233 u234 u235 u236 u237 u238 u239 u240 u241 u242 u243 u244 u245 u246 u247 u248 u249 : Value, SwI w (stepF (kdOf kds) s0 (5, ky, at', id, tx)) j (gst + 1) gst w.heap.size (5, ky, at', id, tx) (.slice Am l.length cm) l T z12 u11 w' ∧ a' = ⟨#[z0, z1, z2, z3, z4, .pointer (some ⟨w.heap.size, 0, none⟩), z6, z7, z8, z9, .func (.func 16) #[] #[.pointer (some ⟨w.heap.size, 0, none⟩)], u11, z12, z13, .pointer (some ⟨gst, 0, none⟩), .pointer (some ⟨gst + 1, 0, none⟩), .bool true, u17, u18, u19, u20, u21, u22, z23, z24, z25, z26, z27, z28, z29, z30, z31, z32, z33, z34, z35, z36, z37, z38, z39, z40, z41, z42, z43, z44, z45, z46, z47, z48, z49, z50, z51, z52, z53, z54, z55, z56, z57, z58, z59, z60, z61, z62, z63, u64, u65, u66, u67, u68, u69, u70, u71, u72, u73, u74, u75, u76, u77, u78, u79, u80, u81, u82, u83, u84, u85, u86, u87, u88, u89, u90, u91, u92, u93, u94, u95, u96, u97, u98, u99, u100, u101, u102, u103, u104, u105, u106, u107, u108, u109, u110, u111, u112, u113, u114, u115, u116, u117, u118, u119, u120, u121, u122, u123, u124, u125, u126, u127, u128, u129, u130, u131, u132, u133, u134, u135, u136, u137, u138, u139, u140, u141, u142, u143, u144, u145, u146, u147, u148, u149, u150, u151, u152, u153, u154, u155, u156, u157, u158, u159, u160, u161, u162, u163, u164, u165, u166, u167, u168, u169, u170, u171, u172, u173, u174, u175, u176, u177, u178, u179, u180, u181, u182, u183, u184, u185, u186, u187, u188, u189, u190, u191, u192, u193, u194, u195, u196, u197, u198, u199, u200, u201, u202, u203, u204, u205, u206, u207, u208, u209, u210, u211, u212, u213, u214, u215, u216, u217, u218, u219, u220, u221, u222, u223, u224, u225, u226, u227, u228, u229, u230, u231, u232, u233, u234, u235, u236, u237, u238, u239, u240, u241, u242, u243, u244, u245, u246, u247, u248, u249, z250], []⟩) → J a' w')
    (hK : ∀ a' w', Met J a' w' → K' a' w') :
    Code.wp Tryz.prog swC (Exit.then K' Q2) ⟨#[z0, z1, z2, z3, z4, .pointer (some ⟨w.heap.size, 0, none⟩), z6, z7, z8, z9, .func (.func 16) #[] #[.pointer (some ⟨w.heap.size, 0, none⟩)], .iface 83 (.pointer (some ⟨gs2, 0, none⟩)), z12, z13, .pointer (some ⟨gst, 0, none⟩), .pointer (some ⟨gst + 1, 0, none⟩), .bool true, z17, z18, z19, z20, z21, z22, z23, z24, z25, z26, z27, z28, z29, z30, z31, z32, z33, z34, z35, z36, z37, z38, z39, z40, z41, z42, z43, z44, z45, z46, z47, z48, z49, z50, z51, z52, z53, z54, z55, z56, z57, z58, z59, z60, z61, z62, z63, z64, z65, z66, z67, z68, z69, z70, z71, z72, z73, z74, z75, z76, z77, z78, z79, z80, z81, z82, z83, z84, z85, z86, z87, z88, z89, z90, z91, z92, z93, z94, z95, z96, z97, z98, z99, z100, z101, z102, z103, z104, z105, z106, z107, z108, z109, z110, z111, z112, z113, z114, z115, z116, z117, z118, z119, z120, z121, z122, z123, z124, z125, z126, z127, z128, z129, z130, z131, z132, z133, z134, z135, z136, z137, z138, z139, z140, z141, z142, z143, z144, z145, z146, z147, z148, z149, z150, z151, z152, z153, z154, z155, z156, z157, z158, z159, z160, z161, z162, z163, z164, z165, z166, z167, z168, z169, z170, z171, z172, z173, z174, z175, z176, z177, z178, z179, z180, z181, z182, z183, z184, z185, z186, z187, z188, z189, z190, z191, z192, z193, z194, z195, z196, z197, z198, z199, z200, z201, z202, z203, z204, z205, z206, z207, z208, z209, z210, z211, z212, z213, z214, z215, z216, z217, z218, z219, z220, z221, z222, z223, z224, z225, z226, z227, z228, z229, z230, z231, z232, z233, z234, z235, z236, z237, z238, z239, z240, z241, z242, z243, z244, z245, z246, z247, z248, z249, z250], []⟩ wx := by
  conv => arg 2; whnf
  have hmf : ∀ (fn : Fn) (first cap : Array Value) (w : World), (Instr.makeFunc fn first cap).run Tryz.prog w = .ok (.func fn first cap) w := fun _ _ _ _ => rfl
  have hH4 := H4.out
  obtain ⟨t0, _⟩ := hH4.cell 4 rfl 0 (by simp)
  obtain ⟨t1, _⟩ := hH4.cell 4 rfl 1 (by simp)
  obtain ⟨t2, _⟩ := hH4.cell 4 rfl 2 (by simp)
  obtain ⟨t3, _⟩ := hH4.cell 4 rfl 3 (by simp)
  obtain ⟨t4, _⟩ := hH4.cell 4 rfl 4 (by simp)
  obtain ⟨k5, _⟩ := hH4.cell 5 rfl 0 (by simp)
  simp only at t0 t1 t2 t3 t4 k5
  clear hH4
  go_wp2_with fail
  refine (setClear_any wx gs2 gm2 n2 kv _ D H4.out).mono ?_
  rintro e w4 ⟨rfl, gm4, h4⟩
  try dsimp only
  obtain ⟨e0, f0⟩ := h4.cell 3 rfl 0 (by simp)
  have H5 := Aside0.mk (h4.store 3 rfl 0 (.bool true))
  clear h4 H4
  go_wp2
  go_meet
  exact ⟨⟨gs2, gm4, _, 0, _, rfl, DMap.nil, Nat.zero_le _, Nat.zero_le _, Nat.zero_le _, fun k hk => (by cases hk), H5.out⟩⟩
set_option maxHeartbeats 16000000 in
theorem sw6 {z0 z1 z2 z3 z4 z6 z7 z8 z9 z12 z13 z17 z18 z19 z20 z21 z22 z23 z24 z25 z26 z27 z28 z29 z30 z31 z32 z33 z34 z35 z36 z37 z38 z39 z40 z41 z42 z43 z44 z45 z46 z47 z48 z49 z50 z51 z52 z53 z54 z55 z56 z57 z58 z59 z60 z61 z62 z63 z64 z65 z66 z67 z68 z69 z70 z71 z72 z73 z74 z75 z76 z77 z78 z79 z80 z81 z82 z83 z84 z85 z86 z87 z88 z89 z90 z91 z92 z93 z94 z95 z96 z97 z98 z99 z100 z101 z102 z103 z104 z105 z106 z107 z108 z109 z110 z111 z112 z113 z114 z115 z116 z117 z118 z119 z120 z121 z122 z123 z124 z125 z126 z127 z128 z129 z130 z131 z132 z133 z134 z135 z136 z137 z138 z139 z140 z141 z142 z143 z144 z145 z146 z147 z148 z149 z150 z151 z152 z153 z154 z155 z156 z157 z158 z159 z160 z161 z162 z163 z164 z165 z166 z167 z168 z169 z170 z171 z172 z173 z174 z175 z176 z177 z178 z179 z180 z181 z182 z183 z184 z185 z186 z187 z188 z189 z190 z191 z192 z193 z194 z195 z196 z197 z198 z199 z200 z201 z202 z203 z204 z205 z206 z207 z208 z209 z210 z211 z212 z213 z214 z215 z216 z217 z218 z219 z220 z221 z222 z223 z224 z225 z226 z227 z228 z229 z230 z231 z232 z233 z234 z235 z236 z237 z238 z239 z240 z241 z242 z243 z244 z245 z246 z247 z248 z249 z250 : Value} {w wx : World} {gst gs2 gm2 n2 ky m j : Nat} {at' : Int} {id tx : ByteArray} {D : DataW Value} {kv : Value} {l : List (Nat × Option ByteArray)} {kds : List KDr} {Am : Option Addr} {cm : Nat} {T : List Sn} {s0 : KSt}
    (hm : m ≤ 1000) (hj1 : j + 1 ≤ m) (hK2 : (ky : Int) < (l.length : Int)) (hid : id.size ≤ maxLen) (HLs : Aside0 (l.map Prod.snd = kds.map idOf))
    (HD : Aside0 (DMap D s0.ns ∧ n2 ≤ j ∧ s0.ns.length ≤ j ∧ s0.ks.length ≤ j ∧ ∀ k ∈ s0.ks, k < l.length))
    (H4 : Aside0 (Hold w w.heap.size wx (.blk gs2 (.cells #[kv, .map (some gm2)] 95) :: .sl kyV kv (s0.ks.map (blkAt l)) :: .hm gm2 n2 D :: Mid (gst + 1) gst w.heap.size (6, ky, at', id, tx) true (-1) (-1) (.slice Am l.length cm) l T z12)))
    {J K' : Act → World → Prop} {Q2 : Exit → Act → World → Prop}
    (hJ : ∀ a' w', (∃ u11 u17 u18 u19 u20 u21 u22 u64 u65 u66 u67 u68 u69 u70 u71 u72 u73 u74 u75 u76 u77 u78 u79 u80 u81 u82 u83 u84 u85 u86 u87 u88 u89 u90 u91 u92 u93 u94 u95 u96 u97 u98 u99 u100 u101 u102 u103 u104 u105 u106 u107 u108 u109 u110 u111 u112 u113 u114 u115 u116 u117 u118 u119 u120 u121 u122 u123 u124 u125 u126 u127 u128 u129 u130 u131 u132 u133 u134 u135 u136 u137 u138 u139 u140 u141 u142 u143 u144 u145 u146 u147 u148 u149 u150 u151 u152 u153 u154 u155 u156 u157 u158 u159 u160 u161 u162 u163 u164 u165 u166 u167 u168 u169 u170 u171 u172 u173 u174 u175 u176 u177 u178 u179 u180 u181 u182 u183 u184 u185 u186 u187 u188 u189 u190 u191 u192 u193 u194 u195 u196 u197 u198 u199 u200 u201 u202 u203 u204 u205 u206 u207 u208 u209 u210 u211 u212 u213 u214 u215 u216 u217 u218 u219 u220 u221 u222 u223 u224 u225 u226 u227 u228 u229 u230 u231 u232 u233 u234 u235 u236 u237 u238 u239 u240 u241 u242 u243 u244 u245 u246 u247 u248 u249 : Value, SwI w (stepF (kdOf kds) s0 (6, ky, at', id, tx)) j (gst + 1) gst w.heap.size (6, ky, at', id, tx) (.slice Am l.length cm) l T z12 u11 w' ∧ a' = ⟨#[z0, z1, z2, z3, z4, .pointer (some ⟨w.heap.size, 0, none⟩), z6, z7, z8, z9, .func (.func 16) #[] #[.pointer (some ⟨w.heap.size, 0, none⟩)], u11, z12, z13, .pointer (some ⟨gst, 0, none⟩), .pointer (some ⟨gst + 1, 0, none⟩), .bool true, u17, u18, u19, u20, u21, u22, z23, z24, z25, z26, z27, z28, z29, z30, z31, z32, z33, z34, z35, z36, z37, z38, z39, z40, z41, z42, z43, z44, z45, z46, z47, z48, z49, z50, z51, z52, z53, z54, z55, z56, z57, z58, z59, z60, z61, z62, z63, u64, u65, u66, u67, u68, u69, u70, u71, u72, u73, u74, u75, u76, u77, u78, u79, u80, u81, u82, u83, u84, u85, u86, u87, u88, u89, u90, u91, u92, u93, u94, u95, u96, u97, u98, u99, u100, u101, u102, u103, u104, u105, u106, u107, u108, u109, u110, u111, u112, u113, u114, u115, u116, u117, u118, u119, u120, u121, u122, u123, u124, u125, u126, u127, u128, u129, u130, u131, u132, u133, u134, u135, u136, u137, u138, u139, u140, u141, u142, u143, u144, u145, u146, u147, u148, u149, u150, u151, u152, u153, u154, u155, u156, u157, u158, u159, u160, u161, u162, u163, u164, u165, u166, u167, u168, u169, u170, u171, u172, u173, u174, u175, u176, u177, u178, u179, u180, u181, u182, u183, u184, u185, u186, u187, u188, u189, u190, u191, u192, u193, u194, u195, u196, u197, u198, u199, u200, u201, u202, u203, u204, u205, u206, u207, u208, u209, u210, u211, u212, u213, u214, u215, u216, u217, u218, u219, u220, u221, u222, u223, u224, u225, u226, u227, u228, u229, u230, u231, u232, u233, u234, u235, u236, u237, u238, u239, u240, u241, u242, u243, u244, u245, u246, u247, u248, u249, z250], []⟩) → J a' w')
    (hK : ∀ a' w', Met J a' w' → K' a' w') :
    Code.wp Tryz.prog swC (Exit.then K' Q2) ⟨#[z0, z1, z2, z3, z4, .pointer (some ⟨w.heap.size, 0, none⟩), z6, z7, z8, z9, .func (.func 16) #[] #[.pointer (some ⟨w.heap.size, 0, none⟩)], .iface 83 (.pointer (some ⟨gs2, 0, none⟩)), z12, z13, .pointer (some ⟨gst, 0, none⟩), .pointer (some ⟨gst + 1, 0, none⟩), .bool true, z17, z18, z19, z20, z21, z22, z23, z24, z25, z26, z27, z28, z29, z30, z31, z32, z33, z34, z35, z36, z37, z38, z39, z40, z41, z42, z43, z44, z45, z46, z47, z48, z49, z50, z51, z52, z53, z54, z55, z56, z57, z58, z59, z60, z61, z62, z63, z64, z65, z66, z67, z68, z69, z70, z71, z72, z73, z74, z75, z76, z77, z78, z79, z80, z81, z82, z83, z84, z85, z86, z87, z88, z89, z90, z91, z92, z93, z94, z95, z96, z97, z98, z99, z100, z101, z102, z103, z104, z105, z106, z107, z108, z109, z110, z111, z112, z113, z114, z115, z116, z117, z118, z119, z120, z121, z122, z123, z124, z125, z126, z127, z128, z129, z130, z131, z132, z133, z134, z135, z136, z137, z138, z139, z140, z141, z142, z143, z144, z145, z146, z147, z148, z149, z150, z151, z152, z153, z154, z155, z156, z157, z158, z159, z160, z161, z162, z163, z164, z165, z166, z167, z168, z169, z170, z171, z172, z173, z174, z175, z176, z177, z178, z179, z180, z181, z182, z183, z184, z185, z186, z187, z188, z189, z190, z191, z192, z193, z194, z195, z196, z197, z198, z199, z200, z201, z202, z203, z204, z205, z206, z207, z208, z209, z210, z211, z212, z213, z214, z215, z216, z217, z218, z219, z220, z221, z222, z223, z224, z225, z226, z227, z228, z229, z230, z231, z232, z233, z234, z235, z236, z237, z238, z239, z240, z241, z242, z243, z244, z245, z246, z247, z248, z249, z250], []⟩ wx := by
  conv => arg 2; whnf
  have hmf : ∀ (fn : Fn) (first cap : Array Value) (w : World), (Instr.makeFunc fn first cap).run Tryz.prog w = .ok (.func fn first cap) w := fun _ _ _ _ => rfl
  have hH4 := H4.out
  obtain ⟨t0, _⟩ := hH4.cell 4 rfl 0 (by simp)
  obtain ⟨t1, _⟩ := hH4.cell 4 rfl 1 (by simp)
  obtain ⟨t2, _⟩ := hH4.cell 4 rfl 2 (by simp)
  obtain ⟨t3, _⟩ := hH4.cell 4 rfl 3 (by simp)
  obtain ⟨t4, _⟩ := hH4.cell 4 rfl 4 (by simp)
  obtain ⟨k5, _⟩ := hH4.cell 5 rfl 0 (by simp)
  simp only at t0 t1 t2 t3 t4 k5
  clear hH4
  have hkl : (s0.ks.map (blkAt l)).length ≤ 1000000 := by rw [List.length_map]; have := HD.out.2.2.2.1; omega
  have hnl9 : s0.ns.length ≤ 1000000 := by have := HD.out.2.2.1; omega
  go_wp2_with fail
  refine (clone_any wx gs2 gm2 n2 kv _ D s0.ns HD.out.1 hnl9 hkl H4.out).mono ?_
  rintro e w4 ⟨gs3, gm3, v3, rfl, D3, hD3, h4⟩
  try dsimp only
  have h5 : Hold w w.heap.size w4 _ := Hold.pickA (M := [_, _, _, _, _, _]) (h4 : Hold w w.heap.size w4 ([_, _, _, _, _, _] ++ _)) [0, 1, 2] (by decide) (by simp) (M' := [_, _, _]) rfl
  obtain ⟨e0, f0⟩ := h5.cell 3 rfl 0 (by simp)
  have H5 := Aside0.mk (h5.store 3 rfl 0 (.bool true))
  have HD3 := Aside0.mk hD3
  clear h4 H4 h5 hD3 hkl hnl9
  go_wp2
  go_meet
  obtain ⟨d1, d2, d3, d4, d5⟩ := HD.out
  exact ⟨⟨gs3, gm3, v3, _, D3, rfl, HD3.out, by omega, by show s0.ns.length ≤ _; omega, by show s0.ks.length ≤ _; omega, d5, H5.out⟩⟩
set_option maxHeartbeats 16000000 in
theorem sw7 {z0 z1 z2 z3 z4 z6 z7 z8 z9 z12 z13 z17 z18 z19 z20 z21 z22 z23 z24 z25 z26 z27 z28 z29 z30 z31 z32 z33 z34 z35 z36 z37 z38 z39 z40 z41 z42 z43 z44 z45 z46 z47 z48 z49 z50 z51 z52 z53 z54 z55 z56 z57 z58 z59 z60 z61 z62 z63 z64 z65 z66 z67 z68 z69 z70 z71 z72 z73 z74 z75 z76 z77 z78 z79 z80 z81 z82 z83 z84 z85 z86 z87 z88 z89 z90 z91 z92 z93 z94 z95 z96 z97 z98 z99 z100 z101 z102 z103 z104 z105 z106 z107 z108 z109 z110 z111 z112 z113 z114 z115 z116 z117 z118 z119 z120 z121 z122 z123 z124 z125 z126 z127 z128 z129 z130 z131 z132 z133 z134 z135 z136 z137 z138 z139 z140 z141 z142 z143 z144 z145 z146 z147 z148 z149 z150 z151 z152 z153 z154 z155 z156 z157 z158 z159 z160 z161 z162 z163 z164 z165 z166 z167 z168 z169 z170 z171 z172 z173 z174 z175 z176 z177 z178 z179 z180 z181 z182 z183 z184 z185 z186 z187 z188 z189 z190 z191 z192 z193 z194 z195 z196 z197 z198 z199 z200 z201 z202 z203 z204 z205 z206 z207 z208 z209 z210 z211 z212 z213 z214 z215 z216 z217 z218 z219 z220 z221 z222 z223 z224 z225 z226 z227 z228 z229 z230 z231 z232 z233 z234 z235 z236 z237 z238 z239 z240 z241 z242 z243 z244 z245 z246 z247 z248 z249 z250 : Value} {w wx : World} {gst gs2 gm2 n2 ky m j : Nat} {at' : Int} {id tx : ByteArray} {D : DataW Value} {kv : Value} {l : List (Nat × Option ByteArray)} {kds : List KDr} {Am : Option Addr} {cm : Nat} {T : List Sn} {s0 : KSt}
    (hm : m ≤ 1000) (hj1 : j + 1 ≤ m) (hK2 : (ky : Int) < (l.length : Int)) (hid : id.size ≤ maxLen) (HLs : Aside0 (l.map Prod.snd = kds.map idOf))
    (HD : Aside0 (DMap D s0.ns ∧ n2 ≤ j ∧ s0.ns.length ≤ j ∧ s0.ks.length ≤ j ∧ ∀ k ∈ s0.ks, k < l.length))
    (H4 : Aside0 (Hold w w.heap.size wx (.blk gs2 (.cells #[kv, .map (some gm2)] 95) :: .sl kyV kv (s0.ks.map (blkAt l)) :: .hm gm2 n2 D :: Mid (gst + 1) gst w.heap.size (7, ky, at', id, tx) true (-1) (-1) (.slice Am l.length cm) l T z12)))
    {J K' : Act → World → Prop} {Q2 : Exit → Act → World → Prop}
    (hJ : ∀ a' w', (∃ u11 u17 u18 u19 u20 u21 u22 u64 u65 u66 u67 u68 u69 u70 u71 u72 u73 u74 u75 u76 u77 u78 u79 u80 u81 u82 u83 u84 u85 u86 u87 u88 u89 u90 u91 u92 u93 u94 u95 u96 u97 u98 u99 u100 u101 u102 u103 u104 u105 u106 u107 u108 u109 u110 u111 u112 u113 u114 u115 u116 u117 u118 u119 u120 u121 u122 u123 u124 u125 u126 u127 u128 u129 u130 u131 u132 u133 u134 u135 u136 u137 u138 u139 u140 u141 u142 u143 u144 u145 u146 u147 u148 u149 u150 u151 u152 u153 u154 u155 u156 u157 u158 u159 u160 u161 u162 u163 u164 u165 u166 u167 u168 u169 u170 u171 u172 u173 u174 u175 u176 u177 u178 u179 u180 u181 u182 u183 u184 u185 u186 u187 u188 u189 u190 u191 u192 u193 u194 u195 u196 u197 u198 u199 u200 u201 u202 u203 u204 u205 u206 u207 u208 u209 u210 u211 u212 u213 u214 u215 u216 u217 u218 u219 u220 u221 u222 u223 u224 u225 u226 u227 u228 u229 u230 u231 u232 u233 u234 u235 u236 u237 u238 u239 u240 u241 u242 u243 u244 u245 u246 u247 u248 u249 : Value, SwI w (stepF (kdOf kds) s0 (7, ky, at', id, tx)) j (gst + 1) gst w.heap.size (7, ky, at', id, tx) (.slice Am l.length cm) l T z12 u11 w' ∧ a' = ⟨#[z0, z1, z2, z3, z4, .pointer (some ⟨w.heap.size, 0, none⟩), z6, z7, z8, z9, .func (.func 16) #[] #[.pointer (some ⟨w.heap.size, 0, none⟩)], u11, z12, z13, .pointer (some ⟨gst, 0, none⟩), .pointer (some ⟨gst + 1, 0, none⟩), .bool true, u17, u18, u19, u20, u21, u22, z23, z24, z25, z26, z27, z28, z29, z30, z31, z32, z33, z34, z35, z36, z37, z38, z39, z40, z41, z42, z43, z44, z45, z46, z47, z48, z49, z50, z51, z52, z53, z54, z55, z56, z57, z58, z59, z60, z61, z62, z63, u64, u65, u66, u67, u68, u69, u70, u71, u72, u73, u74, u75, u76, u77, u78, u79, u80, u81, u82, u83, u84, u85, u86, u87, u88, u89, u90, u91, u92, u93, u94, u95, u96, u97, u98, u99, u100, u101, u102, u103, u104, u105, u106, u107, u108, u109, u110, u111, u112, u113, u114, u115, u116, u117, u118, u119, u120, u121, u122, u123, u124, u125, u126, u127, u128, u129, u130, u131, u132, u133, u134, u135, u136, u137, u138, u139, u140, u141, u142, u143, u144, u145, u146, u147, u148, u149, u150, u151, u152, u153, u154, u155, u156, u157, u158, u159, u160, u161, u162, u163, u164, u165, u166, u167, u168, u169, u170, u171, u172, u173, u174, u175, u176, u177, u178, u179, u180, u181, u182, u183, u184, u185, u186, u187, u188, u189, u190, u191, u192, u193, u194, u195, u196, u197, u198, u199, u200, u201, u202, u203, u204, u205, u206, u207, u208, u209, u210, u211, u212, u213, u214, u215, u216, u217, u218, u219, u220, u221, u222, u223, u224, u225, u226, u227, u228, u229, u230, u231, u232, u233, u234, u235, u236, u237, u238, u239, u240, u241, u242, u243, u244, u245, u246, u247, u248, u249, z250], []⟩) → J a' w')
    (hK : ∀ a' w', Met J a' w' → K' a' w') :
    Code.wp Tryz.prog swC (Exit.then K' Q2) ⟨#[z0, z1, z2, z3, z4, .pointer (some ⟨w.heap.size, 0, none⟩), z6, z7, z8, z9, .func (.func 16) #[] #[.pointer (some ⟨w.heap.size, 0, none⟩)], .iface 83 (.pointer (some ⟨gs2, 0, none⟩)), z12, z13, .pointer (some ⟨gst, 0, none⟩), .pointer (some ⟨gst + 1, 0, none⟩), .bool true, z17, z18, z19, z20, z21, z22, z23, z24, z25, z26, z27, z28, z29, z30, z31, z32, z33, z34, z35, z36, z37, z38, z39, z40, z41, z42, z43, z44, z45, z46, z47, z48, z49, z50, z51, z52, z53, z54, z55, z56, z57, z58, z59, z60, z61, z62, z63, z64, z65, z66, z67, z68, z69, z70, z71, z72, z73, z74, z75, z76, z77, z78, z79, z80, z81, z82, z83, z84, z85, z86, z87, z88, z89, z90, z91, z92, z93, z94, z95, z96, z97, z98, z99, z100, z101, z102, z103, z104, z105, z106, z107, z108, z109, z110, z111, z112, z113, z114, z115, z116, z117, z118, z119, z120, z121, z122, z123, z124, z125, z126, z127, z128, z129, z130, z131, z132, z133, z134, z135, z136, z137, z138, z139, z140, z141, z142, z143, z144, z145, z146, z147, z148, z149, z150, z151, z152, z153, z154, z155, z156, z157, z158, z159, z160, z161, z162, z163, z164, z165, z166, z167, z168, z169, z170, z171, z172, z173, z174, z175, z176, z177, z178, z179, z180, z181, z182, z183, z184, z185, z186, z187, z188, z189, z190, z191, z192, z193, z194, z195, z196, z197, z198, z199, z200, z201, z202, z203, z204, z205, z206, z207, z208, z209, z210, z211, z212, z213, z214, z215, z216, z217, z218, z219, z220, z221, z222, z223, z224, z225, z226, z227, z228, z229, z230, z231, z232, z233, z234, z235, z236, z237, z238, z239, z240, z241, z242, z243, z244, z245, z246, z247, z248, z249, z250], []⟩ wx := by
  conv => arg 2; whnf
  have hmf : ∀ (fn : Fn) (first cap : Array Value) (w : World), (Instr.makeFunc fn first cap).run Tryz.prog w = .ok (.func fn first cap) w := fun _ _ _ _ => rfl
  have hH4 := H4.out
  obtain ⟨t0, _⟩ := hH4.cell 4 rfl 0 (by simp)
  obtain ⟨t1, _⟩ := hH4.cell 4 rfl 1 (by simp)
  obtain ⟨t2, _⟩ := hH4.cell 4 rfl 2 (by simp)
  obtain ⟨t3, _⟩ := hH4.cell 4 rfl 3 (by simp)
  obtain ⟨t4, _⟩ := hH4.cell 4 rfl 4 (by simp)
  obtain ⟨k5, _⟩ := hH4.cell 5 rfl 0 (by simp)
  simp only at t0 t1 t2 t3 t4 k5
  clear hH4
  have hnm : n2 < maxLen := by have := HD.out.2.1; simp only [maxLen]; omega
  have HC := Aside0.mk (setSet_any wx gs2 gm2 n2 kv _ D id tx hid hnm H4.out)
  by_cases hlk : id = lKeys
  · have hs : stepF (kdOf kds) s0 (7, ky, at', id, tx) = (⟨s0.ks, s0.ns⟩, false, -1, -1) := by show (_, _) = _; rw [if_pos hlk, decide_eq_false (fun h => h hlk)]
    have HS7 := Aside0.mk hs
    have HCE : Aside0 (Calls Tryz.prog 116 #[.pointer (some ⟨gs2, 0, none⟩), .string id, .iface 9 (.string tx)] wx fun e w' => ∃ r, e = .returned r ∧ ErrE false r ∧ Hold w w.heap.size w' (.blk gs2 (.cells #[kv, .map (some gm2)] 95) :: .sl kyV kv (s0.ks.map (blkAt l)) :: .hm gm2 n2 D :: Mid (gst + 1) gst w.heap.size (7, ky, at', id, tx) true (-1) (-1) (.slice Am l.length cm) l T z12)) := ⟨by
      have h := HC.out
      rw [if_pos hlk, decide_eq_false (fun h => h hlk)] at h
      exact h⟩
    clear hs hlk HC
    go_wp2_with fail
    refine HCE.out.mono ?_
    rintro e w4 ⟨r, rfl, hr, h4⟩
    try dsimp only
    obtain ⟨ge, rfl⟩ := hr
    obtain ⟨e0, f0⟩ := h4.cell 3 rfl 0 (by simp)
    have H5 := Aside0.mk (h4.store 3 rfl 0 (.bool false))
    clear h4 H4 HCE
    go_wp2
    go_meet
    obtain ⟨d1, d2, d3, d4, d5⟩ := HD.out
    rw [HS7.out]
    exact ⟨⟨gs2, gm2, kv, n2, D, rfl, d1, by omega, by show s0.ns.length ≤ _; omega, by show s0.ks.length ≤ _; omega, d5, H5.out⟩⟩
  · have hs : stepF (kdOf kds) s0 (7, ky, at', id, tx) = (⟨s0.ks, putN id s0.ns⟩, true, -1, -1) := by show (_, _) = _; rw [if_neg hlk, decide_eq_true hlk]
    have HS7 := Aside0.mk hs
    have HCE : Aside0 (Calls Tryz.prog 116 #[.pointer (some ⟨gs2, 0, none⟩), .string id, .iface 9 (.string tx)] wx fun e w' => ∃ r, e = .returned r ∧ ErrE true r ∧ Hold w w.heap.size w' (.blk gs2 (.cells #[kv, .map (some gm2)] 95) :: .sl kyV kv (s0.ks.map (blkAt l)) :: .hm gm2 (n2 + 1) (D.put (kS id) (.held (txV tx))) :: Mid (gst + 1) gst w.heap.size (7, ky, at', id, tx) true (-1) (-1) (.slice Am l.length cm) l T z12)) := ⟨by
      have h := HC.out
      rw [if_neg hlk, decide_eq_true hlk] at h
      exact h⟩
    clear hs hlk HC
    go_wp2_with fail
    refine HCE.out.mono ?_
    rintro e w4 ⟨r, rfl, hr, h4⟩
    try dsimp only
    obtain rfl : r = .nilIface := hr
    obtain ⟨e0, f0⟩ := h4.cell 3 rfl 0 (by simp)
    have H5 := Aside0.mk (h4.store 3 rfl 0 (.bool true))
    clear h4 H4 HCE
    go_wp2
    go_meet
    obtain ⟨d1, d2, d3, d4, d5⟩ := HD.out
    rw [HS7.out]
    exact ⟨⟨gs2, gm2, kv, _, _, rfl, d1.put id _, by omega, Nat.le_trans (putN_len _ _) (by omega), by show s0.ks.length ≤ _; omega, d5, H5.out⟩⟩
set_option maxHeartbeats 16000000 in
theorem sw8 {z0 z1 z2 z3 z4 z6 z7 z8 z9 z12 z13 z17 z18 z19 z20 z21 z22 z23 z24 z25 z26 z27 z28 z29 z30 z31 z32 z33 z34 z35 z36 z37 z38 z39 z40 z41 z42 z43 z44 z45 z46 z47 z48 z49 z50 z51 z52 z53 z54 z55 z56 z57 z58 z59 z60 z61 z62 z63 z64 z65 z66 z67 z68 z69 z70 z71 z72 z73 z74 z75 z76 z77 z78 z79 z80 z81 z82 z83 z84 z85 z86 z87 z88 z89 z90 z91 z92 z93 z94 z95 z96 z97 z98 z99 z100 z101 z102 z103 z104 z105 z106 z107 z108 z109 z110 z111 z112 z113 z114 z115 z116 z117 z118 z119 z120 z121 z122 z123 z124 z125 z126 z127 z128 z129 z130 z131 z132 z133 z134 z135 z136 z137 z138 z139 z140 z141 z142 z143 z144 z145 z146 z147 z148 z149 z150 z151 z152 z153 z154 z155 z156 z157 z158 z159 z160 z161 z162 z163 z164 z165 z166 z167 z168 z169 z170 z171 z172 z173 z174 z175 z176 z177 z178 z179 z180 z181 z182 z183 z184 z185 z186 z187 z188 z189 z190 z191 z192 z193 z194 z195 z196 z197 z198 z199 z200 z201 z202 z203 z204 z205 z206 z207 z208 z209 z210 z211 z212 z213 z214 z215 z216 z217 z218 z219 z220 z221 z222 z223 z224 z225 z226 z227 z228 z229 z230 z231 z232 z233 z234 z235 z236 z237 z238 z239 z240 z241 z242 z243 z244 z245 z246 z247 z248 z249 z250 : Value} {w wx : World} {gst gs2 gm2 n2 ky m j : Nat} {at' : Int} {id tx : ByteArray} {D : DataW Value} {kv : Value} {l : List (Nat × Option ByteArray)} {kds : List KDr} {Am : Option Addr} {cm : Nat} {T : List Sn} {s0 : KSt}
    (hm : m ≤ 1000) (hj1 : j + 1 ≤ m) (hK2 : (ky : Int) < (l.length : Int)) (hid : id.size ≤ maxLen) (HLs : Aside0 (l.map Prod.snd = kds.map idOf))
    (HD : Aside0 (DMap D s0.ns ∧ n2 ≤ j ∧ s0.ns.length ≤ j ∧ s0.ks.length ≤ j ∧ ∀ k ∈ s0.ks, k < l.length))
    (H4 : Aside0 (Hold w w.heap.size wx (.blk gs2 (.cells #[kv, .map (some gm2)] 95) :: .sl kyV kv (s0.ks.map (blkAt l)) :: .hm gm2 n2 D :: Mid (gst + 1) gst w.heap.size (8, ky, at', id, tx) true (-1) (-1) (.slice Am l.length cm) l T z12)))
    {J K' : Act → World → Prop} {Q2 : Exit → Act → World → Prop}
    (hJ : ∀ a' w', (∃ u11 u17 u18 u19 u20 u21 u22 u64 u65 u66 u67 u68 u69 u70 u71 u72 u73 u74 u75 u76 u77 u78 u79 u80 u81 u82 u83 u84 u85 u86 u87 u88 u89 u90 u91 u92 u93 u94 u95 u96 u97 u98 u99 u100 u101 u102 u103 u104 u105 u106 u107 u108 u109 u110 u111 u112 u113 u114 u115 u116 u117 u118 u119 u120 u121 u122 u123 u124 u125 u126 u127 u128 u129 u130 u131 u132 u133 u134 u135 u136 u137 u138 u139 u140 u141 u142 u143 u144 u145 u146 u147 u148 u149 u150 u151 u152 u153 u154 u155 u156 u157 u158 u159 u160 u161 u162 u163 u164 u165 u166 u167 u168 u169 u170 u171 u172 u173 u174 u175 u176 u177 u178 u179 u180 u181 u182 u183 u184 u185 u186 u187 u188 u189 u190 u191 u192 u193 u194 u195 u196 u197 u198 u199 u200 u201 u202 u203 u204 u205 u206 u207 u208 u209 u210 u211 u212 u213 u214 u215 u216 u217 u218 u219 u220 u221 u222 u223 u224 u225 u226 u227 u228 u229 u230 u231 u232 u233 u234 u235 u236 u237 u238 u239 u240 u241 u242 u243 u244 u245 u246 u247 u248 u249 : Value, SwI w (stepF (kdOf kds) s0 (8, ky, at', id, tx)) j (gst + 1) gst w.heap.size (8, ky, at', id, tx) (.slice Am l.length cm) l T z12 u11 w' ∧ a' = ⟨#[z0, z1, z2, z3, z4, .pointer (some ⟨w.heap.size, 0, none⟩), z6, z7, z8, z9, .func (.func 16) #[] #[.pointer (some ⟨w.heap.size, 0, none⟩)], u11, z12, z13, .pointer (some ⟨gst, 0, none⟩), .pointer (some ⟨gst + 1, 0, none⟩), .bool true, u17, u18, u19, u20, u21, u22, z23, z24, z25, z26, z27, z28, z29, z30, z31, z32, z33, z34, z35, z36, z37, z38, z39, z40, z41, z42, z43, z44, z45, z46, z47, z48, z49, z50, z51, z52, z53, z54, z55, z56, z57, z58, z59, z60, z61, z62, z63, u64, u65, u66, u67, u68, u69, u70, u71, u72, u73, u74, u75, u76, u77, u78, u79, u80, u81, u82, u83, u84, u85, u86, u87, u88, u89, u90, u91, u92, u93, u94, u95, u96, u97, u98, u99, u100, u101, u102, u103, u104, u105, u106, u107, u108, u109, u110, u111, u112, u113, u114, u115, u116, u117, u118, u119, u120, u121, u122, u123, u124, u125, u126, u127, u128, u129, u130, u131, u132, u133, u134, u135, u136, u137, u138, u139, u140, u141, u142, u143, u144, u145, u146, u147, u148, u149, u150, u151, u152, u153, u154, u155, u156, u157, u158, u159, u160, u161, u162, u163, u164, u165, u166, u167, u168, u169, u170, u171, u172, u173, u174, u175, u176, u177, u178, u179, u180, u181, u182, u183, u184, u185, u186, u187, u188, u189, u190, u191, u192, u193, u194, u195, u196, u197, u198, u199, u200, u201, u202, u203, u204, u205, u206, u207, u208, u209, u210, u211, u212, u213, u214, u215, u216, u217, u218, u219, u220, u221, u222, u223, u224, u225, u226, u227, u228, u229, u230, u231, u232, u233, u234, u235, u236, u237, u238, u239, u240, u241, u242, u243, u244, u245, u246, u247, u248, u249, z250], []⟩) → J a' w')
    (hK : ∀ a' w', Met J a' w' → K' a' w') :
    Code.wp Tryz.prog swC (Exit.then K' Q2) ⟨#[z0, z1, z2, z3, z4, .pointer (some ⟨w.heap.size, 0, none⟩), z6, z7, z8, z9, .func (.func 16) #[] #[.pointer (some ⟨w.heap.size, 0, none⟩)], .iface 83 (.pointer (some ⟨gs2, 0, none⟩)), z12, z13, .pointer (some ⟨gst, 0, none⟩), .pointer (some ⟨gst + 1, 0, none⟩), .bool true, z17, z18, z19, z20, z21, z22, z23, z24, z25, z26, z27, z28, z29, z30, z31, z32, z33, z34, z35, z36, z37, z38, z39, z40, z41, z42, z43, z44, z45, z46, z47, z48, z49, z50, z51, z52, z53, z54, z55, z56, z57, z58, z59, z60, z61, z62, z63, z64, z65, z66, z67, z68, z69, z70, z71, z72, z73, z74, z75, z76, z77, z78, z79, z80, z81, z82, z83, z84, z85, z86, z87, z88, z89, z90, z91, z92, z93, z94, z95, z96, z97, z98, z99, z100, z101, z102, z103, z104, z105, z106, z107, z108, z109, z110, z111, z112, z113, z114, z115, z116, z117, z118, z119, z120, z121, z122, z123, z124, z125, z126, z127, z128, z129, z130, z131, z132, z133, z134, z135, z136, z137, z138, z139, z140, z141, z142, z143, z144, z145, z146, z147, z148, z149, z150, z151, z152, z153, z154, z155, z156, z157, z158, z159, z160, z161, z162, z163, z164, z165, z166, z167, z168, z169, z170, z171, z172, z173, z174, z175, z176, z177, z178, z179, z180, z181, z182, z183, z184, z185, z186, z187, z188, z189, z190, z191, z192, z193, z194, z195, z196, z197, z198, z199, z200, z201, z202, z203, z204, z205, z206, z207, z208, z209, z210, z211, z212, z213, z214, z215, z216, z217, z218, z219, z220, z221, z222, z223, z224, z225, z226, z227, z228, z229, z230, z231, z232, z233, z234, z235, z236, z237, z238, z239, z240, z241, z242, z243, z244, z245, z246, z247, z248, z249, z250], []⟩ wx := by
  conv => arg 2; whnf
  have hmf : ∀ (fn : Fn) (first cap : Array Value) (w : World), (Instr.makeFunc fn first cap).run Tryz.prog w = .ok (.func fn first cap) w := fun _ _ _ _ => rfl
  have hH4 := H4.out
  obtain ⟨t0, _⟩ := hH4.cell 4 rfl 0 (by simp)
  obtain ⟨t1, _⟩ := hH4.cell 4 rfl 1 (by simp)
  obtain ⟨t2, _⟩ := hH4.cell 4 rfl 2 (by simp)
  obtain ⟨t3, _⟩ := hH4.cell 4 rfl 3 (by simp)
  obtain ⟨t4, _⟩ := hH4.cell 4 rfl 4 (by simp)
  obtain ⟨k5, _⟩ := hH4.cell 5 rfl 0 (by simp)
  simp only at t0 t1 t2 t3 t4 k5
  clear hH4
  go_wp2_with fail
  refine (setRemove_any wx gs2 gm2 n2 kv _ D id hid H4.out).mono ?_
  rintro e w4 ⟨rfl, h4⟩
  try dsimp only
  obtain ⟨e0, f0⟩ := h4.cell 3 rfl 0 (by simp)
  have H5 := Aside0.mk (h4.store 3 rfl 0 (.bool true))
  clear h4 H4
  go_wp2
  go_meet
  obtain ⟨d1, d2, d3, d4, d5⟩ := HD.out
  exact ⟨⟨gs2, gm2, kv, n2, _, rfl, d1.del id, by omega, Nat.le_trans (List.length_filter_le _ _) (by omega), by show s0.ks.length ≤ _; omega, d5, H5.out⟩⟩
end Go.Proofs.YtpcbmjphffpplaaGreatDoor
