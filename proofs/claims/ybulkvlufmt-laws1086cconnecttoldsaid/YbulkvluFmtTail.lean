import Derived.Test.YbulkvluFmtLaw1
namespace Go.Proofs.YbulkvluFmt.Con
open Go.ChangeShapes Go.WideShapes Go.ChangeAt Go.RowKit Go.Maps Go.Extern.Stop Go.Stop Go.Extern

/-- The code behind k statements. -/
def dropSeq : Nat → Code → Code
  | 0, c => c
  | n + 1, .seq _ b => dropSeq n b
  | _ + 1, c => c
/-- The law's code behind its two loops. -/
noncomputable def rest4 : Code := dropSeq 7 (Ybaf.f4.body.getD .skip)
/-- What stands when the two loops are done. -/
structure Fin (F : Interp) (R : Nat) (w0 w : World) (S bm A J : Nat) (pb : Nat → Option Nat) (mb : Nat → Nat) (iv ov nv : Nat → Value) (d c : Nat → Nat) (mf : Nat → Nat → Option Value) (aj : Nat → Nat → Bool) (a0 a2 a3 : Addr) (s0 s2 s3 : ByteArray) : Prop where
  inv : Inv w0.heap.size R w0 w S bm A false pb mb iv ov nv d c mf
  jb : BlkAt w0.heap.size w J 116 (jf aj)
  mj : ∀ k l, k < 5 → l < 5 → pb k ≠ none → (mf k l).isSome = aj k l
  hR : R ≤ 2000
  G : Glob F w0 a0 a2 a3 s0 s2 s3
  hb4 : 4 ≤ w0.heap.size
section
variable {F : Interp} {R : Nat} {w0 w : World} {S bm A J : Nat} {pb : Nat → Option Nat} {mb : Nat → Nat} {iv ov nv : Nat → Value} {d c : Nat → Nat} {mf : Nat → Nat → Option Value} {aj : Nat → Nat → Bool} {a0 a2 a3 : Addr} {s0 s2 s3 : ByteArray}
/-- Behind the flag's store. -/
theorem Fin.started (h : Fin F R w0 w S bm A J pb mb iv ov nv d c mf aj a0 a2 a3 s0 s2 s3) (st : Bool) : Inv w0.heap.size R w0 (w.setCell ⟨S, 4, none⟩ (.bool st)) S bm A st pb mb iv ov nv d c mf ∧ BlkAt w0.heap.size (w.setCell ⟨S, 4, none⟩ (.bool st)) J 116 (jf aj) ∧ Glob F (w.setCell ⟨S, 4, none⟩ (.bool st)) a0 a2 a3 s0 s2 s3 := by
  obtain ⟨pv, np, pxs, hnp, hsys, hpv⟩ := h.inv.sys
  have f : Fr w0.heap.size (fun t k => t = 69 ∧ k = S) (fun _ => False) w (w.setCell ⟨S, 4, none⟩ (.bool st)) := (Fr.refl _ _ _ _).set hsys ⟨rfl, rfl⟩ _
  have i := h.inv.start st
  exact ⟨i, f.at h.jb (by simp), h.G.below i.fr⟩
end
/-- A cell of an owned row. -/
theorem own_at {base : Nat} {w : World} {e : TypeId} {sz : Nat} {v : Value} {n : Nat} {xs : List Value} (h : w.ownsRow base e sz v n xs) {p : Nat} {u : Value} (hu : xs[p]? = some u) : ∃ g cc, v = .slice (some ⟨g, 0, none⟩) n cc ∧ ∀ q t, xs[q]? = some t → w.cell? ⟨g, q, none⟩ = some t := by
  obtain ⟨hl, ⟨rfl, rfl⟩ | ⟨g, cap, cur, rfl, g2, g3, g4, g5, g6, g7⟩⟩ := h
  · obtain rfl : xs = [] := List.eq_nil_of_length_eq_zero (by omega)
    cases hu
  · refine ⟨g, cap, rfl, fun q t hq => ?_⟩
    rw [cell_of_row _ _ _ _ _ _ g3, ← Array.getElem?_toList]
    rw [← g7, List.getElem?_take] at hq
    split at hq
    · exact hq
    · cases hq
theorem ptr_same (a : Addr) (w : World) : Sem.run Ybaf.prog (binOp .eql 76 (.pointer (some a)) (.pointer (some a))) w = .ok (.bool true) w := by
  obtain ⟨j, hj, _⟩ := info97
  have h : ∀ d : Nat, (Op.equalIn (d + 1) 76 (.pointer (some a)) (.pointer (some a))).run Ybaf.prog w = .ok true w := fun d => by
    simp [Op.equalIn, run_underlying Ybaf.underlying76, sizeOf, typeInfo, hj, run_sameAddr_same]
  simp only [binOp]
  simp [Op.equal, Op.maxDepth, h 9999]
set_option maxRecDepth 20000 in
set_option maxHeartbeats 4000000 in
theorem restA1 {st : Bool} {F : Interp} {R fs ts x S bm A J : Nat} {w0 wr : World} {pb : Nat → Option Nat} {mb : Nat → Nat} {iv ov nv : Nat → Value} {d c : Nat → Nat} {mf : Nat → Nat → Option Value} {aj : Nat → Nat → Bool} {a0 a2 a3 : Addr} {s0 s2 s3 : ByteArray} (h : Fin F R w0 wr S bm A J pb mb iv ov nv d c mf aj a0 a2 a3 s0 s2 s3) (hfs : fs ≤ 255) (hts : ts ≤ 255) (hfx : (fs : Int) % 5 = x) (hx5 : x < 5) (hty : (ts : Int) % 5 = x) (hbx : pb x = none) (u0 u1 u5 u6 u7 u8 u9 u10 u13 u14 u16 u17 u18 u19 u20 u21 u22 u23 u24 u25 u26 u27 u28 u29 u30 u31 u32 u33 u34 u35 u36 u37 u38 u39 u40 u41 u42 u43 u44 u45 u46 u47 u48 u49 u50 u51 u52 u53 u54 u55 u56 u57 u58 u59 u60 u61 u62 u63 u64 u65 u66 u67 u68 u69 u70 u71 u72 u73 u74 u75 u76 u77 u78 u79 u80 u81 u82 u83 u84 u85 u86 u87 u88 u89 u90 u91 u92 u93 u94 u95 u96 u97 u98 u99 u100 u101 u102 u103 u104 u105 u106 u107 u108 u109 u110 u111 u112 u113 u114 u115 u116 u117 u118 u119 u120 u121 u122 u123 u124 u125 u126 u127 u128 u129 u130 u131 u132 u133 u134 u135 u136 u137 u138 u139 u140 u141 u142 u143 u144 u145 u146 u147 u148 u149 u150 u151 u152 u153 u154 u155 u156 u157 u158 u159 u160 u161 u162 u163 u164 u165 u166 u167 u168 u169 u170 u171 u172 u173 u174 u175 u176 u177 u178 u179 u180 u181 u182 u183 u184 u185 u186 u187 u188 u189 u190 u191 u192 u193 u194 u195 u196 u197 u198 u199 u200 u201 u202 u203 u204 u205 u206 u207 u208 u209 u210 u211 u212 u213 u214 u215 u216 u217 u218 u219 u220 u221 u222 u223 u224 u225 u226 u227 u228 u229 u230 u231 u232 u233 u234 u235 u236 u237 u238 u239 u240 u241 u242 u243 u244 u245 u246 u247 u248 u249 u250 u251 u252 u253 u254 u255 u256 u257 u258 u259 u260 u261 u262 u263 u264 u265 u266 u267 u268 u269 u270 u271 u272 u273 u274 u275 u276 u277 u278 u279 u280 u281 u282 u283 u284 u285 u286 u287 u288 u289 u290 u291 u292 u293 u294 u295 u296 u297 u298 u299 u300 u301 u302 u303 u304 u305 u306 u307 u308 u309 u310 u311 u312 u313 u314 u315 u316 u317 u318 u319 u320 u321 u322 u323 u324 u325 u326 u327 u328 u329 u330 u331 u332 u333 u334 : Value) :
    Code.wp Ybaf.prog rest4 (bodyPost Ybaf.prog Ybaf.f4 fun e w' => e = .returned (.bool true) ∧ Below w0.heap.size w0 w') ⟨#[u0, u1, (.int .u8 fs), (.int .u8 ts), (.bool st), u5, u6, u7, u8, u9, u10, (.pointer (some ⟨S, 0, none⟩)), (.pointer (some ⟨A, 0, none⟩)), u13, u14, (.pointer (some ⟨J, 0, none⟩)), u16, u17, u18, u19, u20, u21, u22, u23, u24, u25, u26, u27, u28, u29, u30, u31, u32, u33, u34, u35, u36, u37, u38, u39, u40, u41, u42, u43, u44, u45, u46, u47, u48, u49, u50, u51, u52, u53, u54, u55, u56, u57, u58, u59, u60, u61, u62, u63, u64, u65, u66, u67, u68, u69, u70, u71, u72, u73, u74, u75, u76, u77, u78, u79, u80, u81, u82, u83, u84, u85, u86, u87, u88, u89, u90, u91, u92, u93, u94, u95, u96, u97, u98, u99, u100, u101, u102, u103, u104, u105, u106, u107, u108, u109, u110, u111, u112, u113, u114, u115, u116, u117, u118, u119, u120, u121, u122, u123, u124, u125, u126, u127, u128, u129, u130, u131, u132, u133, u134, u135, u136, u137, u138, u139, u140, u141, u142, u143, u144, u145, u146, u147, u148, u149, u150, u151, u152, u153, u154, u155, u156, u157, u158, u159, u160, u161, u162, u163, u164, u165, u166, u167, u168, u169, u170, u171, u172, u173, u174, u175, u176, u177, u178, u179, u180, u181, u182, u183, u184, u185, u186, u187, u188, u189, u190, u191, u192, u193, u194, u195, u196, u197, u198, u199, u200, u201, u202, u203, u204, u205, u206, u207, u208, u209, u210, u211, u212, u213, u214, u215, u216, u217, u218, u219, u220, u221, u222, u223, u224, u225, u226, u227, u228, u229, u230, u231, u232, u233, u234, u235, u236, u237, u238, u239, u240, u241, u242, u243, u244, u245, u246, u247, u248, u249, u250, u251, u252, u253, u254, u255, u256, u257, u258, u259, u260, u261, u262, u263, u264, u265, u266, u267, u268, u269, u270, u271, u272, u273, u274, u275, u276, u277, u278, u279, u280, u281, u282, u283, u284, u285, u286, u287, u288, u289, u290, u291, u292, u293, u294, u295, u296, u297, u298, u299, u300, u301, u302, u303, u304, u305, u306, u307, u308, u309, u310, u311, u312, u313, u314, u315, u316, u317, u318, u319, u320, u321, u322, u323, u324, u325, u326, u327, u328, u329, u330, u331, u332, u333, u334], []⟩ wr := by
  obtain ⟨pv, np, pxs, hnp, hsys, hpv⟩ := h.inv.sys
  have c4 := hsys.cell 4 (.bool false) (by simp [sf])
  have cf4 := hsys.free
  have hxi : (x : Int) < 5 := by omega
  obtain ⟨i4, j4, g4⟩ := h.started st
  have cx := i4.cellA hx5
  rw [pp_none hbx] at cx
  generalize hw4 : wr.setCell ⟨S, 4, none⟩ (.bool st) = w4 at i4 j4 g4 cx
  have H4 : Hid (Inv w0.heap.size R w0 w4 S bm A st pb mb iv ov nv d c mf ∧ BlkAt w0.heap.size w4 J 116 (jf aj) ∧ Glob F w4 a0 a2 a3 s0 s2 s3) := ⟨i4, j4, g4⟩
  have HH : Hid (Fin F R w0 wr S bm A J pb mb iv ov nv d c mf aj a0 a2 a3 s0 s2 s3) := h
  have HB : Hid (a0.block < w0.heap.size ∧ a2.block < w0.heap.size ∧ a3.block < w0.heap.size) := ⟨block_lt h.G.t0, block_lt h.G.t2, block_lt h.G.t3⟩
  clear hsys hpv hnp i4 j4 g4 h
  conv => arg 2; whnf
  go_upto_region 26 with fail
  try rw [hfx]
  try rw [hty]
  try rw [hw4]
  clear hfx hty hw4 c4 cf4 hfs hts
  go_wp2_with fail
  refine (name_any x hx5 _).mono ?_
  rintro e w' ⟨rfl, hh⟩
  rw [hh]
  clear hh
  go_wp2_with fail
  refine (name_any x hx5 _).mono ?_
  rintro e w' ⟨rfl, hh⟩
  rw [hh]
  clear hh
  go_wp2_with fail
  refine (crA1 H4.out.1 H4.out.2.2 HH.out.hb4 HB.out.1 HB.out.2.1 HB.out.2.2 hx5 hbx).mono ?_
  rintro e w5 ⟨⟨eb, rfl, he⟩, f5⟩
  have G5 := H4.out.2.2.fr f5 HH.out.hb4 HB.out.1 HB.out.2.1 HB.out.2.2
  have gg := G5.g2
  have HE : Hid (w5.cell? ⟨eb, 1, none⟩ = some (.iface 123 (.pointer (some a2)))) := he
  have HW : Hid (Below w0.heap.size w0 w5) := H4.out.1.fr.trans f5.below
  clear G5 he f5
  go_wp2_with fail
  refine (is_wrap eb a2 w5 HE.out).mono ?_
  rintro e w' ⟨rfl, hh⟩
  rw [hh]
  clear hh
  go_wp2_with fail
  go_ret
  exact ⟨rfl, HW.out⟩
set_option maxRecDepth 20000 in
set_option maxHeartbeats 4000000 in
theorem restA2 {st : Bool} {F : Interp} {R fs ts x S bm A J : Nat} {w0 wr : World} {pb : Nat → Option Nat} {mb : Nat → Nat} {iv ov nv : Nat → Value} {d c : Nat → Nat} {mf : Nat → Nat → Option Value} {aj : Nat → Nat → Bool} {a0 a2 a3 : Addr} {s0 s2 s3 : ByteArray} (h : Fin F R w0 wr S bm A J pb mb iv ov nv d c mf aj a0 a2 a3 s0 s2 s3) (hfs : fs ≤ 255) (hts : ts ≤ 255) (hfx : (fs : Int) % 5 = x) (hx5 : x < 5) (hty : (ts : Int) % 5 = x) {xb : Nat} (hbx : pb x = some xb) (u0 u1 u5 u6 u7 u8 u9 u10 u13 u14 u16 u17 u18 u19 u20 u21 u22 u23 u24 u25 u26 u27 u28 u29 u30 u31 u32 u33 u34 u35 u36 u37 u38 u39 u40 u41 u42 u43 u44 u45 u46 u47 u48 u49 u50 u51 u52 u53 u54 u55 u56 u57 u58 u59 u60 u61 u62 u63 u64 u65 u66 u67 u68 u69 u70 u71 u72 u73 u74 u75 u76 u77 u78 u79 u80 u81 u82 u83 u84 u85 u86 u87 u88 u89 u90 u91 u92 u93 u94 u95 u96 u97 u98 u99 u100 u101 u102 u103 u104 u105 u106 u107 u108 u109 u110 u111 u112 u113 u114 u115 u116 u117 u118 u119 u120 u121 u122 u123 u124 u125 u126 u127 u128 u129 u130 u131 u132 u133 u134 u135 u136 u137 u138 u139 u140 u141 u142 u143 u144 u145 u146 u147 u148 u149 u150 u151 u152 u153 u154 u155 u156 u157 u158 u159 u160 u161 u162 u163 u164 u165 u166 u167 u168 u169 u170 u171 u172 u173 u174 u175 u176 u177 u178 u179 u180 u181 u182 u183 u184 u185 u186 u187 u188 u189 u190 u191 u192 u193 u194 u195 u196 u197 u198 u199 u200 u201 u202 u203 u204 u205 u206 u207 u208 u209 u210 u211 u212 u213 u214 u215 u216 u217 u218 u219 u220 u221 u222 u223 u224 u225 u226 u227 u228 u229 u230 u231 u232 u233 u234 u235 u236 u237 u238 u239 u240 u241 u242 u243 u244 u245 u246 u247 u248 u249 u250 u251 u252 u253 u254 u255 u256 u257 u258 u259 u260 u261 u262 u263 u264 u265 u266 u267 u268 u269 u270 u271 u272 u273 u274 u275 u276 u277 u278 u279 u280 u281 u282 u283 u284 u285 u286 u287 u288 u289 u290 u291 u292 u293 u294 u295 u296 u297 u298 u299 u300 u301 u302 u303 u304 u305 u306 u307 u308 u309 u310 u311 u312 u313 u314 u315 u316 u317 u318 u319 u320 u321 u322 u323 u324 u325 u326 u327 u328 u329 u330 u331 u332 u333 u334 : Value) :
    Code.wp Ybaf.prog rest4 (bodyPost Ybaf.prog Ybaf.f4 fun e w' => e = .returned (.bool true) ∧ Below w0.heap.size w0 w') ⟨#[u0, u1, (.int .u8 fs), (.int .u8 ts), (.bool st), u5, u6, u7, u8, u9, u10, (.pointer (some ⟨S, 0, none⟩)), (.pointer (some ⟨A, 0, none⟩)), u13, u14, (.pointer (some ⟨J, 0, none⟩)), u16, u17, u18, u19, u20, u21, u22, u23, u24, u25, u26, u27, u28, u29, u30, u31, u32, u33, u34, u35, u36, u37, u38, u39, u40, u41, u42, u43, u44, u45, u46, u47, u48, u49, u50, u51, u52, u53, u54, u55, u56, u57, u58, u59, u60, u61, u62, u63, u64, u65, u66, u67, u68, u69, u70, u71, u72, u73, u74, u75, u76, u77, u78, u79, u80, u81, u82, u83, u84, u85, u86, u87, u88, u89, u90, u91, u92, u93, u94, u95, u96, u97, u98, u99, u100, u101, u102, u103, u104, u105, u106, u107, u108, u109, u110, u111, u112, u113, u114, u115, u116, u117, u118, u119, u120, u121, u122, u123, u124, u125, u126, u127, u128, u129, u130, u131, u132, u133, u134, u135, u136, u137, u138, u139, u140, u141, u142, u143, u144, u145, u146, u147, u148, u149, u150, u151, u152, u153, u154, u155, u156, u157, u158, u159, u160, u161, u162, u163, u164, u165, u166, u167, u168, u169, u170, u171, u172, u173, u174, u175, u176, u177, u178, u179, u180, u181, u182, u183, u184, u185, u186, u187, u188, u189, u190, u191, u192, u193, u194, u195, u196, u197, u198, u199, u200, u201, u202, u203, u204, u205, u206, u207, u208, u209, u210, u211, u212, u213, u214, u215, u216, u217, u218, u219, u220, u221, u222, u223, u224, u225, u226, u227, u228, u229, u230, u231, u232, u233, u234, u235, u236, u237, u238, u239, u240, u241, u242, u243, u244, u245, u246, u247, u248, u249, u250, u251, u252, u253, u254, u255, u256, u257, u258, u259, u260, u261, u262, u263, u264, u265, u266, u267, u268, u269, u270, u271, u272, u273, u274, u275, u276, u277, u278, u279, u280, u281, u282, u283, u284, u285, u286, u287, u288, u289, u290, u291, u292, u293, u294, u295, u296, u297, u298, u299, u300, u301, u302, u303, u304, u305, u306, u307, u308, u309, u310, u311, u312, u313, u314, u315, u316, u317, u318, u319, u320, u321, u322, u323, u324, u325, u326, u327, u328, u329, u330, u331, u332, u333, u334], []⟩ wr := by
  obtain ⟨pv, np, pxs, hnp, hsys, hpv⟩ := h.inv.sys
  have c4 := hsys.cell 4 (.bool false) (by simp [sf])
  have cf4 := hsys.free
  have hxi : (x : Int) < 5 := by omega
  obtain ⟨i4, j4, g4⟩ := h.started st
  have cx := i4.cellA hx5
  rw [pp_some hbx] at cx
  obtain ⟨xia, xic, xoa, xoc, xna, xnc, xe1, xe2, xe3, xp, L, hL⟩ := i4.look hx5 hbx
  have x8 := xp.cell 8 _ (by simp [pf]; rfl)
  have x142 := xp.cell 142 _ (by simp [pf]; rfl)
  have hL4 := hL _ (fun _ _ h => h)
  have x6 := xp.cell 6 _ (by simp [pf]; rfl)
  generalize hw4 : wr.setCell ⟨S, 4, none⟩ (.bool st) = w4 at i4 j4 g4 cx xp x8 x142 hL hL4 x6
  have H4 : Hid (Inv w0.heap.size R w0 w4 S bm A st pb mb iv ov nv d c mf ∧ BlkAt w0.heap.size w4 J 116 (jf aj) ∧ Glob F w4 a0 a2 a3 s0 s2 s3) := ⟨i4, j4, g4⟩
  have HX : Hid (BlkAt w0.heap.size w4 xb 97 (pf x (.slice xia (c x) xic) (.slice xoa (d x) xoc) (.slice xna (d x) xnc) (mb x)) ∧ ∀ w' : World, (∀ es cc, w4.heap[mb x]? = some (.map es cc) → w'.heap[mb x]? = some (.map es cc)) → ∀ ty, (Builtin.len_ #[88] ty #[.map (some (mb x))]).run Ybaf.prog w' = .ok (.int .i64 L) w') := ⟨xp, hL⟩
  have HH : Hid (Fin F R w0 wr S bm A J pb mb iv ov nv d c mf aj a0 a2 a3 s0 s2 s3) := h
  have HB : Hid (a0.block < w0.heap.size ∧ a2.block < w0.heap.size ∧ a3.block < w0.heap.size) := ⟨block_lt h.G.t0, block_lt h.G.t2, block_lt h.G.t3⟩
  clear hsys hpv hnp i4 j4 g4 h xp hL
  conv => arg 2; whnf
  go_upto_region 26 with fail
  try rw [hfx]
  try rw [hty]
  try rw [hw4]
  clear hfx hty hw4 c4 cf4 hfs hts
  go_wp2_with fail
  refine (name_any x hx5 _).mono ?_
  rintro e w' ⟨rfl, hh⟩
  rw [hh]
  clear hh
  go_wp2_with fail
  refine (name_any x hx5 _).mono ?_
  rintro e w' ⟨rfl, hh⟩
  rw [hh]
  clear hh
  go_wp2_with fail
  refine (crA2 H4.out.1 hx5 hbx).mono ?_
  rintro e w5 ⟨rfl, f5⟩
  have p5 := f5.at HX.out.1 (by simp)
  have x85 := p5.cell 8 _ (by simp [pf]; rfl)
  have x65 := p5.cell 6 _ (by simp [pf]; rfl)
  have x1425 := p5.cell 142 _ (by simp [pf]; rfl)
  have hL5 := HX.out.2 w5 (fun es cc q => f5.map _ es cc q (by simp))
  have HW : Hid (Below w0.heap.size w0 w5) := H4.out.1.fr.trans f5.below
  clear p5 f5 x8 x142 hL4 x6 cx
  go_wp2_with fail
  go_ret
  exact ⟨rfl, HW.out⟩
set_option maxRecDepth 20000 in
set_option maxHeartbeats 4000000 in
theorem restB1nn {F : Interp} {R fs ts x S bm A J : Nat} {w0 wr : World} {pb : Nat → Option Nat} {mb : Nat → Nat} {iv ov nv : Nat → Value} {d c : Nat → Nat} {mf : Nat → Nat → Option Value} {aj : Nat → Nat → Bool} {a0 a2 a3 : Addr} {s0 s2 s3 : ByteArray} (h : Fin F R w0 wr S bm A J pb mb iv ov nv d c mf aj a0 a2 a3 s0 s2 s3) (hfs : fs ≤ 255) (hts : ts ≤ 255) (hfx : (fs : Int) % 5 = x) (hx5 : x < 5) {y : Nat} (hty : (ts : Int) % 5 = y) (hy5 : y < 5) (hxy : x ≠ y) (hbx : pb x = none) (hby : pb y = none) (u0 u1 u5 u6 u7 u8 u9 u10 u13 u14 u16 u17 u18 u19 u20 u21 u22 u23 u24 u25 u26 u27 u28 u29 u30 u31 u32 u33 u34 u35 u36 u37 u38 u39 u40 u41 u42 u43 u44 u45 u46 u47 u48 u49 u50 u51 u52 u53 u54 u55 u56 u57 u58 u59 u60 u61 u62 u63 u64 u65 u66 u67 u68 u69 u70 u71 u72 u73 u74 u75 u76 u77 u78 u79 u80 u81 u82 u83 u84 u85 u86 u87 u88 u89 u90 u91 u92 u93 u94 u95 u96 u97 u98 u99 u100 u101 u102 u103 u104 u105 u106 u107 u108 u109 u110 u111 u112 u113 u114 u115 u116 u117 u118 u119 u120 u121 u122 u123 u124 u125 u126 u127 u128 u129 u130 u131 u132 u133 u134 u135 u136 u137 u138 u139 u140 u141 u142 u143 u144 u145 u146 u147 u148 u149 u150 u151 u152 u153 u154 u155 u156 u157 u158 u159 u160 u161 u162 u163 u164 u165 u166 u167 u168 u169 u170 u171 u172 u173 u174 u175 u176 u177 u178 u179 u180 u181 u182 u183 u184 u185 u186 u187 u188 u189 u190 u191 u192 u193 u194 u195 u196 u197 u198 u199 u200 u201 u202 u203 u204 u205 u206 u207 u208 u209 u210 u211 u212 u213 u214 u215 u216 u217 u218 u219 u220 u221 u222 u223 u224 u225 u226 u227 u228 u229 u230 u231 u232 u233 u234 u235 u236 u237 u238 u239 u240 u241 u242 u243 u244 u245 u246 u247 u248 u249 u250 u251 u252 u253 u254 u255 u256 u257 u258 u259 u260 u261 u262 u263 u264 u265 u266 u267 u268 u269 u270 u271 u272 u273 u274 u275 u276 u277 u278 u279 u280 u281 u282 u283 u284 u285 u286 u287 u288 u289 u290 u291 u292 u293 u294 u295 u296 u297 u298 u299 u300 u301 u302 u303 u304 u305 u306 u307 u308 u309 u310 u311 u312 u313 u314 u315 u316 u317 u318 u319 u320 u321 u322 u323 u324 u325 u326 u327 u328 u329 u330 u331 u332 u333 u334 : Value) :
    Code.wp Ybaf.prog rest4 (bodyPost Ybaf.prog Ybaf.f4 fun e w' => e = .returned (.bool true) ∧ Below w0.heap.size w0 w') ⟨#[u0, u1, (.int .u8 fs), (.int .u8 ts), (.bool true), u5, u6, u7, u8, u9, u10, (.pointer (some ⟨S, 0, none⟩)), (.pointer (some ⟨A, 0, none⟩)), u13, u14, (.pointer (some ⟨J, 0, none⟩)), u16, u17, u18, u19, u20, u21, u22, u23, u24, u25, u26, u27, u28, u29, u30, u31, u32, u33, u34, u35, u36, u37, u38, u39, u40, u41, u42, u43, u44, u45, u46, u47, u48, u49, u50, u51, u52, u53, u54, u55, u56, u57, u58, u59, u60, u61, u62, u63, u64, u65, u66, u67, u68, u69, u70, u71, u72, u73, u74, u75, u76, u77, u78, u79, u80, u81, u82, u83, u84, u85, u86, u87, u88, u89, u90, u91, u92, u93, u94, u95, u96, u97, u98, u99, u100, u101, u102, u103, u104, u105, u106, u107, u108, u109, u110, u111, u112, u113, u114, u115, u116, u117, u118, u119, u120, u121, u122, u123, u124, u125, u126, u127, u128, u129, u130, u131, u132, u133, u134, u135, u136, u137, u138, u139, u140, u141, u142, u143, u144, u145, u146, u147, u148, u149, u150, u151, u152, u153, u154, u155, u156, u157, u158, u159, u160, u161, u162, u163, u164, u165, u166, u167, u168, u169, u170, u171, u172, u173, u174, u175, u176, u177, u178, u179, u180, u181, u182, u183, u184, u185, u186, u187, u188, u189, u190, u191, u192, u193, u194, u195, u196, u197, u198, u199, u200, u201, u202, u203, u204, u205, u206, u207, u208, u209, u210, u211, u212, u213, u214, u215, u216, u217, u218, u219, u220, u221, u222, u223, u224, u225, u226, u227, u228, u229, u230, u231, u232, u233, u234, u235, u236, u237, u238, u239, u240, u241, u242, u243, u244, u245, u246, u247, u248, u249, u250, u251, u252, u253, u254, u255, u256, u257, u258, u259, u260, u261, u262, u263, u264, u265, u266, u267, u268, u269, u270, u271, u272, u273, u274, u275, u276, u277, u278, u279, u280, u281, u282, u283, u284, u285, u286, u287, u288, u289, u290, u291, u292, u293, u294, u295, u296, u297, u298, u299, u300, u301, u302, u303, u304, u305, u306, u307, u308, u309, u310, u311, u312, u313, u314, u315, u316, u317, u318, u319, u320, u321, u322, u323, u324, u325, u326, u327, u328, u329, u330, u331, u332, u333, u334], []⟩ wr := by
  obtain ⟨pv, np, pxs, hnp, hsys, hpv⟩ := h.inv.sys
  have c4 := hsys.cell 4 (.bool false) (by simp [sf])
  have cf4 := hsys.free
  have hxi : (x : Int) < 5 := by omega
  have hyi : (y : Int) < 5 := by omega
  obtain ⟨i4, j4, g4⟩ := h.started true
  have cx := i4.cellA hx5
  rw [pp_none hbx] at cx
  have cy := i4.cellA hy5
  rw [pp_none hby] at cy
  generalize hw4 : wr.setCell ⟨S, 4, none⟩ (.bool true) = w4 at i4 j4 g4 cx cy
  have H4 : Hid (Inv w0.heap.size R w0 w4 S bm A true pb mb iv ov nv d c mf ∧ BlkAt w0.heap.size w4 J 116 (jf aj) ∧ Glob F w4 a0 a2 a3 s0 s2 s3) := ⟨i4, j4, g4⟩
  have HH : Hid (Fin F R w0 wr S bm A J pb mb iv ov nv d c mf aj a0 a2 a3 s0 s2 s3) := h
  have HB : Hid (a0.block < w0.heap.size ∧ a2.block < w0.heap.size ∧ a3.block < w0.heap.size) := ⟨block_lt h.G.t0, block_lt h.G.t2, block_lt h.G.t3⟩
  clear hsys hpv hnp i4 j4 g4 h
  conv => arg 2; whnf
  go_upto_region 26 with fail
  try rw [hfx]
  try rw [hty]
  try rw [hw4]
  clear hfx hty hw4 c4 cf4 hfs hts
  go_wp2_with fail
  refine (name_any x hx5 _).mono ?_
  rintro e w' ⟨rfl, hh⟩
  rw [hh]
  clear hh
  go_wp2_with fail
  refine (name_any y hy5 _).mono ?_
  rintro e w' ⟨rfl, hh⟩
  rw [hh]
  clear hh
  go_wp2_with fail
  have hxy' : ((x : Int) == y) = false := by simp; omega
  refine (crB1 H4.out.1 H4.out.2.2 HH.out.hb4 HB.out.1 HB.out.2.1 HB.out.2.2 hx5 hy5 hxy).mono ?_
  rintro e w5 ⟨⟨eb, rfl, he⟩, f5⟩
  have G5 := H4.out.2.2.fr f5 HH.out.hb4 HB.out.1 HB.out.2.1 HB.out.2.2
  have gg := G5.g0
  have HE : Hid (w5.cell? ⟨eb, 1, none⟩ = some (.iface 123 (.pointer (some a0)))) := he
  have HW : Hid (Below w0.heap.size w0 w5) := H4.out.1.fr.trans f5.below
  clear G5 he f5
  go_wp2_with fail
  refine (is_wrap eb a0 w5 HE.out).mono ?_
  rintro e w' ⟨rfl, hh⟩
  rw [hh]
  clear hh
  go_wp2_with fail
  go_ret
  exact ⟨rfl, HW.out⟩
set_option maxRecDepth 20000 in
set_option maxHeartbeats 4000000 in
theorem restB2nn {F : Interp} {R fs ts x S bm A J : Nat} {w0 wr : World} {pb : Nat → Option Nat} {mb : Nat → Nat} {iv ov nv : Nat → Value} {d c : Nat → Nat} {mf : Nat → Nat → Option Value} {aj : Nat → Nat → Bool} {a0 a2 a3 : Addr} {s0 s2 s3 : ByteArray} (h : Fin F R w0 wr S bm A J pb mb iv ov nv d c mf aj a0 a2 a3 s0 s2 s3) (hfs : fs ≤ 255) (hts : ts ≤ 255) (hfx : (fs : Int) % 5 = x) (hx5 : x < 5) {y : Nat} (hty : (ts : Int) % 5 = y) (hy5 : y < 5) (hxy : x ≠ y) (hbx : pb x = none) (hby : pb y = none) (u0 u1 u5 u6 u7 u8 u9 u10 u13 u14 u16 u17 u18 u19 u20 u21 u22 u23 u24 u25 u26 u27 u28 u29 u30 u31 u32 u33 u34 u35 u36 u37 u38 u39 u40 u41 u42 u43 u44 u45 u46 u47 u48 u49 u50 u51 u52 u53 u54 u55 u56 u57 u58 u59 u60 u61 u62 u63 u64 u65 u66 u67 u68 u69 u70 u71 u72 u73 u74 u75 u76 u77 u78 u79 u80 u81 u82 u83 u84 u85 u86 u87 u88 u89 u90 u91 u92 u93 u94 u95 u96 u97 u98 u99 u100 u101 u102 u103 u104 u105 u106 u107 u108 u109 u110 u111 u112 u113 u114 u115 u116 u117 u118 u119 u120 u121 u122 u123 u124 u125 u126 u127 u128 u129 u130 u131 u132 u133 u134 u135 u136 u137 u138 u139 u140 u141 u142 u143 u144 u145 u146 u147 u148 u149 u150 u151 u152 u153 u154 u155 u156 u157 u158 u159 u160 u161 u162 u163 u164 u165 u166 u167 u168 u169 u170 u171 u172 u173 u174 u175 u176 u177 u178 u179 u180 u181 u182 u183 u184 u185 u186 u187 u188 u189 u190 u191 u192 u193 u194 u195 u196 u197 u198 u199 u200 u201 u202 u203 u204 u205 u206 u207 u208 u209 u210 u211 u212 u213 u214 u215 u216 u217 u218 u219 u220 u221 u222 u223 u224 u225 u226 u227 u228 u229 u230 u231 u232 u233 u234 u235 u236 u237 u238 u239 u240 u241 u242 u243 u244 u245 u246 u247 u248 u249 u250 u251 u252 u253 u254 u255 u256 u257 u258 u259 u260 u261 u262 u263 u264 u265 u266 u267 u268 u269 u270 u271 u272 u273 u274 u275 u276 u277 u278 u279 u280 u281 u282 u283 u284 u285 u286 u287 u288 u289 u290 u291 u292 u293 u294 u295 u296 u297 u298 u299 u300 u301 u302 u303 u304 u305 u306 u307 u308 u309 u310 u311 u312 u313 u314 u315 u316 u317 u318 u319 u320 u321 u322 u323 u324 u325 u326 u327 u328 u329 u330 u331 u332 u333 u334 : Value) :
    Code.wp Ybaf.prog rest4 (bodyPost Ybaf.prog Ybaf.f4 fun e w' => e = .returned (.bool true) ∧ Below w0.heap.size w0 w') ⟨#[u0, u1, (.int .u8 fs), (.int .u8 ts), (.bool false), u5, u6, u7, u8, u9, u10, (.pointer (some ⟨S, 0, none⟩)), (.pointer (some ⟨A, 0, none⟩)), u13, u14, (.pointer (some ⟨J, 0, none⟩)), u16, u17, u18, u19, u20, u21, u22, u23, u24, u25, u26, u27, u28, u29, u30, u31, u32, u33, u34, u35, u36, u37, u38, u39, u40, u41, u42, u43, u44, u45, u46, u47, u48, u49, u50, u51, u52, u53, u54, u55, u56, u57, u58, u59, u60, u61, u62, u63, u64, u65, u66, u67, u68, u69, u70, u71, u72, u73, u74, u75, u76, u77, u78, u79, u80, u81, u82, u83, u84, u85, u86, u87, u88, u89, u90, u91, u92, u93, u94, u95, u96, u97, u98, u99, u100, u101, u102, u103, u104, u105, u106, u107, u108, u109, u110, u111, u112, u113, u114, u115, u116, u117, u118, u119, u120, u121, u122, u123, u124, u125, u126, u127, u128, u129, u130, u131, u132, u133, u134, u135, u136, u137, u138, u139, u140, u141, u142, u143, u144, u145, u146, u147, u148, u149, u150, u151, u152, u153, u154, u155, u156, u157, u158, u159, u160, u161, u162, u163, u164, u165, u166, u167, u168, u169, u170, u171, u172, u173, u174, u175, u176, u177, u178, u179, u180, u181, u182, u183, u184, u185, u186, u187, u188, u189, u190, u191, u192, u193, u194, u195, u196, u197, u198, u199, u200, u201, u202, u203, u204, u205, u206, u207, u208, u209, u210, u211, u212, u213, u214, u215, u216, u217, u218, u219, u220, u221, u222, u223, u224, u225, u226, u227, u228, u229, u230, u231, u232, u233, u234, u235, u236, u237, u238, u239, u240, u241, u242, u243, u244, u245, u246, u247, u248, u249, u250, u251, u252, u253, u254, u255, u256, u257, u258, u259, u260, u261, u262, u263, u264, u265, u266, u267, u268, u269, u270, u271, u272, u273, u274, u275, u276, u277, u278, u279, u280, u281, u282, u283, u284, u285, u286, u287, u288, u289, u290, u291, u292, u293, u294, u295, u296, u297, u298, u299, u300, u301, u302, u303, u304, u305, u306, u307, u308, u309, u310, u311, u312, u313, u314, u315, u316, u317, u318, u319, u320, u321, u322, u323, u324, u325, u326, u327, u328, u329, u330, u331, u332, u333, u334], []⟩ wr := by
  obtain ⟨pv, np, pxs, hnp, hsys, hpv⟩ := h.inv.sys
  have c4 := hsys.cell 4 (.bool false) (by simp [sf])
  have cf4 := hsys.free
  have hxi : (x : Int) < 5 := by omega
  have hyi : (y : Int) < 5 := by omega
  obtain ⟨i4, j4, g4⟩ := h.started false
  have cx := i4.cellA hx5
  rw [pp_none hbx] at cx
  have cy := i4.cellA hy5
  rw [pp_none hby] at cy
  generalize hw4 : wr.setCell ⟨S, 4, none⟩ (.bool false) = w4 at i4 j4 g4 cx cy
  have H4 : Hid (Inv w0.heap.size R w0 w4 S bm A false pb mb iv ov nv d c mf ∧ BlkAt w0.heap.size w4 J 116 (jf aj) ∧ Glob F w4 a0 a2 a3 s0 s2 s3) := ⟨i4, j4, g4⟩
  have HH : Hid (Fin F R w0 wr S bm A J pb mb iv ov nv d c mf aj a0 a2 a3 s0 s2 s3) := h
  have HB : Hid (a0.block < w0.heap.size ∧ a2.block < w0.heap.size ∧ a3.block < w0.heap.size) := ⟨block_lt h.G.t0, block_lt h.G.t2, block_lt h.G.t3⟩
  clear hsys hpv hnp i4 j4 g4 h
  conv => arg 2; whnf
  go_upto_region 26 with fail
  try rw [hfx]
  try rw [hty]
  try rw [hw4]
  clear hfx hty hw4 c4 cf4 hfs hts
  go_wp2_with fail
  refine (name_any x hx5 _).mono ?_
  rintro e w' ⟨rfl, hh⟩
  rw [hh]
  clear hh
  go_wp2_with fail
  refine (name_any y hy5 _).mono ?_
  rintro e w' ⟨rfl, hh⟩
  rw [hh]
  clear hh
  go_wp2_with fail
  have hxy' : ((x : Int) == y) = false := by simp; omega
  refine (crB2 H4.out.1 H4.out.2.2 HH.out.hb4 HB.out.1 HB.out.2.1 HB.out.2.2 hx5 hy5 hxy (.inl hbx)).mono ?_
  rintro e w5 ⟨⟨eb, rfl, he⟩, f5⟩
  have G5 := H4.out.2.2.fr f5 HH.out.hb4 HB.out.1 HB.out.2.1 HB.out.2.2
  have gg := G5.g2
  have HE : Hid (w5.cell? ⟨eb, 1, none⟩ = some (.iface 123 (.pointer (some a2)))) := he
  have HW : Hid (Below w0.heap.size w0 w5) := H4.out.1.fr.trans f5.below
  clear G5 he f5
  go_wp2_with fail
  refine (is_wrap eb a2 w5 HE.out).mono ?_
  rintro e w' ⟨rfl, hh⟩
  rw [hh]
  clear hh
  go_wp2_with fail
  go_ret
  exact ⟨rfl, HW.out⟩
set_option maxRecDepth 20000 in
set_option maxHeartbeats 4000000 in
theorem restB1ns {F : Interp} {R fs ts x S bm A J : Nat} {w0 wr : World} {pb : Nat → Option Nat} {mb : Nat → Nat} {iv ov nv : Nat → Value} {d c : Nat → Nat} {mf : Nat → Nat → Option Value} {aj : Nat → Nat → Bool} {a0 a2 a3 : Addr} {s0 s2 s3 : ByteArray} (h : Fin F R w0 wr S bm A J pb mb iv ov nv d c mf aj a0 a2 a3 s0 s2 s3) (hfs : fs ≤ 255) (hts : ts ≤ 255) (hfx : (fs : Int) % 5 = x) (hx5 : x < 5) {y : Nat} (hty : (ts : Int) % 5 = y) (hy5 : y < 5) (hxy : x ≠ y) (hbx : pb x = none) {yb : Nat} (hby : pb y = some yb) (u0 u1 u5 u6 u7 u8 u9 u10 u13 u14 u16 u17 u18 u19 u20 u21 u22 u23 u24 u25 u26 u27 u28 u29 u30 u31 u32 u33 u34 u35 u36 u37 u38 u39 u40 u41 u42 u43 u44 u45 u46 u47 u48 u49 u50 u51 u52 u53 u54 u55 u56 u57 u58 u59 u60 u61 u62 u63 u64 u65 u66 u67 u68 u69 u70 u71 u72 u73 u74 u75 u76 u77 u78 u79 u80 u81 u82 u83 u84 u85 u86 u87 u88 u89 u90 u91 u92 u93 u94 u95 u96 u97 u98 u99 u100 u101 u102 u103 u104 u105 u106 u107 u108 u109 u110 u111 u112 u113 u114 u115 u116 u117 u118 u119 u120 u121 u122 u123 u124 u125 u126 u127 u128 u129 u130 u131 u132 u133 u134 u135 u136 u137 u138 u139 u140 u141 u142 u143 u144 u145 u146 u147 u148 u149 u150 u151 u152 u153 u154 u155 u156 u157 u158 u159 u160 u161 u162 u163 u164 u165 u166 u167 u168 u169 u170 u171 u172 u173 u174 u175 u176 u177 u178 u179 u180 u181 u182 u183 u184 u185 u186 u187 u188 u189 u190 u191 u192 u193 u194 u195 u196 u197 u198 u199 u200 u201 u202 u203 u204 u205 u206 u207 u208 u209 u210 u211 u212 u213 u214 u215 u216 u217 u218 u219 u220 u221 u222 u223 u224 u225 u226 u227 u228 u229 u230 u231 u232 u233 u234 u235 u236 u237 u238 u239 u240 u241 u242 u243 u244 u245 u246 u247 u248 u249 u250 u251 u252 u253 u254 u255 u256 u257 u258 u259 u260 u261 u262 u263 u264 u265 u266 u267 u268 u269 u270 u271 u272 u273 u274 u275 u276 u277 u278 u279 u280 u281 u282 u283 u284 u285 u286 u287 u288 u289 u290 u291 u292 u293 u294 u295 u296 u297 u298 u299 u300 u301 u302 u303 u304 u305 u306 u307 u308 u309 u310 u311 u312 u313 u314 u315 u316 u317 u318 u319 u320 u321 u322 u323 u324 u325 u326 u327 u328 u329 u330 u331 u332 u333 u334 : Value) :
    Code.wp Ybaf.prog rest4 (bodyPost Ybaf.prog Ybaf.f4 fun e w' => e = .returned (.bool true) ∧ Below w0.heap.size w0 w') ⟨#[u0, u1, (.int .u8 fs), (.int .u8 ts), (.bool true), u5, u6, u7, u8, u9, u10, (.pointer (some ⟨S, 0, none⟩)), (.pointer (some ⟨A, 0, none⟩)), u13, u14, (.pointer (some ⟨J, 0, none⟩)), u16, u17, u18, u19, u20, u21, u22, u23, u24, u25, u26, u27, u28, u29, u30, u31, u32, u33, u34, u35, u36, u37, u38, u39, u40, u41, u42, u43, u44, u45, u46, u47, u48, u49, u50, u51, u52, u53, u54, u55, u56, u57, u58, u59, u60, u61, u62, u63, u64, u65, u66, u67, u68, u69, u70, u71, u72, u73, u74, u75, u76, u77, u78, u79, u80, u81, u82, u83, u84, u85, u86, u87, u88, u89, u90, u91, u92, u93, u94, u95, u96, u97, u98, u99, u100, u101, u102, u103, u104, u105, u106, u107, u108, u109, u110, u111, u112, u113, u114, u115, u116, u117, u118, u119, u120, u121, u122, u123, u124, u125, u126, u127, u128, u129, u130, u131, u132, u133, u134, u135, u136, u137, u138, u139, u140, u141, u142, u143, u144, u145, u146, u147, u148, u149, u150, u151, u152, u153, u154, u155, u156, u157, u158, u159, u160, u161, u162, u163, u164, u165, u166, u167, u168, u169, u170, u171, u172, u173, u174, u175, u176, u177, u178, u179, u180, u181, u182, u183, u184, u185, u186, u187, u188, u189, u190, u191, u192, u193, u194, u195, u196, u197, u198, u199, u200, u201, u202, u203, u204, u205, u206, u207, u208, u209, u210, u211, u212, u213, u214, u215, u216, u217, u218, u219, u220, u221, u222, u223, u224, u225, u226, u227, u228, u229, u230, u231, u232, u233, u234, u235, u236, u237, u238, u239, u240, u241, u242, u243, u244, u245, u246, u247, u248, u249, u250, u251, u252, u253, u254, u255, u256, u257, u258, u259, u260, u261, u262, u263, u264, u265, u266, u267, u268, u269, u270, u271, u272, u273, u274, u275, u276, u277, u278, u279, u280, u281, u282, u283, u284, u285, u286, u287, u288, u289, u290, u291, u292, u293, u294, u295, u296, u297, u298, u299, u300, u301, u302, u303, u304, u305, u306, u307, u308, u309, u310, u311, u312, u313, u314, u315, u316, u317, u318, u319, u320, u321, u322, u323, u324, u325, u326, u327, u328, u329, u330, u331, u332, u333, u334], []⟩ wr := by
  obtain ⟨pv, np, pxs, hnp, hsys, hpv⟩ := h.inv.sys
  have c4 := hsys.cell 4 (.bool false) (by simp [sf])
  have cf4 := hsys.free
  have hxi : (x : Int) < 5 := by omega
  have hyi : (y : Int) < 5 := by omega
  obtain ⟨i4, j4, g4⟩ := h.started true
  have cx := i4.cellA hx5
  rw [pp_none hbx] at cx
  have cy := i4.cellA hy5
  rw [pp_some hby] at cy
  obtain ⟨yia, yic, yoa, yoc, yna, ync, ye1, ye2, ye3, yp, Ly, hLy⟩ := i4.look hy5 hby
  have y6 := yp.cell 6 _ (by simp [pf]; rfl)
  generalize hw4 : wr.setCell ⟨S, 4, none⟩ (.bool true) = w4 at i4 j4 g4 cx cy yp y6 hLy
  have H4 : Hid (Inv w0.heap.size R w0 w4 S bm A true pb mb iv ov nv d c mf ∧ BlkAt w0.heap.size w4 J 116 (jf aj) ∧ Glob F w4 a0 a2 a3 s0 s2 s3) := ⟨i4, j4, g4⟩
  have HY : Hid (BlkAt w0.heap.size w4 yb 97 (pf y (.slice yia (c y) yic) (.slice yoa (d y) yoc) (.slice yna (d y) ync) (mb y))) := yp
  have HH : Hid (Fin F R w0 wr S bm A J pb mb iv ov nv d c mf aj a0 a2 a3 s0 s2 s3) := h
  have HB : Hid (a0.block < w0.heap.size ∧ a2.block < w0.heap.size ∧ a3.block < w0.heap.size) := ⟨block_lt h.G.t0, block_lt h.G.t2, block_lt h.G.t3⟩
  clear hsys hpv hnp i4 j4 g4 h yp hLy
  conv => arg 2; whnf
  go_upto_region 26 with fail
  try rw [hfx]
  try rw [hty]
  try rw [hw4]
  clear hfx hty hw4 c4 cf4 hfs hts
  go_wp2_with fail
  refine (name_any x hx5 _).mono ?_
  rintro e w' ⟨rfl, hh⟩
  rw [hh]
  clear hh
  go_wp2_with fail
  refine (name_any y hy5 _).mono ?_
  rintro e w' ⟨rfl, hh⟩
  rw [hh]
  clear hh
  go_wp2_with fail
  have hxy' : ((x : Int) == y) = false := by simp; omega
  refine (crB1 H4.out.1 H4.out.2.2 HH.out.hb4 HB.out.1 HB.out.2.1 HB.out.2.2 hx5 hy5 hxy).mono ?_
  rintro e w5 ⟨⟨eb, rfl, he⟩, f5⟩
  have G5 := H4.out.2.2.fr f5 HH.out.hb4 HB.out.1 HB.out.2.1 HB.out.2.2
  have gg := G5.g0
  have HE : Hid (w5.cell? ⟨eb, 1, none⟩ = some (.iface 123 (.pointer (some a0)))) := he
  have HW : Hid (Below w0.heap.size w0 w5) := H4.out.1.fr.trans f5.below
  clear G5 he f5
  go_wp2_with fail
  refine (is_wrap eb a0 w5 HE.out).mono ?_
  rintro e w' ⟨rfl, hh⟩
  rw [hh]
  clear hh
  go_wp2_with fail
  go_ret
  exact ⟨rfl, HW.out⟩
set_option maxRecDepth 20000 in
set_option maxHeartbeats 4000000 in
theorem restB2ns {F : Interp} {R fs ts x S bm A J : Nat} {w0 wr : World} {pb : Nat → Option Nat} {mb : Nat → Nat} {iv ov nv : Nat → Value} {d c : Nat → Nat} {mf : Nat → Nat → Option Value} {aj : Nat → Nat → Bool} {a0 a2 a3 : Addr} {s0 s2 s3 : ByteArray} (h : Fin F R w0 wr S bm A J pb mb iv ov nv d c mf aj a0 a2 a3 s0 s2 s3) (hfs : fs ≤ 255) (hts : ts ≤ 255) (hfx : (fs : Int) % 5 = x) (hx5 : x < 5) {y : Nat} (hty : (ts : Int) % 5 = y) (hy5 : y < 5) (hxy : x ≠ y) (hbx : pb x = none) {yb : Nat} (hby : pb y = some yb) (u0 u1 u5 u6 u7 u8 u9 u10 u13 u14 u16 u17 u18 u19 u20 u21 u22 u23 u24 u25 u26 u27 u28 u29 u30 u31 u32 u33 u34 u35 u36 u37 u38 u39 u40 u41 u42 u43 u44 u45 u46 u47 u48 u49 u50 u51 u52 u53 u54 u55 u56 u57 u58 u59 u60 u61 u62 u63 u64 u65 u66 u67 u68 u69 u70 u71 u72 u73 u74 u75 u76 u77 u78 u79 u80 u81 u82 u83 u84 u85 u86 u87 u88 u89 u90 u91 u92 u93 u94 u95 u96 u97 u98 u99 u100 u101 u102 u103 u104 u105 u106 u107 u108 u109 u110 u111 u112 u113 u114 u115 u116 u117 u118 u119 u120 u121 u122 u123 u124 u125 u126 u127 u128 u129 u130 u131 u132 u133 u134 u135 u136 u137 u138 u139 u140 u141 u142 u143 u144 u145 u146 u147 u148 u149 u150 u151 u152 u153 u154 u155 u156 u157 u158 u159 u160 u161 u162 u163 u164 u165 u166 u167 u168 u169 u170 u171 u172 u173 u174 u175 u176 u177 u178 u179 u180 u181 u182 u183 u184 u185 u186 u187 u188 u189 u190 u191 u192 u193 u194 u195 u196 u197 u198 u199 u200 u201 u202 u203 u204 u205 u206 u207 u208 u209 u210 u211 u212 u213 u214 u215 u216 u217 u218 u219 u220 u221 u222 u223 u224 u225 u226 u227 u228 u229 u230 u231 u232 u233 u234 u235 u236 u237 u238 u239 u240 u241 u242 u243 u244 u245 u246 u247 u248 u249 u250 u251 u252 u253 u254 u255 u256 u257 u258 u259 u260 u261 u262 u263 u264 u265 u266 u267 u268 u269 u270 u271 u272 u273 u274 u275 u276 u277 u278 u279 u280 u281 u282 u283 u284 u285 u286 u287 u288 u289 u290 u291 u292 u293 u294 u295 u296 u297 u298 u299 u300 u301 u302 u303 u304 u305 u306 u307 u308 u309 u310 u311 u312 u313 u314 u315 u316 u317 u318 u319 u320 u321 u322 u323 u324 u325 u326 u327 u328 u329 u330 u331 u332 u333 u334 : Value) :
    Code.wp Ybaf.prog rest4 (bodyPost Ybaf.prog Ybaf.f4 fun e w' => e = .returned (.bool true) ∧ Below w0.heap.size w0 w') ⟨#[u0, u1, (.int .u8 fs), (.int .u8 ts), (.bool false), u5, u6, u7, u8, u9, u10, (.pointer (some ⟨S, 0, none⟩)), (.pointer (some ⟨A, 0, none⟩)), u13, u14, (.pointer (some ⟨J, 0, none⟩)), u16, u17, u18, u19, u20, u21, u22, u23, u24, u25, u26, u27, u28, u29, u30, u31, u32, u33, u34, u35, u36, u37, u38, u39, u40, u41, u42, u43, u44, u45, u46, u47, u48, u49, u50, u51, u52, u53, u54, u55, u56, u57, u58, u59, u60, u61, u62, u63, u64, u65, u66, u67, u68, u69, u70, u71, u72, u73, u74, u75, u76, u77, u78, u79, u80, u81, u82, u83, u84, u85, u86, u87, u88, u89, u90, u91, u92, u93, u94, u95, u96, u97, u98, u99, u100, u101, u102, u103, u104, u105, u106, u107, u108, u109, u110, u111, u112, u113, u114, u115, u116, u117, u118, u119, u120, u121, u122, u123, u124, u125, u126, u127, u128, u129, u130, u131, u132, u133, u134, u135, u136, u137, u138, u139, u140, u141, u142, u143, u144, u145, u146, u147, u148, u149, u150, u151, u152, u153, u154, u155, u156, u157, u158, u159, u160, u161, u162, u163, u164, u165, u166, u167, u168, u169, u170, u171, u172, u173, u174, u175, u176, u177, u178, u179, u180, u181, u182, u183, u184, u185, u186, u187, u188, u189, u190, u191, u192, u193, u194, u195, u196, u197, u198, u199, u200, u201, u202, u203, u204, u205, u206, u207, u208, u209, u210, u211, u212, u213, u214, u215, u216, u217, u218, u219, u220, u221, u222, u223, u224, u225, u226, u227, u228, u229, u230, u231, u232, u233, u234, u235, u236, u237, u238, u239, u240, u241, u242, u243, u244, u245, u246, u247, u248, u249, u250, u251, u252, u253, u254, u255, u256, u257, u258, u259, u260, u261, u262, u263, u264, u265, u266, u267, u268, u269, u270, u271, u272, u273, u274, u275, u276, u277, u278, u279, u280, u281, u282, u283, u284, u285, u286, u287, u288, u289, u290, u291, u292, u293, u294, u295, u296, u297, u298, u299, u300, u301, u302, u303, u304, u305, u306, u307, u308, u309, u310, u311, u312, u313, u314, u315, u316, u317, u318, u319, u320, u321, u322, u323, u324, u325, u326, u327, u328, u329, u330, u331, u332, u333, u334], []⟩ wr := by
  obtain ⟨pv, np, pxs, hnp, hsys, hpv⟩ := h.inv.sys
  have c4 := hsys.cell 4 (.bool false) (by simp [sf])
  have cf4 := hsys.free
  have hxi : (x : Int) < 5 := by omega
  have hyi : (y : Int) < 5 := by omega
  obtain ⟨i4, j4, g4⟩ := h.started false
  have cx := i4.cellA hx5
  rw [pp_none hbx] at cx
  have cy := i4.cellA hy5
  rw [pp_some hby] at cy
  obtain ⟨yia, yic, yoa, yoc, yna, ync, ye1, ye2, ye3, yp, Ly, hLy⟩ := i4.look hy5 hby
  have y6 := yp.cell 6 _ (by simp [pf]; rfl)
  generalize hw4 : wr.setCell ⟨S, 4, none⟩ (.bool false) = w4 at i4 j4 g4 cx cy yp y6 hLy
  have H4 : Hid (Inv w0.heap.size R w0 w4 S bm A false pb mb iv ov nv d c mf ∧ BlkAt w0.heap.size w4 J 116 (jf aj) ∧ Glob F w4 a0 a2 a3 s0 s2 s3) := ⟨i4, j4, g4⟩
  have HY : Hid (BlkAt w0.heap.size w4 yb 97 (pf y (.slice yia (c y) yic) (.slice yoa (d y) yoc) (.slice yna (d y) ync) (mb y))) := yp
  have HH : Hid (Fin F R w0 wr S bm A J pb mb iv ov nv d c mf aj a0 a2 a3 s0 s2 s3) := h
  have HB : Hid (a0.block < w0.heap.size ∧ a2.block < w0.heap.size ∧ a3.block < w0.heap.size) := ⟨block_lt h.G.t0, block_lt h.G.t2, block_lt h.G.t3⟩
  clear hsys hpv hnp i4 j4 g4 h yp hLy
  conv => arg 2; whnf
  go_upto_region 26 with fail
  try rw [hfx]
  try rw [hty]
  try rw [hw4]
  clear hfx hty hw4 c4 cf4 hfs hts
  go_wp2_with fail
  refine (name_any x hx5 _).mono ?_
  rintro e w' ⟨rfl, hh⟩
  rw [hh]
  clear hh
  go_wp2_with fail
  refine (name_any y hy5 _).mono ?_
  rintro e w' ⟨rfl, hh⟩
  rw [hh]
  clear hh
  go_wp2_with fail
  have hxy' : ((x : Int) == y) = false := by simp; omega
  refine (crB2 H4.out.1 H4.out.2.2 HH.out.hb4 HB.out.1 HB.out.2.1 HB.out.2.2 hx5 hy5 hxy (.inl hbx)).mono ?_
  rintro e w5 ⟨⟨eb, rfl, he⟩, f5⟩
  have G5 := H4.out.2.2.fr f5 HH.out.hb4 HB.out.1 HB.out.2.1 HB.out.2.2
  have gg := G5.g2
  have HE : Hid (w5.cell? ⟨eb, 1, none⟩ = some (.iface 123 (.pointer (some a2)))) := he
  have HW : Hid (Below w0.heap.size w0 w5) := H4.out.1.fr.trans f5.below
  clear G5 he f5
  go_wp2_with fail
  refine (is_wrap eb a2 w5 HE.out).mono ?_
  rintro e w' ⟨rfl, hh⟩
  rw [hh]
  clear hh
  go_wp2_with fail
  go_ret
  exact ⟨rfl, HW.out⟩
set_option maxRecDepth 20000 in
set_option maxHeartbeats 4000000 in
theorem restB1sn {F : Interp} {R fs ts x S bm A J : Nat} {w0 wr : World} {pb : Nat → Option Nat} {mb : Nat → Nat} {iv ov nv : Nat → Value} {d c : Nat → Nat} {mf : Nat → Nat → Option Value} {aj : Nat → Nat → Bool} {a0 a2 a3 : Addr} {s0 s2 s3 : ByteArray} (h : Fin F R w0 wr S bm A J pb mb iv ov nv d c mf aj a0 a2 a3 s0 s2 s3) (hfs : fs ≤ 255) (hts : ts ≤ 255) (hfx : (fs : Int) % 5 = x) (hx5 : x < 5) {y : Nat} (hty : (ts : Int) % 5 = y) (hy5 : y < 5) (hxy : x ≠ y) {xb : Nat} (hbx : pb x = some xb) (hby : pb y = none) (u0 u1 u5 u6 u7 u8 u9 u10 u13 u14 u16 u17 u18 u19 u20 u21 u22 u23 u24 u25 u26 u27 u28 u29 u30 u31 u32 u33 u34 u35 u36 u37 u38 u39 u40 u41 u42 u43 u44 u45 u46 u47 u48 u49 u50 u51 u52 u53 u54 u55 u56 u57 u58 u59 u60 u61 u62 u63 u64 u65 u66 u67 u68 u69 u70 u71 u72 u73 u74 u75 u76 u77 u78 u79 u80 u81 u82 u83 u84 u85 u86 u87 u88 u89 u90 u91 u92 u93 u94 u95 u96 u97 u98 u99 u100 u101 u102 u103 u104 u105 u106 u107 u108 u109 u110 u111 u112 u113 u114 u115 u116 u117 u118 u119 u120 u121 u122 u123 u124 u125 u126 u127 u128 u129 u130 u131 u132 u133 u134 u135 u136 u137 u138 u139 u140 u141 u142 u143 u144 u145 u146 u147 u148 u149 u150 u151 u152 u153 u154 u155 u156 u157 u158 u159 u160 u161 u162 u163 u164 u165 u166 u167 u168 u169 u170 u171 u172 u173 u174 u175 u176 u177 u178 u179 u180 u181 u182 u183 u184 u185 u186 u187 u188 u189 u190 u191 u192 u193 u194 u195 u196 u197 u198 u199 u200 u201 u202 u203 u204 u205 u206 u207 u208 u209 u210 u211 u212 u213 u214 u215 u216 u217 u218 u219 u220 u221 u222 u223 u224 u225 u226 u227 u228 u229 u230 u231 u232 u233 u234 u235 u236 u237 u238 u239 u240 u241 u242 u243 u244 u245 u246 u247 u248 u249 u250 u251 u252 u253 u254 u255 u256 u257 u258 u259 u260 u261 u262 u263 u264 u265 u266 u267 u268 u269 u270 u271 u272 u273 u274 u275 u276 u277 u278 u279 u280 u281 u282 u283 u284 u285 u286 u287 u288 u289 u290 u291 u292 u293 u294 u295 u296 u297 u298 u299 u300 u301 u302 u303 u304 u305 u306 u307 u308 u309 u310 u311 u312 u313 u314 u315 u316 u317 u318 u319 u320 u321 u322 u323 u324 u325 u326 u327 u328 u329 u330 u331 u332 u333 u334 : Value) :
    Code.wp Ybaf.prog rest4 (bodyPost Ybaf.prog Ybaf.f4 fun e w' => e = .returned (.bool true) ∧ Below w0.heap.size w0 w') ⟨#[u0, u1, (.int .u8 fs), (.int .u8 ts), (.bool true), u5, u6, u7, u8, u9, u10, (.pointer (some ⟨S, 0, none⟩)), (.pointer (some ⟨A, 0, none⟩)), u13, u14, (.pointer (some ⟨J, 0, none⟩)), u16, u17, u18, u19, u20, u21, u22, u23, u24, u25, u26, u27, u28, u29, u30, u31, u32, u33, u34, u35, u36, u37, u38, u39, u40, u41, u42, u43, u44, u45, u46, u47, u48, u49, u50, u51, u52, u53, u54, u55, u56, u57, u58, u59, u60, u61, u62, u63, u64, u65, u66, u67, u68, u69, u70, u71, u72, u73, u74, u75, u76, u77, u78, u79, u80, u81, u82, u83, u84, u85, u86, u87, u88, u89, u90, u91, u92, u93, u94, u95, u96, u97, u98, u99, u100, u101, u102, u103, u104, u105, u106, u107, u108, u109, u110, u111, u112, u113, u114, u115, u116, u117, u118, u119, u120, u121, u122, u123, u124, u125, u126, u127, u128, u129, u130, u131, u132, u133, u134, u135, u136, u137, u138, u139, u140, u141, u142, u143, u144, u145, u146, u147, u148, u149, u150, u151, u152, u153, u154, u155, u156, u157, u158, u159, u160, u161, u162, u163, u164, u165, u166, u167, u168, u169, u170, u171, u172, u173, u174, u175, u176, u177, u178, u179, u180, u181, u182, u183, u184, u185, u186, u187, u188, u189, u190, u191, u192, u193, u194, u195, u196, u197, u198, u199, u200, u201, u202, u203, u204, u205, u206, u207, u208, u209, u210, u211, u212, u213, u214, u215, u216, u217, u218, u219, u220, u221, u222, u223, u224, u225, u226, u227, u228, u229, u230, u231, u232, u233, u234, u235, u236, u237, u238, u239, u240, u241, u242, u243, u244, u245, u246, u247, u248, u249, u250, u251, u252, u253, u254, u255, u256, u257, u258, u259, u260, u261, u262, u263, u264, u265, u266, u267, u268, u269, u270, u271, u272, u273, u274, u275, u276, u277, u278, u279, u280, u281, u282, u283, u284, u285, u286, u287, u288, u289, u290, u291, u292, u293, u294, u295, u296, u297, u298, u299, u300, u301, u302, u303, u304, u305, u306, u307, u308, u309, u310, u311, u312, u313, u314, u315, u316, u317, u318, u319, u320, u321, u322, u323, u324, u325, u326, u327, u328, u329, u330, u331, u332, u333, u334], []⟩ wr := by
  obtain ⟨pv, np, pxs, hnp, hsys, hpv⟩ := h.inv.sys
  have c4 := hsys.cell 4 (.bool false) (by simp [sf])
  have cf4 := hsys.free
  have hxi : (x : Int) < 5 := by omega
  have hyi : (y : Int) < 5 := by omega
  obtain ⟨i4, j4, g4⟩ := h.started true
  have cx := i4.cellA hx5
  rw [pp_some hbx] at cx
  have cy := i4.cellA hy5
  rw [pp_none hby] at cy
  obtain ⟨xia, xic, xoa, xoc, xna, xnc, xe1, xe2, xe3, xp, L, hL⟩ := i4.look hx5 hbx
  have x8 := xp.cell 8 _ (by simp [pf]; rfl)
  have x142 := xp.cell 142 _ (by simp [pf]; rfl)
  have hL4 := hL _ (fun _ _ h => h)
  generalize hw4 : wr.setCell ⟨S, 4, none⟩ (.bool true) = w4 at i4 j4 g4 cx cy xp x8 x142 hL hL4
  have H4 : Hid (Inv w0.heap.size R w0 w4 S bm A true pb mb iv ov nv d c mf ∧ BlkAt w0.heap.size w4 J 116 (jf aj) ∧ Glob F w4 a0 a2 a3 s0 s2 s3) := ⟨i4, j4, g4⟩
  have HX : Hid (BlkAt w0.heap.size w4 xb 97 (pf x (.slice xia (c x) xic) (.slice xoa (d x) xoc) (.slice xna (d x) xnc) (mb x)) ∧ ∀ w' : World, (∀ es cc, w4.heap[mb x]? = some (.map es cc) → w'.heap[mb x]? = some (.map es cc)) → ∀ ty, (Builtin.len_ #[88] ty #[.map (some (mb x))]).run Ybaf.prog w' = .ok (.int .i64 L) w') := ⟨xp, hL⟩
  have HH : Hid (Fin F R w0 wr S bm A J pb mb iv ov nv d c mf aj a0 a2 a3 s0 s2 s3) := h
  have HB : Hid (a0.block < w0.heap.size ∧ a2.block < w0.heap.size ∧ a3.block < w0.heap.size) := ⟨block_lt h.G.t0, block_lt h.G.t2, block_lt h.G.t3⟩
  clear hsys hpv hnp i4 j4 g4 h xp hL
  conv => arg 2; whnf
  go_upto_region 26 with fail
  try rw [hfx]
  try rw [hty]
  try rw [hw4]
  clear hfx hty hw4 c4 cf4 hfs hts
  go_wp2_with fail
  refine (name_any x hx5 _).mono ?_
  rintro e w' ⟨rfl, hh⟩
  rw [hh]
  clear hh
  go_wp2_with fail
  refine (name_any y hy5 _).mono ?_
  rintro e w' ⟨rfl, hh⟩
  rw [hh]
  clear hh
  go_wp2_with fail
  have hxy' : ((x : Int) == y) = false := by simp; omega
  refine (crB1 H4.out.1 H4.out.2.2 HH.out.hb4 HB.out.1 HB.out.2.1 HB.out.2.2 hx5 hy5 hxy).mono ?_
  rintro e w5 ⟨⟨eb, rfl, he⟩, f5⟩
  have G5 := H4.out.2.2.fr f5 HH.out.hb4 HB.out.1 HB.out.2.1 HB.out.2.2
  have gg := G5.g0
  have HE : Hid (w5.cell? ⟨eb, 1, none⟩ = some (.iface 123 (.pointer (some a0)))) := he
  have HW : Hid (Below w0.heap.size w0 w5) := H4.out.1.fr.trans f5.below
  clear G5 he f5
  go_wp2_with fail
  refine (is_wrap eb a0 w5 HE.out).mono ?_
  rintro e w' ⟨rfl, hh⟩
  rw [hh]
  clear hh
  go_wp2_with fail
  go_ret
  exact ⟨rfl, HW.out⟩
set_option maxRecDepth 20000 in
set_option maxHeartbeats 4000000 in
theorem restB2sn {F : Interp} {R fs ts x S bm A J : Nat} {w0 wr : World} {pb : Nat → Option Nat} {mb : Nat → Nat} {iv ov nv : Nat → Value} {d c : Nat → Nat} {mf : Nat → Nat → Option Value} {aj : Nat → Nat → Bool} {a0 a2 a3 : Addr} {s0 s2 s3 : ByteArray} (h : Fin F R w0 wr S bm A J pb mb iv ov nv d c mf aj a0 a2 a3 s0 s2 s3) (hfs : fs ≤ 255) (hts : ts ≤ 255) (hfx : (fs : Int) % 5 = x) (hx5 : x < 5) {y : Nat} (hty : (ts : Int) % 5 = y) (hy5 : y < 5) (hxy : x ≠ y) {xb : Nat} (hbx : pb x = some xb) (hby : pb y = none) (u0 u1 u5 u6 u7 u8 u9 u10 u13 u14 u16 u17 u18 u19 u20 u21 u22 u23 u24 u25 u26 u27 u28 u29 u30 u31 u32 u33 u34 u35 u36 u37 u38 u39 u40 u41 u42 u43 u44 u45 u46 u47 u48 u49 u50 u51 u52 u53 u54 u55 u56 u57 u58 u59 u60 u61 u62 u63 u64 u65 u66 u67 u68 u69 u70 u71 u72 u73 u74 u75 u76 u77 u78 u79 u80 u81 u82 u83 u84 u85 u86 u87 u88 u89 u90 u91 u92 u93 u94 u95 u96 u97 u98 u99 u100 u101 u102 u103 u104 u105 u106 u107 u108 u109 u110 u111 u112 u113 u114 u115 u116 u117 u118 u119 u120 u121 u122 u123 u124 u125 u126 u127 u128 u129 u130 u131 u132 u133 u134 u135 u136 u137 u138 u139 u140 u141 u142 u143 u144 u145 u146 u147 u148 u149 u150 u151 u152 u153 u154 u155 u156 u157 u158 u159 u160 u161 u162 u163 u164 u165 u166 u167 u168 u169 u170 u171 u172 u173 u174 u175 u176 u177 u178 u179 u180 u181 u182 u183 u184 u185 u186 u187 u188 u189 u190 u191 u192 u193 u194 u195 u196 u197 u198 u199 u200 u201 u202 u203 u204 u205 u206 u207 u208 u209 u210 u211 u212 u213 u214 u215 u216 u217 u218 u219 u220 u221 u222 u223 u224 u225 u226 u227 u228 u229 u230 u231 u232 u233 u234 u235 u236 u237 u238 u239 u240 u241 u242 u243 u244 u245 u246 u247 u248 u249 u250 u251 u252 u253 u254 u255 u256 u257 u258 u259 u260 u261 u262 u263 u264 u265 u266 u267 u268 u269 u270 u271 u272 u273 u274 u275 u276 u277 u278 u279 u280 u281 u282 u283 u284 u285 u286 u287 u288 u289 u290 u291 u292 u293 u294 u295 u296 u297 u298 u299 u300 u301 u302 u303 u304 u305 u306 u307 u308 u309 u310 u311 u312 u313 u314 u315 u316 u317 u318 u319 u320 u321 u322 u323 u324 u325 u326 u327 u328 u329 u330 u331 u332 u333 u334 : Value) :
    Code.wp Ybaf.prog rest4 (bodyPost Ybaf.prog Ybaf.f4 fun e w' => e = .returned (.bool true) ∧ Below w0.heap.size w0 w') ⟨#[u0, u1, (.int .u8 fs), (.int .u8 ts), (.bool false), u5, u6, u7, u8, u9, u10, (.pointer (some ⟨S, 0, none⟩)), (.pointer (some ⟨A, 0, none⟩)), u13, u14, (.pointer (some ⟨J, 0, none⟩)), u16, u17, u18, u19, u20, u21, u22, u23, u24, u25, u26, u27, u28, u29, u30, u31, u32, u33, u34, u35, u36, u37, u38, u39, u40, u41, u42, u43, u44, u45, u46, u47, u48, u49, u50, u51, u52, u53, u54, u55, u56, u57, u58, u59, u60, u61, u62, u63, u64, u65, u66, u67, u68, u69, u70, u71, u72, u73, u74, u75, u76, u77, u78, u79, u80, u81, u82, u83, u84, u85, u86, u87, u88, u89, u90, u91, u92, u93, u94, u95, u96, u97, u98, u99, u100, u101, u102, u103, u104, u105, u106, u107, u108, u109, u110, u111, u112, u113, u114, u115, u116, u117, u118, u119, u120, u121, u122, u123, u124, u125, u126, u127, u128, u129, u130, u131, u132, u133, u134, u135, u136, u137, u138, u139, u140, u141, u142, u143, u144, u145, u146, u147, u148, u149, u150, u151, u152, u153, u154, u155, u156, u157, u158, u159, u160, u161, u162, u163, u164, u165, u166, u167, u168, u169, u170, u171, u172, u173, u174, u175, u176, u177, u178, u179, u180, u181, u182, u183, u184, u185, u186, u187, u188, u189, u190, u191, u192, u193, u194, u195, u196, u197, u198, u199, u200, u201, u202, u203, u204, u205, u206, u207, u208, u209, u210, u211, u212, u213, u214, u215, u216, u217, u218, u219, u220, u221, u222, u223, u224, u225, u226, u227, u228, u229, u230, u231, u232, u233, u234, u235, u236, u237, u238, u239, u240, u241, u242, u243, u244, u245, u246, u247, u248, u249, u250, u251, u252, u253, u254, u255, u256, u257, u258, u259, u260, u261, u262, u263, u264, u265, u266, u267, u268, u269, u270, u271, u272, u273, u274, u275, u276, u277, u278, u279, u280, u281, u282, u283, u284, u285, u286, u287, u288, u289, u290, u291, u292, u293, u294, u295, u296, u297, u298, u299, u300, u301, u302, u303, u304, u305, u306, u307, u308, u309, u310, u311, u312, u313, u314, u315, u316, u317, u318, u319, u320, u321, u322, u323, u324, u325, u326, u327, u328, u329, u330, u331, u332, u333, u334], []⟩ wr := by
  obtain ⟨pv, np, pxs, hnp, hsys, hpv⟩ := h.inv.sys
  have c4 := hsys.cell 4 (.bool false) (by simp [sf])
  have cf4 := hsys.free
  have hxi : (x : Int) < 5 := by omega
  have hyi : (y : Int) < 5 := by omega
  obtain ⟨i4, j4, g4⟩ := h.started false
  have cx := i4.cellA hx5
  rw [pp_some hbx] at cx
  have cy := i4.cellA hy5
  rw [pp_none hby] at cy
  obtain ⟨xia, xic, xoa, xoc, xna, xnc, xe1, xe2, xe3, xp, L, hL⟩ := i4.look hx5 hbx
  have x8 := xp.cell 8 _ (by simp [pf]; rfl)
  have x142 := xp.cell 142 _ (by simp [pf]; rfl)
  have hL4 := hL _ (fun _ _ h => h)
  generalize hw4 : wr.setCell ⟨S, 4, none⟩ (.bool false) = w4 at i4 j4 g4 cx cy xp x8 x142 hL hL4
  have H4 : Hid (Inv w0.heap.size R w0 w4 S bm A false pb mb iv ov nv d c mf ∧ BlkAt w0.heap.size w4 J 116 (jf aj) ∧ Glob F w4 a0 a2 a3 s0 s2 s3) := ⟨i4, j4, g4⟩
  have HX : Hid (BlkAt w0.heap.size w4 xb 97 (pf x (.slice xia (c x) xic) (.slice xoa (d x) xoc) (.slice xna (d x) xnc) (mb x)) ∧ ∀ w' : World, (∀ es cc, w4.heap[mb x]? = some (.map es cc) → w'.heap[mb x]? = some (.map es cc)) → ∀ ty, (Builtin.len_ #[88] ty #[.map (some (mb x))]).run Ybaf.prog w' = .ok (.int .i64 L) w') := ⟨xp, hL⟩
  have HH : Hid (Fin F R w0 wr S bm A J pb mb iv ov nv d c mf aj a0 a2 a3 s0 s2 s3) := h
  have HB : Hid (a0.block < w0.heap.size ∧ a2.block < w0.heap.size ∧ a3.block < w0.heap.size) := ⟨block_lt h.G.t0, block_lt h.G.t2, block_lt h.G.t3⟩
  clear hsys hpv hnp i4 j4 g4 h xp hL
  conv => arg 2; whnf
  go_upto_region 26 with fail
  try rw [hfx]
  try rw [hty]
  try rw [hw4]
  clear hfx hty hw4 c4 cf4 hfs hts
  go_wp2_with fail
  refine (name_any x hx5 _).mono ?_
  rintro e w' ⟨rfl, hh⟩
  rw [hh]
  clear hh
  go_wp2_with fail
  refine (name_any y hy5 _).mono ?_
  rintro e w' ⟨rfl, hh⟩
  rw [hh]
  clear hh
  go_wp2_with fail
  have hxy' : ((x : Int) == y) = false := by simp; omega
  refine (crB2 H4.out.1 H4.out.2.2 HH.out.hb4 HB.out.1 HB.out.2.1 HB.out.2.2 hx5 hy5 hxy (.inr hby)).mono ?_
  rintro e w5 ⟨⟨eb, rfl, he⟩, f5⟩
  have G5 := H4.out.2.2.fr f5 HH.out.hb4 HB.out.1 HB.out.2.1 HB.out.2.2
  have gg := G5.g2
  have HE : Hid (w5.cell? ⟨eb, 1, none⟩ = some (.iface 123 (.pointer (some a2)))) := he
  have HW : Hid (Below w0.heap.size w0 w5) := H4.out.1.fr.trans f5.below
  clear G5 he f5
  go_wp2_with fail
  refine (is_wrap eb a2 w5 HE.out).mono ?_
  rintro e w' ⟨rfl, hh⟩
  rw [hh]
  clear hh
  go_wp2_with fail
  go_ret
  exact ⟨rfl, HW.out⟩
set_option maxRecDepth 20000 in
set_option maxHeartbeats 4000000 in
theorem restB1ss {F : Interp} {R fs ts x S bm A J : Nat} {w0 wr : World} {pb : Nat → Option Nat} {mb : Nat → Nat} {iv ov nv : Nat → Value} {d c : Nat → Nat} {mf : Nat → Nat → Option Value} {aj : Nat → Nat → Bool} {a0 a2 a3 : Addr} {s0 s2 s3 : ByteArray} (h : Fin F R w0 wr S bm A J pb mb iv ov nv d c mf aj a0 a2 a3 s0 s2 s3) (hfs : fs ≤ 255) (hts : ts ≤ 255) (hfx : (fs : Int) % 5 = x) (hx5 : x < 5) {y : Nat} (hty : (ts : Int) % 5 = y) (hy5 : y < 5) (hxy : x ≠ y) {xb : Nat} (hbx : pb x = some xb) {yb : Nat} (hby : pb y = some yb) (u0 u1 u5 u6 u7 u8 u9 u10 u13 u14 u16 u17 u18 u19 u20 u21 u22 u23 u24 u25 u26 u27 u28 u29 u30 u31 u32 u33 u34 u35 u36 u37 u38 u39 u40 u41 u42 u43 u44 u45 u46 u47 u48 u49 u50 u51 u52 u53 u54 u55 u56 u57 u58 u59 u60 u61 u62 u63 u64 u65 u66 u67 u68 u69 u70 u71 u72 u73 u74 u75 u76 u77 u78 u79 u80 u81 u82 u83 u84 u85 u86 u87 u88 u89 u90 u91 u92 u93 u94 u95 u96 u97 u98 u99 u100 u101 u102 u103 u104 u105 u106 u107 u108 u109 u110 u111 u112 u113 u114 u115 u116 u117 u118 u119 u120 u121 u122 u123 u124 u125 u126 u127 u128 u129 u130 u131 u132 u133 u134 u135 u136 u137 u138 u139 u140 u141 u142 u143 u144 u145 u146 u147 u148 u149 u150 u151 u152 u153 u154 u155 u156 u157 u158 u159 u160 u161 u162 u163 u164 u165 u166 u167 u168 u169 u170 u171 u172 u173 u174 u175 u176 u177 u178 u179 u180 u181 u182 u183 u184 u185 u186 u187 u188 u189 u190 u191 u192 u193 u194 u195 u196 u197 u198 u199 u200 u201 u202 u203 u204 u205 u206 u207 u208 u209 u210 u211 u212 u213 u214 u215 u216 u217 u218 u219 u220 u221 u222 u223 u224 u225 u226 u227 u228 u229 u230 u231 u232 u233 u234 u235 u236 u237 u238 u239 u240 u241 u242 u243 u244 u245 u246 u247 u248 u249 u250 u251 u252 u253 u254 u255 u256 u257 u258 u259 u260 u261 u262 u263 u264 u265 u266 u267 u268 u269 u270 u271 u272 u273 u274 u275 u276 u277 u278 u279 u280 u281 u282 u283 u284 u285 u286 u287 u288 u289 u290 u291 u292 u293 u294 u295 u296 u297 u298 u299 u300 u301 u302 u303 u304 u305 u306 u307 u308 u309 u310 u311 u312 u313 u314 u315 u316 u317 u318 u319 u320 u321 u322 u323 u324 u325 u326 u327 u328 u329 u330 u331 u332 u333 u334 : Value) :
    Code.wp Ybaf.prog rest4 (bodyPost Ybaf.prog Ybaf.f4 fun e w' => e = .returned (.bool true) ∧ Below w0.heap.size w0 w') ⟨#[u0, u1, (.int .u8 fs), (.int .u8 ts), (.bool true), u5, u6, u7, u8, u9, u10, (.pointer (some ⟨S, 0, none⟩)), (.pointer (some ⟨A, 0, none⟩)), u13, u14, (.pointer (some ⟨J, 0, none⟩)), u16, u17, u18, u19, u20, u21, u22, u23, u24, u25, u26, u27, u28, u29, u30, u31, u32, u33, u34, u35, u36, u37, u38, u39, u40, u41, u42, u43, u44, u45, u46, u47, u48, u49, u50, u51, u52, u53, u54, u55, u56, u57, u58, u59, u60, u61, u62, u63, u64, u65, u66, u67, u68, u69, u70, u71, u72, u73, u74, u75, u76, u77, u78, u79, u80, u81, u82, u83, u84, u85, u86, u87, u88, u89, u90, u91, u92, u93, u94, u95, u96, u97, u98, u99, u100, u101, u102, u103, u104, u105, u106, u107, u108, u109, u110, u111, u112, u113, u114, u115, u116, u117, u118, u119, u120, u121, u122, u123, u124, u125, u126, u127, u128, u129, u130, u131, u132, u133, u134, u135, u136, u137, u138, u139, u140, u141, u142, u143, u144, u145, u146, u147, u148, u149, u150, u151, u152, u153, u154, u155, u156, u157, u158, u159, u160, u161, u162, u163, u164, u165, u166, u167, u168, u169, u170, u171, u172, u173, u174, u175, u176, u177, u178, u179, u180, u181, u182, u183, u184, u185, u186, u187, u188, u189, u190, u191, u192, u193, u194, u195, u196, u197, u198, u199, u200, u201, u202, u203, u204, u205, u206, u207, u208, u209, u210, u211, u212, u213, u214, u215, u216, u217, u218, u219, u220, u221, u222, u223, u224, u225, u226, u227, u228, u229, u230, u231, u232, u233, u234, u235, u236, u237, u238, u239, u240, u241, u242, u243, u244, u245, u246, u247, u248, u249, u250, u251, u252, u253, u254, u255, u256, u257, u258, u259, u260, u261, u262, u263, u264, u265, u266, u267, u268, u269, u270, u271, u272, u273, u274, u275, u276, u277, u278, u279, u280, u281, u282, u283, u284, u285, u286, u287, u288, u289, u290, u291, u292, u293, u294, u295, u296, u297, u298, u299, u300, u301, u302, u303, u304, u305, u306, u307, u308, u309, u310, u311, u312, u313, u314, u315, u316, u317, u318, u319, u320, u321, u322, u323, u324, u325, u326, u327, u328, u329, u330, u331, u332, u333, u334], []⟩ wr := by
  obtain ⟨pv, np, pxs, hnp, hsys, hpv⟩ := h.inv.sys
  have c4 := hsys.cell 4 (.bool false) (by simp [sf])
  have cf4 := hsys.free
  have hxi : (x : Int) < 5 := by omega
  have hyi : (y : Int) < 5 := by omega
  obtain ⟨i4, j4, g4⟩ := h.started true
  have cx := i4.cellA hx5
  rw [pp_some hbx] at cx
  have cy := i4.cellA hy5
  rw [pp_some hby] at cy
  obtain ⟨xia, xic, xoa, xoc, xna, xnc, xe1, xe2, xe3, xp, L, hL⟩ := i4.look hx5 hbx
  have x8 := xp.cell 8 _ (by simp [pf]; rfl)
  have x142 := xp.cell 142 _ (by simp [pf]; rfl)
  have hL4 := hL _ (fun _ _ h => h)
  obtain ⟨yia, yic, yoa, yoc, yna, ync, ye1, ye2, ye3, yp, Ly, hLy⟩ := i4.look hy5 hby
  have y6 := yp.cell 6 _ (by simp [pf]; rfl)
  generalize hw4 : wr.setCell ⟨S, 4, none⟩ (.bool true) = w4 at i4 j4 g4 cx cy xp x8 x142 hL hL4 yp y6 hLy
  have H4 : Hid (Inv w0.heap.size R w0 w4 S bm A true pb mb iv ov nv d c mf ∧ BlkAt w0.heap.size w4 J 116 (jf aj) ∧ Glob F w4 a0 a2 a3 s0 s2 s3) := ⟨i4, j4, g4⟩
  have HX : Hid (BlkAt w0.heap.size w4 xb 97 (pf x (.slice xia (c x) xic) (.slice xoa (d x) xoc) (.slice xna (d x) xnc) (mb x)) ∧ ∀ w' : World, (∀ es cc, w4.heap[mb x]? = some (.map es cc) → w'.heap[mb x]? = some (.map es cc)) → ∀ ty, (Builtin.len_ #[88] ty #[.map (some (mb x))]).run Ybaf.prog w' = .ok (.int .i64 L) w') := ⟨xp, hL⟩
  have HY : Hid (BlkAt w0.heap.size w4 yb 97 (pf y (.slice yia (c y) yic) (.slice yoa (d y) yoc) (.slice yna (d y) ync) (mb y))) := yp
  have HH : Hid (Fin F R w0 wr S bm A J pb mb iv ov nv d c mf aj a0 a2 a3 s0 s2 s3) := h
  have HB : Hid (a0.block < w0.heap.size ∧ a2.block < w0.heap.size ∧ a3.block < w0.heap.size) := ⟨block_lt h.G.t0, block_lt h.G.t2, block_lt h.G.t3⟩
  clear hsys hpv hnp i4 j4 g4 h xp hL yp hLy
  conv => arg 2; whnf
  go_upto_region 26 with fail
  try rw [hfx]
  try rw [hty]
  try rw [hw4]
  clear hfx hty hw4 c4 cf4 hfs hts
  go_wp2_with fail
  refine (name_any x hx5 _).mono ?_
  rintro e w' ⟨rfl, hh⟩
  rw [hh]
  clear hh
  go_wp2_with fail
  refine (name_any y hy5 _).mono ?_
  rintro e w' ⟨rfl, hh⟩
  rw [hh]
  clear hh
  go_wp2_with fail
  have hxy' : ((x : Int) == y) = false := by simp; omega
  refine (crB1 H4.out.1 H4.out.2.2 HH.out.hb4 HB.out.1 HB.out.2.1 HB.out.2.2 hx5 hy5 hxy).mono ?_
  rintro e w5 ⟨⟨eb, rfl, he⟩, f5⟩
  have G5 := H4.out.2.2.fr f5 HH.out.hb4 HB.out.1 HB.out.2.1 HB.out.2.2
  have gg := G5.g0
  have HE : Hid (w5.cell? ⟨eb, 1, none⟩ = some (.iface 123 (.pointer (some a0)))) := he
  have HW : Hid (Below w0.heap.size w0 w5) := H4.out.1.fr.trans f5.below
  clear G5 he f5
  go_wp2_with fail
  refine (is_wrap eb a0 w5 HE.out).mono ?_
  rintro e w' ⟨rfl, hh⟩
  rw [hh]
  clear hh
  go_wp2_with fail
  go_ret
  exact ⟨rfl, HW.out⟩
set_option maxRecDepth 20000 in
set_option maxHeartbeats 4000000 in
theorem restB3 {F : Interp} {R fs ts x S bm A J : Nat} {w0 wr : World} {pb : Nat → Option Nat} {mb : Nat → Nat} {iv ov nv : Nat → Value} {d c : Nat → Nat} {mf : Nat → Nat → Option Value} {aj : Nat → Nat → Bool} {a0 a2 a3 : Addr} {s0 s2 s3 : ByteArray} (h : Fin F R w0 wr S bm A J pb mb iv ov nv d c mf aj a0 a2 a3 s0 s2 s3) (hfs : fs ≤ 255) (hts : ts ≤ 255) (hfx : (fs : Int) % 5 = x) (hx5 : x < 5) {y : Nat} (hty : (ts : Int) % 5 = y) (hy5 : y < 5) (hxy : x ≠ y) {xb : Nat} (hbx : pb x = some xb) {yb : Nat} (hby : pb y = some yb) (haj : aj x y = true) (u0 u1 u5 u6 u7 u8 u9 u10 u13 u14 u16 u17 u18 u19 u20 u21 u22 u23 u24 u25 u26 u27 u28 u29 u30 u31 u32 u33 u34 u35 u36 u37 u38 u39 u40 u41 u42 u43 u44 u45 u46 u47 u48 u49 u50 u51 u52 u53 u54 u55 u56 u57 u58 u59 u60 u61 u62 u63 u64 u65 u66 u67 u68 u69 u70 u71 u72 u73 u74 u75 u76 u77 u78 u79 u80 u81 u82 u83 u84 u85 u86 u87 u88 u89 u90 u91 u92 u93 u94 u95 u96 u97 u98 u99 u100 u101 u102 u103 u104 u105 u106 u107 u108 u109 u110 u111 u112 u113 u114 u115 u116 u117 u118 u119 u120 u121 u122 u123 u124 u125 u126 u127 u128 u129 u130 u131 u132 u133 u134 u135 u136 u137 u138 u139 u140 u141 u142 u143 u144 u145 u146 u147 u148 u149 u150 u151 u152 u153 u154 u155 u156 u157 u158 u159 u160 u161 u162 u163 u164 u165 u166 u167 u168 u169 u170 u171 u172 u173 u174 u175 u176 u177 u178 u179 u180 u181 u182 u183 u184 u185 u186 u187 u188 u189 u190 u191 u192 u193 u194 u195 u196 u197 u198 u199 u200 u201 u202 u203 u204 u205 u206 u207 u208 u209 u210 u211 u212 u213 u214 u215 u216 u217 u218 u219 u220 u221 u222 u223 u224 u225 u226 u227 u228 u229 u230 u231 u232 u233 u234 u235 u236 u237 u238 u239 u240 u241 u242 u243 u244 u245 u246 u247 u248 u249 u250 u251 u252 u253 u254 u255 u256 u257 u258 u259 u260 u261 u262 u263 u264 u265 u266 u267 u268 u269 u270 u271 u272 u273 u274 u275 u276 u277 u278 u279 u280 u281 u282 u283 u284 u285 u286 u287 u288 u289 u290 u291 u292 u293 u294 u295 u296 u297 u298 u299 u300 u301 u302 u303 u304 u305 u306 u307 u308 u309 u310 u311 u312 u313 u314 u315 u316 u317 u318 u319 u320 u321 u322 u323 u324 u325 u326 u327 u328 u329 u330 u331 u332 u333 u334 : Value) :
    Code.wp Ybaf.prog rest4 (bodyPost Ybaf.prog Ybaf.f4 fun e w' => e = .returned (.bool true) ∧ Below w0.heap.size w0 w') ⟨#[u0, u1, (.int .u8 fs), (.int .u8 ts), (.bool false), u5, u6, u7, u8, u9, u10, (.pointer (some ⟨S, 0, none⟩)), (.pointer (some ⟨A, 0, none⟩)), u13, u14, (.pointer (some ⟨J, 0, none⟩)), u16, u17, u18, u19, u20, u21, u22, u23, u24, u25, u26, u27, u28, u29, u30, u31, u32, u33, u34, u35, u36, u37, u38, u39, u40, u41, u42, u43, u44, u45, u46, u47, u48, u49, u50, u51, u52, u53, u54, u55, u56, u57, u58, u59, u60, u61, u62, u63, u64, u65, u66, u67, u68, u69, u70, u71, u72, u73, u74, u75, u76, u77, u78, u79, u80, u81, u82, u83, u84, u85, u86, u87, u88, u89, u90, u91, u92, u93, u94, u95, u96, u97, u98, u99, u100, u101, u102, u103, u104, u105, u106, u107, u108, u109, u110, u111, u112, u113, u114, u115, u116, u117, u118, u119, u120, u121, u122, u123, u124, u125, u126, u127, u128, u129, u130, u131, u132, u133, u134, u135, u136, u137, u138, u139, u140, u141, u142, u143, u144, u145, u146, u147, u148, u149, u150, u151, u152, u153, u154, u155, u156, u157, u158, u159, u160, u161, u162, u163, u164, u165, u166, u167, u168, u169, u170, u171, u172, u173, u174, u175, u176, u177, u178, u179, u180, u181, u182, u183, u184, u185, u186, u187, u188, u189, u190, u191, u192, u193, u194, u195, u196, u197, u198, u199, u200, u201, u202, u203, u204, u205, u206, u207, u208, u209, u210, u211, u212, u213, u214, u215, u216, u217, u218, u219, u220, u221, u222, u223, u224, u225, u226, u227, u228, u229, u230, u231, u232, u233, u234, u235, u236, u237, u238, u239, u240, u241, u242, u243, u244, u245, u246, u247, u248, u249, u250, u251, u252, u253, u254, u255, u256, u257, u258, u259, u260, u261, u262, u263, u264, u265, u266, u267, u268, u269, u270, u271, u272, u273, u274, u275, u276, u277, u278, u279, u280, u281, u282, u283, u284, u285, u286, u287, u288, u289, u290, u291, u292, u293, u294, u295, u296, u297, u298, u299, u300, u301, u302, u303, u304, u305, u306, u307, u308, u309, u310, u311, u312, u313, u314, u315, u316, u317, u318, u319, u320, u321, u322, u323, u324, u325, u326, u327, u328, u329, u330, u331, u332, u333, u334], []⟩ wr := by
  obtain ⟨pv, np, pxs, hnp, hsys, hpv⟩ := h.inv.sys
  have c4 := hsys.cell 4 (.bool false) (by simp [sf])
  have cf4 := hsys.free
  have hxi : (x : Int) < 5 := by omega
  have hyi : (y : Int) < 5 := by omega
  obtain ⟨i4, j4, g4⟩ := h.started false
  have cx := i4.cellA hx5
  rw [pp_some hbx] at cx
  have cy := i4.cellA hy5
  rw [pp_some hby] at cy
  obtain ⟨xia, xic, xoa, xoc, xna, xnc, xe1, xe2, xe3, xp, L, hL⟩ := i4.look hx5 hbx
  have x8 := xp.cell 8 _ (by simp [pf]; rfl)
  have x142 := xp.cell 142 _ (by simp [pf]; rfl)
  have hL4 := hL _ (fun _ _ h => h)
  obtain ⟨yia, yic, yoa, yoc, yna, ync, ye1, ye2, ye3, yp, Ly, hLy⟩ := i4.look hy5 hby
  have y6 := yp.cell 6 _ (by simp [pf]; rfl)
  generalize hw4 : wr.setCell ⟨S, 4, none⟩ (.bool false) = w4 at i4 j4 g4 cx cy xp x8 x142 hL hL4 yp y6 hLy
  have H4 : Hid (Inv w0.heap.size R w0 w4 S bm A false pb mb iv ov nv d c mf ∧ BlkAt w0.heap.size w4 J 116 (jf aj) ∧ Glob F w4 a0 a2 a3 s0 s2 s3) := ⟨i4, j4, g4⟩
  have HX : Hid (BlkAt w0.heap.size w4 xb 97 (pf x (.slice xia (c x) xic) (.slice xoa (d x) xoc) (.slice xna (d x) xnc) (mb x)) ∧ ∀ w' : World, (∀ es cc, w4.heap[mb x]? = some (.map es cc) → w'.heap[mb x]? = some (.map es cc)) → ∀ ty, (Builtin.len_ #[88] ty #[.map (some (mb x))]).run Ybaf.prog w' = .ok (.int .i64 L) w') := ⟨xp, hL⟩
  have HY : Hid (BlkAt w0.heap.size w4 yb 97 (pf y (.slice yia (c y) yic) (.slice yoa (d y) yoc) (.slice yna (d y) ync) (mb y))) := yp
  have HH : Hid (Fin F R w0 wr S bm A J pb mb iv ov nv d c mf aj a0 a2 a3 s0 s2 s3) := h
  have HB : Hid (a0.block < w0.heap.size ∧ a2.block < w0.heap.size ∧ a3.block < w0.heap.size) := ⟨block_lt h.G.t0, block_lt h.G.t2, block_lt h.G.t3⟩
  clear hsys hpv hnp i4 j4 g4 h xp hL yp hLy
  conv => arg 2; whnf
  go_upto_region 26 with fail
  try rw [hfx]
  try rw [hty]
  try rw [hw4]
  clear hfx hty hw4 c4 cf4 hfs hts
  go_wp2_with fail
  refine (name_any x hx5 _).mono ?_
  rintro e w' ⟨rfl, hh⟩
  rw [hh]
  clear hh
  go_wp2_with fail
  refine (name_any y hy5 _).mono ?_
  rintro e w' ⟨rfl, hh⟩
  rw [hh]
  clear hh
  go_wp2_with fail
  have hxy' : ((x : Int) == y) = false := by simp; omega
  refine (crB3 H4.out.1 H4.out.2.2 HH.out.hb4 HB.out.1 HB.out.2.1 HB.out.2.2 hx5 hy5 hxy hbx hby (by rw [HH.out.mj x y hx5 hy5 (by rw [hbx]; simp)]; exact haj)).mono ?_
  rintro e w5 ⟨⟨eb, rfl, he⟩, f5⟩
  have G5 := H4.out.2.2.fr f5 HH.out.hb4 HB.out.1 HB.out.2.1 HB.out.2.2
  have gg := G5.g3
  have HE : Hid (w5.cell? ⟨eb, 1, none⟩ = some (.iface 123 (.pointer (some a3)))) := he
  have HW : Hid (Below w0.heap.size w0 w5) := H4.out.1.fr.trans f5.below
  have p5 := f5.at HX.out.1 (by simp)
  have q5 := f5.at HY.out (by simp)
  have x85 := p5.cell 8 _ (by simp [pf]; rfl)
  have y65 := q5.cell 6 _ (by simp [pf]; rfl)
  have j5 := jf_cell (f5.at H4.out.2.1 (by simp)) hx5 hy5
  rw [haj] at j5
  clear p5 q5 f5 G5 he x8 x142 hL4 y6 cx cy
  go_wp2_with fail
  refine (is_wrap eb a3 w5 HE.out).mono ?_
  rintro e w' ⟨rfl, hh⟩
  rw [hh]
  clear hh
  go_wp2_with fail
  go_ret
  exact ⟨rfl, HW.out⟩
set_option maxRecDepth 20000 in
set_option maxHeartbeats 4000000 in
theorem restB4 {F : Interp} {R fs ts x S bm A J : Nat} {w0 wr : World} {pb : Nat → Option Nat} {mb : Nat → Nat} {iv ov nv : Nat → Value} {d c : Nat → Nat} {mf : Nat → Nat → Option Value} {aj : Nat → Nat → Bool} {a0 a2 a3 : Addr} {s0 s2 s3 : ByteArray} (h : Fin F R w0 wr S bm A J pb mb iv ov nv d c mf aj a0 a2 a3 s0 s2 s3) (hfs : fs ≤ 255) (hts : ts ≤ 255) (hfx : (fs : Int) % 5 = x) (hx5 : x < 5) {y : Nat} (hty : (ts : Int) % 5 = y) (hy5 : y < 5) (hxy : x ≠ y) {xb : Nat} (hbx : pb x = some xb) {yb : Nat} (hby : pb y = some yb) (haj : aj x y = false) (u0 u1 u5 u6 u7 u8 u9 u10 u13 u14 u16 u17 u18 u19 u20 u21 u22 u23 u24 u25 u26 u27 u28 u29 u30 u31 u32 u33 u34 u35 u36 u37 u38 u39 u40 u41 u42 u43 u44 u45 u46 u47 u48 u49 u50 u51 u52 u53 u54 u55 u56 u57 u58 u59 u60 u61 u62 u63 u64 u65 u66 u67 u68 u69 u70 u71 u72 u73 u74 u75 u76 u77 u78 u79 u80 u81 u82 u83 u84 u85 u86 u87 u88 u89 u90 u91 u92 u93 u94 u95 u96 u97 u98 u99 u100 u101 u102 u103 u104 u105 u106 u107 u108 u109 u110 u111 u112 u113 u114 u115 u116 u117 u118 u119 u120 u121 u122 u123 u124 u125 u126 u127 u128 u129 u130 u131 u132 u133 u134 u135 u136 u137 u138 u139 u140 u141 u142 u143 u144 u145 u146 u147 u148 u149 u150 u151 u152 u153 u154 u155 u156 u157 u158 u159 u160 u161 u162 u163 u164 u165 u166 u167 u168 u169 u170 u171 u172 u173 u174 u175 u176 u177 u178 u179 u180 u181 u182 u183 u184 u185 u186 u187 u188 u189 u190 u191 u192 u193 u194 u195 u196 u197 u198 u199 u200 u201 u202 u203 u204 u205 u206 u207 u208 u209 u210 u211 u212 u213 u214 u215 u216 u217 u218 u219 u220 u221 u222 u223 u224 u225 u226 u227 u228 u229 u230 u231 u232 u233 u234 u235 u236 u237 u238 u239 u240 u241 u242 u243 u244 u245 u246 u247 u248 u249 u250 u251 u252 u253 u254 u255 u256 u257 u258 u259 u260 u261 u262 u263 u264 u265 u266 u267 u268 u269 u270 u271 u272 u273 u274 u275 u276 u277 u278 u279 u280 u281 u282 u283 u284 u285 u286 u287 u288 u289 u290 u291 u292 u293 u294 u295 u296 u297 u298 u299 u300 u301 u302 u303 u304 u305 u306 u307 u308 u309 u310 u311 u312 u313 u314 u315 u316 u317 u318 u319 u320 u321 u322 u323 u324 u325 u326 u327 u328 u329 u330 u331 u332 u333 u334 : Value) :
    Code.wp Ybaf.prog rest4 (bodyPost Ybaf.prog Ybaf.f4 fun e w' => e = .returned (.bool true) ∧ Below w0.heap.size w0 w') ⟨#[u0, u1, (.int .u8 fs), (.int .u8 ts), (.bool false), u5, u6, u7, u8, u9, u10, (.pointer (some ⟨S, 0, none⟩)), (.pointer (some ⟨A, 0, none⟩)), u13, u14, (.pointer (some ⟨J, 0, none⟩)), u16, u17, u18, u19, u20, u21, u22, u23, u24, u25, u26, u27, u28, u29, u30, u31, u32, u33, u34, u35, u36, u37, u38, u39, u40, u41, u42, u43, u44, u45, u46, u47, u48, u49, u50, u51, u52, u53, u54, u55, u56, u57, u58, u59, u60, u61, u62, u63, u64, u65, u66, u67, u68, u69, u70, u71, u72, u73, u74, u75, u76, u77, u78, u79, u80, u81, u82, u83, u84, u85, u86, u87, u88, u89, u90, u91, u92, u93, u94, u95, u96, u97, u98, u99, u100, u101, u102, u103, u104, u105, u106, u107, u108, u109, u110, u111, u112, u113, u114, u115, u116, u117, u118, u119, u120, u121, u122, u123, u124, u125, u126, u127, u128, u129, u130, u131, u132, u133, u134, u135, u136, u137, u138, u139, u140, u141, u142, u143, u144, u145, u146, u147, u148, u149, u150, u151, u152, u153, u154, u155, u156, u157, u158, u159, u160, u161, u162, u163, u164, u165, u166, u167, u168, u169, u170, u171, u172, u173, u174, u175, u176, u177, u178, u179, u180, u181, u182, u183, u184, u185, u186, u187, u188, u189, u190, u191, u192, u193, u194, u195, u196, u197, u198, u199, u200, u201, u202, u203, u204, u205, u206, u207, u208, u209, u210, u211, u212, u213, u214, u215, u216, u217, u218, u219, u220, u221, u222, u223, u224, u225, u226, u227, u228, u229, u230, u231, u232, u233, u234, u235, u236, u237, u238, u239, u240, u241, u242, u243, u244, u245, u246, u247, u248, u249, u250, u251, u252, u253, u254, u255, u256, u257, u258, u259, u260, u261, u262, u263, u264, u265, u266, u267, u268, u269, u270, u271, u272, u273, u274, u275, u276, u277, u278, u279, u280, u281, u282, u283, u284, u285, u286, u287, u288, u289, u290, u291, u292, u293, u294, u295, u296, u297, u298, u299, u300, u301, u302, u303, u304, u305, u306, u307, u308, u309, u310, u311, u312, u313, u314, u315, u316, u317, u318, u319, u320, u321, u322, u323, u324, u325, u326, u327, u328, u329, u330, u331, u332, u333, u334], []⟩ wr := by
  obtain ⟨pv, np, pxs, hnp, hsys, hpv⟩ := h.inv.sys
  have c4 := hsys.cell 4 (.bool false) (by simp [sf])
  have cf4 := hsys.free
  have hxi : (x : Int) < 5 := by omega
  have hyi : (y : Int) < 5 := by omega
  obtain ⟨i4, j4, g4⟩ := h.started false
  have cx := i4.cellA hx5
  rw [pp_some hbx] at cx
  have cy := i4.cellA hy5
  rw [pp_some hby] at cy
  obtain ⟨xia, xic, xoa, xoc, xna, xnc, xe1, xe2, xe3, xp, L, hL⟩ := i4.look hx5 hbx
  have x8 := xp.cell 8 _ (by simp [pf]; rfl)
  have x142 := xp.cell 142 _ (by simp [pf]; rfl)
  have hL4 := hL _ (fun _ _ h => h)
  obtain ⟨yia, yic, yoa, yoc, yna, ync, ye1, ye2, ye3, yp, Ly, hLy⟩ := i4.look hy5 hby
  have y6 := yp.cell 6 _ (by simp [pf]; rfl)
  generalize hw4 : wr.setCell ⟨S, 4, none⟩ (.bool false) = w4 at i4 j4 g4 cx cy xp x8 x142 hL hL4 yp y6 hLy
  have H4 : Hid (Inv w0.heap.size R w0 w4 S bm A false pb mb iv ov nv d c mf ∧ BlkAt w0.heap.size w4 J 116 (jf aj) ∧ Glob F w4 a0 a2 a3 s0 s2 s3) := ⟨i4, j4, g4⟩
  have HX : Hid (BlkAt w0.heap.size w4 xb 97 (pf x (.slice xia (c x) xic) (.slice xoa (d x) xoc) (.slice xna (d x) xnc) (mb x)) ∧ ∀ w' : World, (∀ es cc, w4.heap[mb x]? = some (.map es cc) → w'.heap[mb x]? = some (.map es cc)) → ∀ ty, (Builtin.len_ #[88] ty #[.map (some (mb x))]).run Ybaf.prog w' = .ok (.int .i64 L) w') := ⟨xp, hL⟩
  have HY : Hid (BlkAt w0.heap.size w4 yb 97 (pf y (.slice yia (c y) yic) (.slice yoa (d y) yoc) (.slice yna (d y) ync) (mb y))) := yp
  have HH : Hid (Fin F R w0 wr S bm A J pb mb iv ov nv d c mf aj a0 a2 a3 s0 s2 s3) := h
  have HB : Hid (a0.block < w0.heap.size ∧ a2.block < w0.heap.size ∧ a3.block < w0.heap.size) := ⟨block_lt h.G.t0, block_lt h.G.t2, block_lt h.G.t3⟩
  clear hsys hpv hnp i4 j4 g4 h xp hL yp hLy
  conv => arg 2; whnf
  go_upto_region 26 with fail
  try rw [hfx]
  try rw [hty]
  try rw [hw4]
  clear hfx hty hw4 c4 cf4 hfs hts
  go_wp2_with fail
  refine (name_any x hx5 _).mono ?_
  rintro e w' ⟨rfl, hh⟩
  rw [hh]
  clear hh
  go_wp2_with fail
  refine (name_any y hy5 _).mono ?_
  rintro e w' ⟨rfl, hh⟩
  rw [hh]
  clear hh
  go_wp2_with fail
  have hxy' : ((x : Int) == y) = false := by simp; omega
  have hj4 := jf_cell H4.out.2.1 hx5 hy5
  refine (crB4 H4.out.1 HH.out.hR hx5 hy5 hxy hbx hby (by rw [HH.out.mj x y hx5 hy5 (by rw [hbx]; simp)]; exact haj)).mono ?_
  rintro e w5 ⟨rfl, bl, xs, ys, zs, n, op', np', it', lx, ly, lz, cp⟩
  have hdx : d x ≤ 2000 := Nat.le_trans (H4.out.1.ro x hx5).1 HH.out.hR
  have hcy : c y ≤ 2000 := Nat.le_trans (H4.out.1.ro y hy5).2.1 HH.out.hR
  obtain ⟨go, oc', rfl, ho⟩ := own_at cp.ro (p := d x * 4) (u := ptr yb) (by rw [List.getElem?_append_right (by omega), lx, Nat.sub_self]; rfl)
  obtain ⟨gn, nc', rfl, hn⟩ := own_at cp.rn (p := d x) (u := .string (nm y)) (by rw [List.getElem?_append_right (by omega), ly, Nat.sub_self]; rfl)
  obtain ⟨gi, ic', rfl, hi⟩ := own_at cp.ri (p := c y) (u := .string (nm x)) (by rw [List.getElem?_append_right (by omega), lz, Nat.sub_self]; rfl)
  have o0 : w5.cell? ⟨go, d x * 4, none⟩ = some (.pointer (some ⟨yb, 0, none⟩)) := ho _ _ (by rw [List.getElem?_append_right (by omega), lx, Nat.sub_self]; rfl)
  have o1 : w5.cell? ⟨go, d x * 4 + 1, none⟩ = some (.int .i64 (c y)) := ho _ _ (by rw [List.getElem?_append_right (by omega), lx, Nat.add_sub_cancel_left]; rfl)
  have n0 : w5.cell? ⟨gn, d x, none⟩ = some (.string (nm y)) := hn _ _ (by rw [List.getElem?_append_right (by omega), ly, Nat.sub_self]; rfl)
  have i0 : w5.cell? ⟨gi, c y, none⟩ = some (.string (nm x)) := hi _ _ (by rw [List.getElem?_append_right (by omega), lz, Nat.sub_self]; rfl)
  have hlk := cp.m.lookOk Ybaf.underlying88 (zero3 _) hy5
  simp only [if_pos] at hlk
  replace hlk : Sem.run Ybaf.prog (Instr.lookup 88 (.map (some (mb x))) (.string (nm y)) true) w5 = .ok (.tuple #[.int .i64 (d x), .bool true]) w5 := hlk
  have x85 := cp.p.cell 8 _ (by simp [pf]; rfl)
  have x95 := cp.p.cell 9 _ (by simp [pf]; rfl)
  have x1425 := cp.p.cell 142 _ (by simp [pf]; rfl)
  have y65 := cp.t.cell 6 _ (by simp [pf]; rfl)
  have j5 : w5.cell? ⟨J, x * 5 + y, none⟩ = some (.bool false) := by
    obtain ⟨hJ0, cs, hJ, hJf⟩ := H4.out.2.1
    have hjj := jf_cell (w := w5) ⟨hJ0, cs, cp.k116 J cs hJ, hJf⟩ hx5 hy5
    rw [haj] at hjj
    exact hjj
  have hps := ptr_same
  have hdi : (d x : Int) < (d x : Int) + 1 := by omega
  have hci : (c y : Int) < (c y : Int) + 1 := by omega
  have HW : Hid (Below w0.heap.size w0 w5) := H4.out.1.fr.trans bl
  clear bl lx ly lz cp ho hn hi hj4 x8 x142 hL4 y6 cx cy
  go_wp2_with fail
  go_ret
  exact ⟨rfl, HW.out⟩
set_option maxRecDepth 20000 in
set_option maxHeartbeats 4000000 in
theorem rest_any (st : Bool) {F : Interp} {R fs ts S bm A J : Nat} {w0 wr : World} {pb : Nat → Option Nat} {mb : Nat → Nat} {iv ov nv : Nat → Value} {d c : Nat → Nat} {mf : Nat → Nat → Option Value} {aj : Nat → Nat → Bool} {a0 a2 a3 : Addr} {s0 s2 s3 : ByteArray} (h : Fin F R w0 wr S bm A J pb mb iv ov nv d c mf aj a0 a2 a3 s0 s2 s3) (hfs : fs ≤ 255) (hts : ts ≤ 255) (u0 u1 u5 u6 u7 u8 u9 u10 u13 u14 u16 u17 u18 u19 u20 u21 u22 u23 u24 u25 u26 u27 u28 u29 u30 u31 u32 u33 u34 u35 u36 u37 u38 u39 u40 u41 u42 u43 u44 u45 u46 u47 u48 u49 u50 u51 u52 u53 u54 u55 u56 u57 u58 u59 u60 u61 u62 u63 u64 u65 u66 u67 u68 u69 u70 u71 u72 u73 u74 u75 u76 u77 u78 u79 u80 u81 u82 u83 u84 u85 u86 u87 u88 u89 u90 u91 u92 u93 u94 u95 u96 u97 u98 u99 u100 u101 u102 u103 u104 u105 u106 u107 u108 u109 u110 u111 u112 u113 u114 u115 u116 u117 u118 u119 u120 u121 u122 u123 u124 u125 u126 u127 u128 u129 u130 u131 u132 u133 u134 u135 u136 u137 u138 u139 u140 u141 u142 u143 u144 u145 u146 u147 u148 u149 u150 u151 u152 u153 u154 u155 u156 u157 u158 u159 u160 u161 u162 u163 u164 u165 u166 u167 u168 u169 u170 u171 u172 u173 u174 u175 u176 u177 u178 u179 u180 u181 u182 u183 u184 u185 u186 u187 u188 u189 u190 u191 u192 u193 u194 u195 u196 u197 u198 u199 u200 u201 u202 u203 u204 u205 u206 u207 u208 u209 u210 u211 u212 u213 u214 u215 u216 u217 u218 u219 u220 u221 u222 u223 u224 u225 u226 u227 u228 u229 u230 u231 u232 u233 u234 u235 u236 u237 u238 u239 u240 u241 u242 u243 u244 u245 u246 u247 u248 u249 u250 u251 u252 u253 u254 u255 u256 u257 u258 u259 u260 u261 u262 u263 u264 u265 u266 u267 u268 u269 u270 u271 u272 u273 u274 u275 u276 u277 u278 u279 u280 u281 u282 u283 u284 u285 u286 u287 u288 u289 u290 u291 u292 u293 u294 u295 u296 u297 u298 u299 u300 u301 u302 u303 u304 u305 u306 u307 u308 u309 u310 u311 u312 u313 u314 u315 u316 u317 u318 u319 u320 u321 u322 u323 u324 u325 u326 u327 u328 u329 u330 u331 u332 u333 u334 : Value) :
    Code.wp Ybaf.prog rest4 (bodyPost Ybaf.prog Ybaf.f4 fun e w' => e = .returned (.bool true) ∧ Below w0.heap.size w0 w') ⟨#[u0, u1, (.int .u8 fs), (.int .u8 ts), (.bool st), u5, u6, u7, u8, u9, u10, (.pointer (some ⟨S, 0, none⟩)), (.pointer (some ⟨A, 0, none⟩)), u13, u14, (.pointer (some ⟨J, 0, none⟩)), u16, u17, u18, u19, u20, u21, u22, u23, u24, u25, u26, u27, u28, u29, u30, u31, u32, u33, u34, u35, u36, u37, u38, u39, u40, u41, u42, u43, u44, u45, u46, u47, u48, u49, u50, u51, u52, u53, u54, u55, u56, u57, u58, u59, u60, u61, u62, u63, u64, u65, u66, u67, u68, u69, u70, u71, u72, u73, u74, u75, u76, u77, u78, u79, u80, u81, u82, u83, u84, u85, u86, u87, u88, u89, u90, u91, u92, u93, u94, u95, u96, u97, u98, u99, u100, u101, u102, u103, u104, u105, u106, u107, u108, u109, u110, u111, u112, u113, u114, u115, u116, u117, u118, u119, u120, u121, u122, u123, u124, u125, u126, u127, u128, u129, u130, u131, u132, u133, u134, u135, u136, u137, u138, u139, u140, u141, u142, u143, u144, u145, u146, u147, u148, u149, u150, u151, u152, u153, u154, u155, u156, u157, u158, u159, u160, u161, u162, u163, u164, u165, u166, u167, u168, u169, u170, u171, u172, u173, u174, u175, u176, u177, u178, u179, u180, u181, u182, u183, u184, u185, u186, u187, u188, u189, u190, u191, u192, u193, u194, u195, u196, u197, u198, u199, u200, u201, u202, u203, u204, u205, u206, u207, u208, u209, u210, u211, u212, u213, u214, u215, u216, u217, u218, u219, u220, u221, u222, u223, u224, u225, u226, u227, u228, u229, u230, u231, u232, u233, u234, u235, u236, u237, u238, u239, u240, u241, u242, u243, u244, u245, u246, u247, u248, u249, u250, u251, u252, u253, u254, u255, u256, u257, u258, u259, u260, u261, u262, u263, u264, u265, u266, u267, u268, u269, u270, u271, u272, u273, u274, u275, u276, u277, u278, u279, u280, u281, u282, u283, u284, u285, u286, u287, u288, u289, u290, u291, u292, u293, u294, u295, u296, u297, u298, u299, u300, u301, u302, u303, u304, u305, u306, u307, u308, u309, u310, u311, u312, u313, u314, u315, u316, u317, u318, u319, u320, u321, u322, u323, u324, u325, u326, u327, u328, u329, u330, u331, u332, u333, u334], []⟩ wr := by
  obtain ⟨x, hx, hx5⟩ : ∃ x : Nat, (fs : Int) % 5 = x ∧ x < 5 := ⟨fs % 5, by omega, by omega⟩
  obtain ⟨y, hy, hy5⟩ : ∃ y : Nat, (ts : Int) % 5 = y ∧ y < 5 := ⟨ts % 5, by omega, by omega⟩
  by_cases hxy : x = y
  · subst hxy
    cases hbx : pb x with
    | none => exact restA1 h hfs hts hx hx5 hy hbx u0 u1 u5 u6 u7 u8 u9 u10 u13 u14 u16 u17 u18 u19 u20 u21 u22 u23 u24 u25 u26 u27 u28 u29 u30 u31 u32 u33 u34 u35 u36 u37 u38 u39 u40 u41 u42 u43 u44 u45 u46 u47 u48 u49 u50 u51 u52 u53 u54 u55 u56 u57 u58 u59 u60 u61 u62 u63 u64 u65 u66 u67 u68 u69 u70 u71 u72 u73 u74 u75 u76 u77 u78 u79 u80 u81 u82 u83 u84 u85 u86 u87 u88 u89 u90 u91 u92 u93 u94 u95 u96 u97 u98 u99 u100 u101 u102 u103 u104 u105 u106 u107 u108 u109 u110 u111 u112 u113 u114 u115 u116 u117 u118 u119 u120 u121 u122 u123 u124 u125 u126 u127 u128 u129 u130 u131 u132 u133 u134 u135 u136 u137 u138 u139 u140 u141 u142 u143 u144 u145 u146 u147 u148 u149 u150 u151 u152 u153 u154 u155 u156 u157 u158 u159 u160 u161 u162 u163 u164 u165 u166 u167 u168 u169 u170 u171 u172 u173 u174 u175 u176 u177 u178 u179 u180 u181 u182 u183 u184 u185 u186 u187 u188 u189 u190 u191 u192 u193 u194 u195 u196 u197 u198 u199 u200 u201 u202 u203 u204 u205 u206 u207 u208 u209 u210 u211 u212 u213 u214 u215 u216 u217 u218 u219 u220 u221 u222 u223 u224 u225 u226 u227 u228 u229 u230 u231 u232 u233 u234 u235 u236 u237 u238 u239 u240 u241 u242 u243 u244 u245 u246 u247 u248 u249 u250 u251 u252 u253 u254 u255 u256 u257 u258 u259 u260 u261 u262 u263 u264 u265 u266 u267 u268 u269 u270 u271 u272 u273 u274 u275 u276 u277 u278 u279 u280 u281 u282 u283 u284 u285 u286 u287 u288 u289 u290 u291 u292 u293 u294 u295 u296 u297 u298 u299 u300 u301 u302 u303 u304 u305 u306 u307 u308 u309 u310 u311 u312 u313 u314 u315 u316 u317 u318 u319 u320 u321 u322 u323 u324 u325 u326 u327 u328 u329 u330 u331 u332 u333 u334
    | some xb => exact restA2 h hfs hts hx hx5 hy hbx u0 u1 u5 u6 u7 u8 u9 u10 u13 u14 u16 u17 u18 u19 u20 u21 u22 u23 u24 u25 u26 u27 u28 u29 u30 u31 u32 u33 u34 u35 u36 u37 u38 u39 u40 u41 u42 u43 u44 u45 u46 u47 u48 u49 u50 u51 u52 u53 u54 u55 u56 u57 u58 u59 u60 u61 u62 u63 u64 u65 u66 u67 u68 u69 u70 u71 u72 u73 u74 u75 u76 u77 u78 u79 u80 u81 u82 u83 u84 u85 u86 u87 u88 u89 u90 u91 u92 u93 u94 u95 u96 u97 u98 u99 u100 u101 u102 u103 u104 u105 u106 u107 u108 u109 u110 u111 u112 u113 u114 u115 u116 u117 u118 u119 u120 u121 u122 u123 u124 u125 u126 u127 u128 u129 u130 u131 u132 u133 u134 u135 u136 u137 u138 u139 u140 u141 u142 u143 u144 u145 u146 u147 u148 u149 u150 u151 u152 u153 u154 u155 u156 u157 u158 u159 u160 u161 u162 u163 u164 u165 u166 u167 u168 u169 u170 u171 u172 u173 u174 u175 u176 u177 u178 u179 u180 u181 u182 u183 u184 u185 u186 u187 u188 u189 u190 u191 u192 u193 u194 u195 u196 u197 u198 u199 u200 u201 u202 u203 u204 u205 u206 u207 u208 u209 u210 u211 u212 u213 u214 u215 u216 u217 u218 u219 u220 u221 u222 u223 u224 u225 u226 u227 u228 u229 u230 u231 u232 u233 u234 u235 u236 u237 u238 u239 u240 u241 u242 u243 u244 u245 u246 u247 u248 u249 u250 u251 u252 u253 u254 u255 u256 u257 u258 u259 u260 u261 u262 u263 u264 u265 u266 u267 u268 u269 u270 u271 u272 u273 u274 u275 u276 u277 u278 u279 u280 u281 u282 u283 u284 u285 u286 u287 u288 u289 u290 u291 u292 u293 u294 u295 u296 u297 u298 u299 u300 u301 u302 u303 u304 u305 u306 u307 u308 u309 u310 u311 u312 u313 u314 u315 u316 u317 u318 u319 u320 u321 u322 u323 u324 u325 u326 u327 u328 u329 u330 u331 u332 u333 u334
  · cases hbx : pb x with
    | none =>
      cases hby : pb y with
      | none =>
        cases st
        · exact restB2nn h hfs hts hx hx5 hy hy5 hxy hbx hby u0 u1 u5 u6 u7 u8 u9 u10 u13 u14 u16 u17 u18 u19 u20 u21 u22 u23 u24 u25 u26 u27 u28 u29 u30 u31 u32 u33 u34 u35 u36 u37 u38 u39 u40 u41 u42 u43 u44 u45 u46 u47 u48 u49 u50 u51 u52 u53 u54 u55 u56 u57 u58 u59 u60 u61 u62 u63 u64 u65 u66 u67 u68 u69 u70 u71 u72 u73 u74 u75 u76 u77 u78 u79 u80 u81 u82 u83 u84 u85 u86 u87 u88 u89 u90 u91 u92 u93 u94 u95 u96 u97 u98 u99 u100 u101 u102 u103 u104 u105 u106 u107 u108 u109 u110 u111 u112 u113 u114 u115 u116 u117 u118 u119 u120 u121 u122 u123 u124 u125 u126 u127 u128 u129 u130 u131 u132 u133 u134 u135 u136 u137 u138 u139 u140 u141 u142 u143 u144 u145 u146 u147 u148 u149 u150 u151 u152 u153 u154 u155 u156 u157 u158 u159 u160 u161 u162 u163 u164 u165 u166 u167 u168 u169 u170 u171 u172 u173 u174 u175 u176 u177 u178 u179 u180 u181 u182 u183 u184 u185 u186 u187 u188 u189 u190 u191 u192 u193 u194 u195 u196 u197 u198 u199 u200 u201 u202 u203 u204 u205 u206 u207 u208 u209 u210 u211 u212 u213 u214 u215 u216 u217 u218 u219 u220 u221 u222 u223 u224 u225 u226 u227 u228 u229 u230 u231 u232 u233 u234 u235 u236 u237 u238 u239 u240 u241 u242 u243 u244 u245 u246 u247 u248 u249 u250 u251 u252 u253 u254 u255 u256 u257 u258 u259 u260 u261 u262 u263 u264 u265 u266 u267 u268 u269 u270 u271 u272 u273 u274 u275 u276 u277 u278 u279 u280 u281 u282 u283 u284 u285 u286 u287 u288 u289 u290 u291 u292 u293 u294 u295 u296 u297 u298 u299 u300 u301 u302 u303 u304 u305 u306 u307 u308 u309 u310 u311 u312 u313 u314 u315 u316 u317 u318 u319 u320 u321 u322 u323 u324 u325 u326 u327 u328 u329 u330 u331 u332 u333 u334
        · exact restB1nn h hfs hts hx hx5 hy hy5 hxy hbx hby u0 u1 u5 u6 u7 u8 u9 u10 u13 u14 u16 u17 u18 u19 u20 u21 u22 u23 u24 u25 u26 u27 u28 u29 u30 u31 u32 u33 u34 u35 u36 u37 u38 u39 u40 u41 u42 u43 u44 u45 u46 u47 u48 u49 u50 u51 u52 u53 u54 u55 u56 u57 u58 u59 u60 u61 u62 u63 u64 u65 u66 u67 u68 u69 u70 u71 u72 u73 u74 u75 u76 u77 u78 u79 u80 u81 u82 u83 u84 u85 u86 u87 u88 u89 u90 u91 u92 u93 u94 u95 u96 u97 u98 u99 u100 u101 u102 u103 u104 u105 u106 u107 u108 u109 u110 u111 u112 u113 u114 u115 u116 u117 u118 u119 u120 u121 u122 u123 u124 u125 u126 u127 u128 u129 u130 u131 u132 u133 u134 u135 u136 u137 u138 u139 u140 u141 u142 u143 u144 u145 u146 u147 u148 u149 u150 u151 u152 u153 u154 u155 u156 u157 u158 u159 u160 u161 u162 u163 u164 u165 u166 u167 u168 u169 u170 u171 u172 u173 u174 u175 u176 u177 u178 u179 u180 u181 u182 u183 u184 u185 u186 u187 u188 u189 u190 u191 u192 u193 u194 u195 u196 u197 u198 u199 u200 u201 u202 u203 u204 u205 u206 u207 u208 u209 u210 u211 u212 u213 u214 u215 u216 u217 u218 u219 u220 u221 u222 u223 u224 u225 u226 u227 u228 u229 u230 u231 u232 u233 u234 u235 u236 u237 u238 u239 u240 u241 u242 u243 u244 u245 u246 u247 u248 u249 u250 u251 u252 u253 u254 u255 u256 u257 u258 u259 u260 u261 u262 u263 u264 u265 u266 u267 u268 u269 u270 u271 u272 u273 u274 u275 u276 u277 u278 u279 u280 u281 u282 u283 u284 u285 u286 u287 u288 u289 u290 u291 u292 u293 u294 u295 u296 u297 u298 u299 u300 u301 u302 u303 u304 u305 u306 u307 u308 u309 u310 u311 u312 u313 u314 u315 u316 u317 u318 u319 u320 u321 u322 u323 u324 u325 u326 u327 u328 u329 u330 u331 u332 u333 u334
      | some yb =>
        cases st
        · exact restB2ns h hfs hts hx hx5 hy hy5 hxy hbx hby u0 u1 u5 u6 u7 u8 u9 u10 u13 u14 u16 u17 u18 u19 u20 u21 u22 u23 u24 u25 u26 u27 u28 u29 u30 u31 u32 u33 u34 u35 u36 u37 u38 u39 u40 u41 u42 u43 u44 u45 u46 u47 u48 u49 u50 u51 u52 u53 u54 u55 u56 u57 u58 u59 u60 u61 u62 u63 u64 u65 u66 u67 u68 u69 u70 u71 u72 u73 u74 u75 u76 u77 u78 u79 u80 u81 u82 u83 u84 u85 u86 u87 u88 u89 u90 u91 u92 u93 u94 u95 u96 u97 u98 u99 u100 u101 u102 u103 u104 u105 u106 u107 u108 u109 u110 u111 u112 u113 u114 u115 u116 u117 u118 u119 u120 u121 u122 u123 u124 u125 u126 u127 u128 u129 u130 u131 u132 u133 u134 u135 u136 u137 u138 u139 u140 u141 u142 u143 u144 u145 u146 u147 u148 u149 u150 u151 u152 u153 u154 u155 u156 u157 u158 u159 u160 u161 u162 u163 u164 u165 u166 u167 u168 u169 u170 u171 u172 u173 u174 u175 u176 u177 u178 u179 u180 u181 u182 u183 u184 u185 u186 u187 u188 u189 u190 u191 u192 u193 u194 u195 u196 u197 u198 u199 u200 u201 u202 u203 u204 u205 u206 u207 u208 u209 u210 u211 u212 u213 u214 u215 u216 u217 u218 u219 u220 u221 u222 u223 u224 u225 u226 u227 u228 u229 u230 u231 u232 u233 u234 u235 u236 u237 u238 u239 u240 u241 u242 u243 u244 u245 u246 u247 u248 u249 u250 u251 u252 u253 u254 u255 u256 u257 u258 u259 u260 u261 u262 u263 u264 u265 u266 u267 u268 u269 u270 u271 u272 u273 u274 u275 u276 u277 u278 u279 u280 u281 u282 u283 u284 u285 u286 u287 u288 u289 u290 u291 u292 u293 u294 u295 u296 u297 u298 u299 u300 u301 u302 u303 u304 u305 u306 u307 u308 u309 u310 u311 u312 u313 u314 u315 u316 u317 u318 u319 u320 u321 u322 u323 u324 u325 u326 u327 u328 u329 u330 u331 u332 u333 u334
        · exact restB1ns h hfs hts hx hx5 hy hy5 hxy hbx hby u0 u1 u5 u6 u7 u8 u9 u10 u13 u14 u16 u17 u18 u19 u20 u21 u22 u23 u24 u25 u26 u27 u28 u29 u30 u31 u32 u33 u34 u35 u36 u37 u38 u39 u40 u41 u42 u43 u44 u45 u46 u47 u48 u49 u50 u51 u52 u53 u54 u55 u56 u57 u58 u59 u60 u61 u62 u63 u64 u65 u66 u67 u68 u69 u70 u71 u72 u73 u74 u75 u76 u77 u78 u79 u80 u81 u82 u83 u84 u85 u86 u87 u88 u89 u90 u91 u92 u93 u94 u95 u96 u97 u98 u99 u100 u101 u102 u103 u104 u105 u106 u107 u108 u109 u110 u111 u112 u113 u114 u115 u116 u117 u118 u119 u120 u121 u122 u123 u124 u125 u126 u127 u128 u129 u130 u131 u132 u133 u134 u135 u136 u137 u138 u139 u140 u141 u142 u143 u144 u145 u146 u147 u148 u149 u150 u151 u152 u153 u154 u155 u156 u157 u158 u159 u160 u161 u162 u163 u164 u165 u166 u167 u168 u169 u170 u171 u172 u173 u174 u175 u176 u177 u178 u179 u180 u181 u182 u183 u184 u185 u186 u187 u188 u189 u190 u191 u192 u193 u194 u195 u196 u197 u198 u199 u200 u201 u202 u203 u204 u205 u206 u207 u208 u209 u210 u211 u212 u213 u214 u215 u216 u217 u218 u219 u220 u221 u222 u223 u224 u225 u226 u227 u228 u229 u230 u231 u232 u233 u234 u235 u236 u237 u238 u239 u240 u241 u242 u243 u244 u245 u246 u247 u248 u249 u250 u251 u252 u253 u254 u255 u256 u257 u258 u259 u260 u261 u262 u263 u264 u265 u266 u267 u268 u269 u270 u271 u272 u273 u274 u275 u276 u277 u278 u279 u280 u281 u282 u283 u284 u285 u286 u287 u288 u289 u290 u291 u292 u293 u294 u295 u296 u297 u298 u299 u300 u301 u302 u303 u304 u305 u306 u307 u308 u309 u310 u311 u312 u313 u314 u315 u316 u317 u318 u319 u320 u321 u322 u323 u324 u325 u326 u327 u328 u329 u330 u331 u332 u333 u334
    | some xb =>
      cases hby : pb y with
      | none =>
        cases st
        · exact restB2sn h hfs hts hx hx5 hy hy5 hxy hbx hby u0 u1 u5 u6 u7 u8 u9 u10 u13 u14 u16 u17 u18 u19 u20 u21 u22 u23 u24 u25 u26 u27 u28 u29 u30 u31 u32 u33 u34 u35 u36 u37 u38 u39 u40 u41 u42 u43 u44 u45 u46 u47 u48 u49 u50 u51 u52 u53 u54 u55 u56 u57 u58 u59 u60 u61 u62 u63 u64 u65 u66 u67 u68 u69 u70 u71 u72 u73 u74 u75 u76 u77 u78 u79 u80 u81 u82 u83 u84 u85 u86 u87 u88 u89 u90 u91 u92 u93 u94 u95 u96 u97 u98 u99 u100 u101 u102 u103 u104 u105 u106 u107 u108 u109 u110 u111 u112 u113 u114 u115 u116 u117 u118 u119 u120 u121 u122 u123 u124 u125 u126 u127 u128 u129 u130 u131 u132 u133 u134 u135 u136 u137 u138 u139 u140 u141 u142 u143 u144 u145 u146 u147 u148 u149 u150 u151 u152 u153 u154 u155 u156 u157 u158 u159 u160 u161 u162 u163 u164 u165 u166 u167 u168 u169 u170 u171 u172 u173 u174 u175 u176 u177 u178 u179 u180 u181 u182 u183 u184 u185 u186 u187 u188 u189 u190 u191 u192 u193 u194 u195 u196 u197 u198 u199 u200 u201 u202 u203 u204 u205 u206 u207 u208 u209 u210 u211 u212 u213 u214 u215 u216 u217 u218 u219 u220 u221 u222 u223 u224 u225 u226 u227 u228 u229 u230 u231 u232 u233 u234 u235 u236 u237 u238 u239 u240 u241 u242 u243 u244 u245 u246 u247 u248 u249 u250 u251 u252 u253 u254 u255 u256 u257 u258 u259 u260 u261 u262 u263 u264 u265 u266 u267 u268 u269 u270 u271 u272 u273 u274 u275 u276 u277 u278 u279 u280 u281 u282 u283 u284 u285 u286 u287 u288 u289 u290 u291 u292 u293 u294 u295 u296 u297 u298 u299 u300 u301 u302 u303 u304 u305 u306 u307 u308 u309 u310 u311 u312 u313 u314 u315 u316 u317 u318 u319 u320 u321 u322 u323 u324 u325 u326 u327 u328 u329 u330 u331 u332 u333 u334
        · exact restB1sn h hfs hts hx hx5 hy hy5 hxy hbx hby u0 u1 u5 u6 u7 u8 u9 u10 u13 u14 u16 u17 u18 u19 u20 u21 u22 u23 u24 u25 u26 u27 u28 u29 u30 u31 u32 u33 u34 u35 u36 u37 u38 u39 u40 u41 u42 u43 u44 u45 u46 u47 u48 u49 u50 u51 u52 u53 u54 u55 u56 u57 u58 u59 u60 u61 u62 u63 u64 u65 u66 u67 u68 u69 u70 u71 u72 u73 u74 u75 u76 u77 u78 u79 u80 u81 u82 u83 u84 u85 u86 u87 u88 u89 u90 u91 u92 u93 u94 u95 u96 u97 u98 u99 u100 u101 u102 u103 u104 u105 u106 u107 u108 u109 u110 u111 u112 u113 u114 u115 u116 u117 u118 u119 u120 u121 u122 u123 u124 u125 u126 u127 u128 u129 u130 u131 u132 u133 u134 u135 u136 u137 u138 u139 u140 u141 u142 u143 u144 u145 u146 u147 u148 u149 u150 u151 u152 u153 u154 u155 u156 u157 u158 u159 u160 u161 u162 u163 u164 u165 u166 u167 u168 u169 u170 u171 u172 u173 u174 u175 u176 u177 u178 u179 u180 u181 u182 u183 u184 u185 u186 u187 u188 u189 u190 u191 u192 u193 u194 u195 u196 u197 u198 u199 u200 u201 u202 u203 u204 u205 u206 u207 u208 u209 u210 u211 u212 u213 u214 u215 u216 u217 u218 u219 u220 u221 u222 u223 u224 u225 u226 u227 u228 u229 u230 u231 u232 u233 u234 u235 u236 u237 u238 u239 u240 u241 u242 u243 u244 u245 u246 u247 u248 u249 u250 u251 u252 u253 u254 u255 u256 u257 u258 u259 u260 u261 u262 u263 u264 u265 u266 u267 u268 u269 u270 u271 u272 u273 u274 u275 u276 u277 u278 u279 u280 u281 u282 u283 u284 u285 u286 u287 u288 u289 u290 u291 u292 u293 u294 u295 u296 u297 u298 u299 u300 u301 u302 u303 u304 u305 u306 u307 u308 u309 u310 u311 u312 u313 u314 u315 u316 u317 u318 u319 u320 u321 u322 u323 u324 u325 u326 u327 u328 u329 u330 u331 u332 u333 u334
      | some yb =>
        cases st
        · cases haj : aj x y
          · exact restB4 h hfs hts hx hx5 hy hy5 hxy hbx hby haj u0 u1 u5 u6 u7 u8 u9 u10 u13 u14 u16 u17 u18 u19 u20 u21 u22 u23 u24 u25 u26 u27 u28 u29 u30 u31 u32 u33 u34 u35 u36 u37 u38 u39 u40 u41 u42 u43 u44 u45 u46 u47 u48 u49 u50 u51 u52 u53 u54 u55 u56 u57 u58 u59 u60 u61 u62 u63 u64 u65 u66 u67 u68 u69 u70 u71 u72 u73 u74 u75 u76 u77 u78 u79 u80 u81 u82 u83 u84 u85 u86 u87 u88 u89 u90 u91 u92 u93 u94 u95 u96 u97 u98 u99 u100 u101 u102 u103 u104 u105 u106 u107 u108 u109 u110 u111 u112 u113 u114 u115 u116 u117 u118 u119 u120 u121 u122 u123 u124 u125 u126 u127 u128 u129 u130 u131 u132 u133 u134 u135 u136 u137 u138 u139 u140 u141 u142 u143 u144 u145 u146 u147 u148 u149 u150 u151 u152 u153 u154 u155 u156 u157 u158 u159 u160 u161 u162 u163 u164 u165 u166 u167 u168 u169 u170 u171 u172 u173 u174 u175 u176 u177 u178 u179 u180 u181 u182 u183 u184 u185 u186 u187 u188 u189 u190 u191 u192 u193 u194 u195 u196 u197 u198 u199 u200 u201 u202 u203 u204 u205 u206 u207 u208 u209 u210 u211 u212 u213 u214 u215 u216 u217 u218 u219 u220 u221 u222 u223 u224 u225 u226 u227 u228 u229 u230 u231 u232 u233 u234 u235 u236 u237 u238 u239 u240 u241 u242 u243 u244 u245 u246 u247 u248 u249 u250 u251 u252 u253 u254 u255 u256 u257 u258 u259 u260 u261 u262 u263 u264 u265 u266 u267 u268 u269 u270 u271 u272 u273 u274 u275 u276 u277 u278 u279 u280 u281 u282 u283 u284 u285 u286 u287 u288 u289 u290 u291 u292 u293 u294 u295 u296 u297 u298 u299 u300 u301 u302 u303 u304 u305 u306 u307 u308 u309 u310 u311 u312 u313 u314 u315 u316 u317 u318 u319 u320 u321 u322 u323 u324 u325 u326 u327 u328 u329 u330 u331 u332 u333 u334
          · exact restB3 h hfs hts hx hx5 hy hy5 hxy hbx hby haj u0 u1 u5 u6 u7 u8 u9 u10 u13 u14 u16 u17 u18 u19 u20 u21 u22 u23 u24 u25 u26 u27 u28 u29 u30 u31 u32 u33 u34 u35 u36 u37 u38 u39 u40 u41 u42 u43 u44 u45 u46 u47 u48 u49 u50 u51 u52 u53 u54 u55 u56 u57 u58 u59 u60 u61 u62 u63 u64 u65 u66 u67 u68 u69 u70 u71 u72 u73 u74 u75 u76 u77 u78 u79 u80 u81 u82 u83 u84 u85 u86 u87 u88 u89 u90 u91 u92 u93 u94 u95 u96 u97 u98 u99 u100 u101 u102 u103 u104 u105 u106 u107 u108 u109 u110 u111 u112 u113 u114 u115 u116 u117 u118 u119 u120 u121 u122 u123 u124 u125 u126 u127 u128 u129 u130 u131 u132 u133 u134 u135 u136 u137 u138 u139 u140 u141 u142 u143 u144 u145 u146 u147 u148 u149 u150 u151 u152 u153 u154 u155 u156 u157 u158 u159 u160 u161 u162 u163 u164 u165 u166 u167 u168 u169 u170 u171 u172 u173 u174 u175 u176 u177 u178 u179 u180 u181 u182 u183 u184 u185 u186 u187 u188 u189 u190 u191 u192 u193 u194 u195 u196 u197 u198 u199 u200 u201 u202 u203 u204 u205 u206 u207 u208 u209 u210 u211 u212 u213 u214 u215 u216 u217 u218 u219 u220 u221 u222 u223 u224 u225 u226 u227 u228 u229 u230 u231 u232 u233 u234 u235 u236 u237 u238 u239 u240 u241 u242 u243 u244 u245 u246 u247 u248 u249 u250 u251 u252 u253 u254 u255 u256 u257 u258 u259 u260 u261 u262 u263 u264 u265 u266 u267 u268 u269 u270 u271 u272 u273 u274 u275 u276 u277 u278 u279 u280 u281 u282 u283 u284 u285 u286 u287 u288 u289 u290 u291 u292 u293 u294 u295 u296 u297 u298 u299 u300 u301 u302 u303 u304 u305 u306 u307 u308 u309 u310 u311 u312 u313 u314 u315 u316 u317 u318 u319 u320 u321 u322 u323 u324 u325 u326 u327 u328 u329 u330 u331 u332 u333 u334
        · exact restB1ss h hfs hts hx hx5 hy hy5 hxy hbx hby u0 u1 u5 u6 u7 u8 u9 u10 u13 u14 u16 u17 u18 u19 u20 u21 u22 u23 u24 u25 u26 u27 u28 u29 u30 u31 u32 u33 u34 u35 u36 u37 u38 u39 u40 u41 u42 u43 u44 u45 u46 u47 u48 u49 u50 u51 u52 u53 u54 u55 u56 u57 u58 u59 u60 u61 u62 u63 u64 u65 u66 u67 u68 u69 u70 u71 u72 u73 u74 u75 u76 u77 u78 u79 u80 u81 u82 u83 u84 u85 u86 u87 u88 u89 u90 u91 u92 u93 u94 u95 u96 u97 u98 u99 u100 u101 u102 u103 u104 u105 u106 u107 u108 u109 u110 u111 u112 u113 u114 u115 u116 u117 u118 u119 u120 u121 u122 u123 u124 u125 u126 u127 u128 u129 u130 u131 u132 u133 u134 u135 u136 u137 u138 u139 u140 u141 u142 u143 u144 u145 u146 u147 u148 u149 u150 u151 u152 u153 u154 u155 u156 u157 u158 u159 u160 u161 u162 u163 u164 u165 u166 u167 u168 u169 u170 u171 u172 u173 u174 u175 u176 u177 u178 u179 u180 u181 u182 u183 u184 u185 u186 u187 u188 u189 u190 u191 u192 u193 u194 u195 u196 u197 u198 u199 u200 u201 u202 u203 u204 u205 u206 u207 u208 u209 u210 u211 u212 u213 u214 u215 u216 u217 u218 u219 u220 u221 u222 u223 u224 u225 u226 u227 u228 u229 u230 u231 u232 u233 u234 u235 u236 u237 u238 u239 u240 u241 u242 u243 u244 u245 u246 u247 u248 u249 u250 u251 u252 u253 u254 u255 u256 u257 u258 u259 u260 u261 u262 u263 u264 u265 u266 u267 u268 u269 u270 u271 u272 u273 u274 u275 u276 u277 u278 u279 u280 u281 u282 u283 u284 u285 u286 u287 u288 u289 u290 u291 u292 u293 u294 u295 u296 u297 u298 u299 u300 u301 u302 u303 u304 u305 u306 u307 u308 u309 u310 u311 u312 u313 u314 u315 u316 u317 u318 u319 u320 u321 u322 u323 u324 u325 u326 u327 u328 u329 u330 u331 u332 u333 u334
end Go.Proofs.YbulkvluFmt.Con
