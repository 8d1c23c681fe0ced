/-
  The law on Resolve's index: its end, by what the index names.
-/
import Derived.Test.Qxb6618677aZb
import Derived.Test.Qxb6618677aWs1
import Derived.LaidEqlPtr
import Derived.Test.Qxb6618677aZw
namespace Go.Proofs.Qxb6618677a
open Go.RowKit

theorem Try.eqp (w : World) (b : Nat) : (Op.equalIn 9999 33 (.pointer (some ⟨b, 0, none⟩)) (.pointer (some ⟨b, 0, none⟩))).run Try.prog w = .ok true w := by
  obtain ⟨i, hi, _⟩ := Option.map_eq_some_iff.1 Try.info74
  have h : ∀ d : Nat, (Op.equalIn (d + 1) 33 (.pointer (some ⟨b, 0, none⟩)) (.pointer (some ⟨b, 0, none⟩))).run Try.prog w = .ok true w := fun d => by
    simp [Op.equalIn, run_underlying Try.underlying33, sizeOf, typeInfo, hi, run_sameAddr_same]
  exact h 9998
theorem Try.eqn (w : World) : (Op.equalIn 9999 33 (.pointer none) (.pointer none)).run Try.prog w = .ok true w := by kernel_rfl

set_option maxRecDepth 100000 in
set_option maxHeartbeats 4000000 in
theorem l6_zero (B0 g o c b20 b21 b24 b27 b30 bt i0 x0 na ca c1 cv1 c2 : Nat) (Pa V : List ByteArray) (nm : ByteArray) (nestA okA : Bool) (va p1 v1 p2 : Option Addr) (w0 w : World)
    (a0 : w.cell? ⟨b21, 0, none⟩ = some (.string nm)) (a1 : w.cell? ⟨b21, 1, none⟩ = some (.bool nestA)) (e0 : w.cell? ⟨b27, 0, none⟩ = some (.string nm)) (e1 : w.cell? ⟨b27, 1, none⟩ = some (.bool nestA))
    (f0 : w.cell? ⟨b20, 0, none⟩ = some (.pointer (some ⟨bt, 0, none⟩)))
    (f1 : w.cell? ⟨b20, 1, none⟩ = some (.int .i64 i0))
    (f2 : w.cell? ⟨b20, 2, none⟩ = some (.int .i64 x0))
    (f3 : w.cell? ⟨b20, 3, none⟩ = some (.int .i64 0))
    (k0 : w.cell? ⟨b30, 0, none⟩ = some (.pointer (some ⟨bt, 0, none⟩)))
    (k1 : w.cell? ⟨b30, 1, none⟩ = some (.int .i64 i0))
    (k2 : w.cell? ⟨b30, 2, none⟩ = some (.int .i64 x0))
    (k3 : w.cell? ⟨b30, 3, none⟩ = some (.int .i64 0))
    (HS : Hid (SR w va V.length V ∧ SR w v1 V.length V ∧ SR w p1 Pa.length Pa ∧ SR w p2 Pa.length Pa ∧ Below B0 w0 w)) (u2 u3 u4 u5 u6 u7 u8 u9 u10 u11 u12 u13 u14 u15 u16 u17 u18 u19 u35 u36 u37 u38 u39 u40 u41 u42 u43 u44 u45 u46 u47 u48 u49 u50 u51 u52 u53 u54 u55 u56 u57 u58 u59 u60 u61 u62 u63 u64 u65 u66 u67 u68 u69 u70 u71 u72 u73 u74 u75 u76 u77 u78 u79 u80 u81 u82 u83 u84 u85 u86 u87 u88 u89 u90 u91 u92 u93 u94 u95 u96 u97 u98 u99 u100 u101 u102 u103 u104 u105 u106 u107 u108 u109 u110 u111 u112 u113 u114 u115 u116 u117 u118 u119 u120 u121 u122 u123 u124 u125 u126 u127 u128 u129 u130 u131 u132 u133 u134 u135 u136 u137 u138 u139 u140 u141 u142 u143 u144 u145 u146 u147 u148 u149 u150 u151 u152 u153 u154 u155 u156 u157 u158 u159 u160 u161 u162 u163 u164 u165 u166 u167 u168 u169 u170 u171 u172 u173 u174 u175 u176 u177 u178 u179 u180 u181 u182 u183 u184 u185 u186 u187 u188 u189 u190 u191 u192 u193 u194 u195 u196 u197 u198 u199 u200 u201 u202 u203 u204 u205 u206 u207 u208 u209 u210 u211 u212 u213 u214 u215 u216 u217 u218 u219 u220 u221 u222 u223 u224 u225 u226 u227 u228 u229 u230 u231 u232 u233 u234 u235 u236 u237 u238 u239 u240 u241 u242 u243 u244 u245 u246 u247 u248 u249 u250 u251 u252 u253 u254 u255 u256 u257 u258 u259 u260 u261 u262 u263 u264 u265 u266 u267 u268 u269 u270 u271 u272 u273 u274 u275 u276 u277 u278 u279 u280 u281 u282 u283 u284 u285 u286 u287 u288 u289 u290 u291 u292 u293 u294 u295 u296 u297 u298 u299 u300 u301 u302 u303 u304 u305 u306 u307 u308 u309 u310 u311 u312 u313 u314 u315 u316 u317 u318 u319 u320 u321 u322 u323 u324 u325 u326 u327 u328 u329 u330 u331 u332 u333 u334 u335 u336 u337 u338 u339 u340 u341 u342 u343 u344 u345 u346 u347 u348 u349 u350 u351 u352 u353 u354 u355 u356 u357 u358 u359 u360 u361 u362 u363 u364 u365 u366 u367 u368 u369 u370 u371 u372 u373 u374 u375 u376 u377 u378 u379 u380 u381 u382 u383 u384 u385 u386 u387 u388 u389 u390 u391 u392 u393 u394 u395 u396 u397 : Value) :
    Code.wp Try.prog (ctail 22 (Try.f6.body.getD .skip)) (bodyPost Try.prog Try.f6 fun e w' => e = .returned (.bool true) ∧ Below B0 w0 w') { tmps := #[.slice (some ⟨g, o, none⟩) (Pa.length + 1) c, .int .i64 0, u2, u3, u4, u5, u6, u7, u8, u9, u10, u11, u12, u13, u14, u15, u16, u17, u18, u19, .pointer (some ⟨b20, 0, none⟩), .pointer (some ⟨b21, 0, none⟩), .bool okA, .slice va V.length ca, .pointer (some ⟨b24, 0, none⟩), .slice p1 Pa.length c1, .int .i64 0, .pointer (some ⟨b27, 0, none⟩), .bool okA, .slice v1 V.length cv1, .pointer (some ⟨b30, 0, none⟩), .slice p2 Pa.length c2, .int .i64 0, .int .i64 (Pa.length : Int), .int .i64 (na : Int), u35, u36, u37, u38, u39, u40, u41, u42, u43, u44, u45, u46, u47, u48, u49, u50, u51, u52, u53, u54, u55, u56, u57, u58, u59, u60, u61, u62, u63, u64, u65, u66, u67, u68, u69, u70, u71, u72, u73, u74, u75, u76, u77, u78, u79, u80, u81, u82, u83, u84, u85, u86, u87, u88, u89, u90, u91, u92, u93, u94, u95, u96, u97, u98, u99, u100, u101, u102, u103, u104, u105, u106, u107, u108, u109, u110, u111, u112, u113, u114, u115, u116, u117, u118, u119, u120, u121, u122, u123, u124, u125, u126, u127, u128, u129, u130, u131, u132, u133, u134, u135, u136, u137, u138, u139, u140, u141, u142, u143, u144, u145, u146, u147, u148, u149, u150, u151, u152, u153, u154, u155, u156, u157, u158, u159, u160, u161, u162, u163, u164, u165, u166, u167, u168, u169, u170, u171, u172, u173, u174, u175, u176, u177, u178, u179, u180, u181, u182, u183, u184, u185, u186, u187, u188, u189, u190, u191, u192, u193, u194, u195, u196, u197, u198, u199, u200, u201, u202, u203, u204, u205, u206, u207, u208, u209, u210, u211, u212, u213, u214, u215, u216, u217, u218, u219, u220, u221, u222, u223, u224, u225, u226, u227, u228, u229, u230, u231, u232, u233, u234, u235, u236, u237, u238, u239, u240, u241, u242, u243, u244, u245, u246, u247, u248, u249, u250, u251, u252, u253, u254, u255, u256, u257, u258, u259, u260, u261, u262, u263, u264, u265, u266, u267, u268, u269, u270, u271, u272, u273, u274, u275, u276, u277, u278, u279, u280, u281, u282, u283, u284, u285, u286, u287, u288, u289, u290, u291, u292, u293, u294, u295, u296, u297, u298, u299, u300, u301, u302, u303, u304, u305, u306, u307, u308, u309, u310, u311, u312, u313, u314, u315, u316, u317, u318, u319, u320, u321, u322, u323, u324, u325, u326, u327, u328, u329, u330, u331, u332, u333, u334, u335, u336, u337, u338, u339, u340, u341, u342, u343, u344, u345, u346, u347, u348, u349, u350, u351, u352, u353, u354, u355, u356, u357, u358, u359, u360, u361, u362, u363, u364, u365, u366, u367, u368, u369, u370, u371, u372, u373, u374, u375, u376, u377, u378, u379, u380, u381, u382, u383, u384, u385, u386, u387, u388, u389, u390, u391, u392, u393, u394, u395, u396, u397], defers := [] } w := by
  conv in ctail _ _ => whnf
  have hep := Try.eqp
  go_wp2_with fail
  refine (same_eq v1 va V.length cv1 ca V _ HS.out.2.1 HS.out.1).mono ?_
  rintro e w' ⟨rfl, nq, rfl⟩
  go_wp2_with fail
  refine (same_eq p2 p1 Pa.length c2 c1 Pa _ (HS.out.2.2.2.1.below (below_drewN (Below.refl _ _) _)) (HS.out.2.2.1.below (below_drewN (Below.refl _ _) _))).mono ?_
  rintro e w' ⟨rfl, nq2, rfl⟩
  go_wp2
  go_ret
  exact ⟨rfl, below_drewN HS.out.2.2.2.2 _⟩

set_option maxRecDepth 100000 in
set_option maxHeartbeats 4000000 in
theorem l6_miss (B0 g o c b20 b21 b24 b27 b30 na ca c1 : Nat) (Pa V : List ByteArray) (okA : Bool) (va p1 : Option Addr) (ix : Int) (w0 w : World) (hix : ix ≠ 0) (hmiss : na = 0 ∨ ix < 1 ∨ (V.length : Int) < ix)
    (e0 : w.cell? ⟨b27, 0, none⟩ = some (.string ⟨#[]⟩)) (e1 : w.cell? ⟨b27, 1, none⟩ = some (.bool false))
    (k0 : w.cell? ⟨b30, 0, none⟩ = some (.pointer none))
    (k1 : w.cell? ⟨b30, 1, none⟩ = some (.int .i64 0))
    (k2 : w.cell? ⟨b30, 2, none⟩ = some (.int .i64 0))
    (k3 : w.cell? ⟨b30, 3, none⟩ = some (.int .i64 0))
    (HB : Hid (Below B0 w0 w)) (u2 u3 u4 u5 u6 u7 u8 u9 u10 u11 u12 u13 u14 u15 u16 u17 u18 u19 u35 u36 u37 u38 u39 u40 u41 u42 u43 u44 u45 u46 u47 u48 u49 u50 u51 u52 u53 u54 u55 u56 u57 u58 u59 u60 u61 u62 u63 u64 u65 u66 u67 u68 u69 u70 u71 u72 u73 u74 u75 u76 u77 u78 u79 u80 u81 u82 u83 u84 u85 u86 u87 u88 u89 u90 u91 u92 u93 u94 u95 u96 u97 u98 u99 u100 u101 u102 u103 u104 u105 u106 u107 u108 u109 u110 u111 u112 u113 u114 u115 u116 u117 u118 u119 u120 u121 u122 u123 u124 u125 u126 u127 u128 u129 u130 u131 u132 u133 u134 u135 u136 u137 u138 u139 u140 u141 u142 u143 u144 u145 u146 u147 u148 u149 u150 u151 u152 u153 u154 u155 u156 u157 u158 u159 u160 u161 u162 u163 u164 u165 u166 u167 u168 u169 u170 u171 u172 u173 u174 u175 u176 u177 u178 u179 u180 u181 u182 u183 u184 u185 u186 u187 u188 u189 u190 u191 u192 u193 u194 u195 u196 u197 u198 u199 u200 u201 u202 u203 u204 u205 u206 u207 u208 u209 u210 u211 u212 u213 u214 u215 u216 u217 u218 u219 u220 u221 u222 u223 u224 u225 u226 u227 u228 u229 u230 u231 u232 u233 u234 u235 u236 u237 u238 u239 u240 u241 u242 u243 u244 u245 u246 u247 u248 u249 u250 u251 u252 u253 u254 u255 u256 u257 u258 u259 u260 u261 u262 u263 u264 u265 u266 u267 u268 u269 u270 u271 u272 u273 u274 u275 u276 u277 u278 u279 u280 u281 u282 u283 u284 u285 u286 u287 u288 u289 u290 u291 u292 u293 u294 u295 u296 u297 u298 u299 u300 u301 u302 u303 u304 u305 u306 u307 u308 u309 u310 u311 u312 u313 u314 u315 u316 u317 u318 u319 u320 u321 u322 u323 u324 u325 u326 u327 u328 u329 u330 u331 u332 u333 u334 u335 u336 u337 u338 u339 u340 u341 u342 u343 u344 u345 u346 u347 u348 u349 u350 u351 u352 u353 u354 u355 u356 u357 u358 u359 u360 u361 u362 u363 u364 u365 u366 u367 u368 u369 u370 u371 u372 u373 u374 u375 u376 u377 u378 u379 u380 u381 u382 u383 u384 u385 u386 u387 u388 u389 u390 u391 u392 u393 u394 u395 u396 u397 : Value) :
    Code.wp Try.prog (ctail 22 (Try.f6.body.getD .skip)) (bodyPost Try.prog Try.f6 fun e w' => e = .returned (.bool true) ∧ Below B0 w0 w') { tmps := #[.slice (some ⟨g, o, none⟩) (Pa.length + 1) c, .int .i64 ix, u2, u3, u4, u5, u6, u7, u8, u9, u10, u11, u12, u13, u14, u15, u16, u17, u18, u19, .pointer (some ⟨b20, 0, none⟩), .pointer (some ⟨b21, 0, none⟩), .bool okA, .slice va V.length ca, .pointer (some ⟨b24, 0, none⟩), .slice p1 Pa.length c1, .int .i64 0, .pointer (some ⟨b27, 0, none⟩), .bool false, .slice none 0 0, .pointer (some ⟨b30, 0, none⟩), .slice none 0 0, .int .i64 0, .int .i64 (Pa.length : Int), .int .i64 (na : Int), u35, u36, u37, u38, u39, u40, u41, u42, u43, u44, u45, u46, u47, u48, u49, u50, u51, u52, u53, u54, u55, u56, u57, u58, u59, u60, u61, u62, u63, u64, u65, u66, u67, u68, u69, u70, u71, u72, u73, u74, u75, u76, u77, u78, u79, u80, u81, u82, u83, u84, u85, u86, u87, u88, u89, u90, u91, u92, u93, u94, u95, u96, u97, u98, u99, u100, u101, u102, u103, u104, u105, u106, u107, u108, u109, u110, u111, u112, u113, u114, u115, u116, u117, u118, u119, u120, u121, u122, u123, u124, u125, u126, u127, u128, u129, u130, u131, u132, u133, u134, u135, u136, u137, u138, u139, u140, u141, u142, u143, u144, u145, u146, u147, u148, u149, u150, u151, u152, u153, u154, u155, u156, u157, u158, u159, u160, u161, u162, u163, u164, u165, u166, u167, u168, u169, u170, u171, u172, u173, u174, u175, u176, u177, u178, u179, u180, u181, u182, u183, u184, u185, u186, u187, u188, u189, u190, u191, u192, u193, u194, u195, u196, u197, u198, u199, u200, u201, u202, u203, u204, u205, u206, u207, u208, u209, u210, u211, u212, u213, u214, u215, u216, u217, u218, u219, u220, u221, u222, u223, u224, u225, u226, u227, u228, u229, u230, u231, u232, u233, u234, u235, u236, u237, u238, u239, u240, u241, u242, u243, u244, u245, u246, u247, u248, u249, u250, u251, u252, u253, u254, u255, u256, u257, u258, u259, u260, u261, u262, u263, u264, u265, u266, u267, u268, u269, u270, u271, u272, u273, u274, u275, u276, u277, u278, u279, u280, u281, u282, u283, u284, u285, u286, u287, u288, u289, u290, u291, u292, u293, u294, u295, u296, u297, u298, u299, u300, u301, u302, u303, u304, u305, u306, u307, u308, u309, u310, u311, u312, u313, u314, u315, u316, u317, u318, u319, u320, u321, u322, u323, u324, u325, u326, u327, u328, u329, u330, u331, u332, u333, u334, u335, u336, u337, u338, u339, u340, u341, u342, u343, u344, u345, u346, u347, u348, u349, u350, u351, u352, u353, u354, u355, u356, u357, u358, u359, u360, u361, u362, u363, u364, u365, u366, u367, u368, u369, u370, u371, u372, u373, u374, u375, u376, u377, u378, u379, u380, u381, u382, u383, u384, u385, u386, u387, u388, u389, u390, u391, u392, u393, u394, u395, u396, u397], defers := [] } w := by
  conv in ctail _ _ => whnf
  have hep := Try.eqn
  have hib : (ix == 0) = false := by simp [hix]
  have HX : Hid (ix ≠ 0) := hix
  clear hix
  by_cases h1 : na = 0
  · subst h1
    clear hmiss
    go_wp2
    all_goals (go_ret; exact ⟨rfl, HB.out⟩)
  · have h1b : decide ((0 : Int) < (na : Int)) = true := by simp; omega
    by_cases h2 : ix < 1
    · have h2b : decide ((1 : Int) ≤ ix) = false := by simp; omega
      clear hmiss h1
      go_wp2
      all_goals (go_ret; exact ⟨rfl, HB.out⟩)
    · have h2b : decide ((1 : Int) ≤ ix) = true := by simp; omega
      have h3b : decide (ix ≤ (V.length : Int)) = false := by simp; omega
      clear hmiss h1
      go_wp2
      all_goals (go_ret; exact ⟨rfl, HB.out⟩)

set_option maxRecDepth 100000 in
set_option maxHeartbeats 4000000 in
theorem l6_hit (B0 g o c b20 b21 b24 b27 b30 bt i0 x0 na ca c1 cv1 c2 ga oa gv : Nat) (Pa V : List ByteArray) (nm q : ByteArray) (okA : Bool) (p1 p2 : Option Addr) (k : Nat) (w0 w : World) (h1 : 0 < na) (h3 : (k : Int) + 1 ≤ (V.length : Int)) (hpl : (Pa.length : Int) ≤ 1048576) (hVl : (V.length : Int) ≤ 4398046511104) (hoc : (Pa.length : Int) + 1 ≤ c)
    (e0 : w.cell? ⟨b27, 0, none⟩ = some (.string nm)) (e1 : w.cell? ⟨b27, 1, none⟩ = some (.bool false)) (d0 : w.cell? ⟨gv, 0, none⟩ = some (.string q)) (d1 : w.cell? ⟨ga, oa + k, none⟩ = some (.string q)) (d2 : w.cell? ⟨g, o + Pa.length, none⟩ = some (.string nm))
    (f0 : w.cell? ⟨b20, 0, none⟩ = some (.pointer (some ⟨bt, 0, none⟩)))
    (f1 : w.cell? ⟨b20, 1, none⟩ = some (.int .i64 i0))
    (f2 : w.cell? ⟨b20, 2, none⟩ = some (.int .i64 x0))
    (f3 : w.cell? ⟨b20, 3, none⟩ = some (.int .i64 0))
    (kk0 : w.cell? ⟨b30, 0, none⟩ = some (.pointer (some ⟨bt, 0, none⟩)))
    (kk1 : w.cell? ⟨b30, 1, none⟩ = some (.int .i64 i0))
    (kk2 : w.cell? ⟨b30, 2, none⟩ = some (.int .i64 x0))
    (kk3 : w.cell? ⟨b30, 3, none⟩ = some (.int .i64 0))
    (HS : Hid (SR w p2 Pa.length Pa ∧ SR w (some ⟨g, o, none⟩) Pa.length Pa ∧ Below B0 w0 w)) (u2 u3 u4 u5 u6 u7 u8 u9 u10 u11 u12 u13 u14 u15 u16 u17 u18 u19 u35 u36 u37 u38 u39 u40 u41 u42 u43 u44 u45 u46 u47 u48 u49 u50 u51 u52 u53 u54 u55 u56 u57 u58 u59 u60 u61 u62 u63 u64 u65 u66 u67 u68 u69 u70 u71 u72 u73 u74 u75 u76 u77 u78 u79 u80 u81 u82 u83 u84 u85 u86 u87 u88 u89 u90 u91 u92 u93 u94 u95 u96 u97 u98 u99 u100 u101 u102 u103 u104 u105 u106 u107 u108 u109 u110 u111 u112 u113 u114 u115 u116 u117 u118 u119 u120 u121 u122 u123 u124 u125 u126 u127 u128 u129 u130 u131 u132 u133 u134 u135 u136 u137 u138 u139 u140 u141 u142 u143 u144 u145 u146 u147 u148 u149 u150 u151 u152 u153 u154 u155 u156 u157 u158 u159 u160 u161 u162 u163 u164 u165 u166 u167 u168 u169 u170 u171 u172 u173 u174 u175 u176 u177 u178 u179 u180 u181 u182 u183 u184 u185 u186 u187 u188 u189 u190 u191 u192 u193 u194 u195 u196 u197 u198 u199 u200 u201 u202 u203 u204 u205 u206 u207 u208 u209 u210 u211 u212 u213 u214 u215 u216 u217 u218 u219 u220 u221 u222 u223 u224 u225 u226 u227 u228 u229 u230 u231 u232 u233 u234 u235 u236 u237 u238 u239 u240 u241 u242 u243 u244 u245 u246 u247 u248 u249 u250 u251 u252 u253 u254 u255 u256 u257 u258 u259 u260 u261 u262 u263 u264 u265 u266 u267 u268 u269 u270 u271 u272 u273 u274 u275 u276 u277 u278 u279 u280 u281 u282 u283 u284 u285 u286 u287 u288 u289 u290 u291 u292 u293 u294 u295 u296 u297 u298 u299 u300 u301 u302 u303 u304 u305 u306 u307 u308 u309 u310 u311 u312 u313 u314 u315 u316 u317 u318 u319 u320 u321 u322 u323 u324 u325 u326 u327 u328 u329 u330 u331 u332 u333 u334 u335 u336 u337 u338 u339 u340 u341 u342 u343 u344 u345 u346 u347 u348 u349 u350 u351 u352 u353 u354 u355 u356 u357 u358 u359 u360 u361 u362 u363 u364 u365 u366 u367 u368 u369 u370 u371 u372 u373 u374 u375 u376 u377 u378 u379 u380 u381 u382 u383 u384 u385 u386 u387 u388 u389 u390 u391 u392 u393 u394 u395 u396 u397 : Value) :
    Code.wp Try.prog (ctail 22 (Try.f6.body.getD .skip)) (bodyPost Try.prog Try.f6 fun e w' => e = .returned (.bool true) ∧ Below B0 w0 w') { tmps := #[.slice (some ⟨g, o, none⟩) (Pa.length + 1) c, .int .i64 ((k : Int) + 1), u2, u3, u4, u5, u6, u7, u8, u9, u10, u11, u12, u13, u14, u15, u16, u17, u18, u19, .pointer (some ⟨b20, 0, none⟩), .pointer (some ⟨b21, 0, none⟩), .bool okA, .slice (some ⟨ga, oa, none⟩) V.length ca, .pointer (some ⟨b24, 0, none⟩), .slice p1 Pa.length c1, .int .i64 0, .pointer (some ⟨b27, 0, none⟩), .bool true, .slice (some ⟨gv, 0, none⟩) 1 cv1, .pointer (some ⟨b30, 0, none⟩), .slice p2 Pa.length c2, .int .i64 ((k : Int) + 1), .int .i64 (Pa.length : Int), .int .i64 (na : Int), u35, u36, u37, u38, u39, u40, u41, u42, u43, u44, u45, u46, u47, u48, u49, u50, u51, u52, u53, u54, u55, u56, u57, u58, u59, u60, u61, u62, u63, u64, u65, u66, u67, u68, u69, u70, u71, u72, u73, u74, u75, u76, u77, u78, u79, u80, u81, u82, u83, u84, u85, u86, u87, u88, u89, u90, u91, u92, u93, u94, u95, u96, u97, u98, u99, u100, u101, u102, u103, u104, u105, u106, u107, u108, u109, u110, u111, u112, u113, u114, u115, u116, u117, u118, u119, u120, u121, u122, u123, u124, u125, u126, u127, u128, u129, u130, u131, u132, u133, u134, u135, u136, u137, u138, u139, u140, u141, u142, u143, u144, u145, u146, u147, u148, u149, u150, u151, u152, u153, u154, u155, u156, u157, u158, u159, u160, u161, u162, u163, u164, u165, u166, u167, u168, u169, u170, u171, u172, u173, u174, u175, u176, u177, u178, u179, u180, u181, u182, u183, u184, u185, u186, u187, u188, u189, u190, u191, u192, u193, u194, u195, u196, u197, u198, u199, u200, u201, u202, u203, u204, u205, u206, u207, u208, u209, u210, u211, u212, u213, u214, u215, u216, u217, u218, u219, u220, u221, u222, u223, u224, u225, u226, u227, u228, u229, u230, u231, u232, u233, u234, u235, u236, u237, u238, u239, u240, u241, u242, u243, u244, u245, u246, u247, u248, u249, u250, u251, u252, u253, u254, u255, u256, u257, u258, u259, u260, u261, u262, u263, u264, u265, u266, u267, u268, u269, u270, u271, u272, u273, u274, u275, u276, u277, u278, u279, u280, u281, u282, u283, u284, u285, u286, u287, u288, u289, u290, u291, u292, u293, u294, u295, u296, u297, u298, u299, u300, u301, u302, u303, u304, u305, u306, u307, u308, u309, u310, u311, u312, u313, u314, u315, u316, u317, u318, u319, u320, u321, u322, u323, u324, u325, u326, u327, u328, u329, u330, u331, u332, u333, u334, u335, u336, u337, u338, u339, u340, u341, u342, u343, u344, u345, u346, u347, u348, u349, u350, u351, u352, u353, u354, u355, u356, u357, u358, u359, u360, u361, u362, u363, u364, u365, u366, u367, u368, u369, u370, u371, u372, u373, u374, u375, u376, u377, u378, u379, u380, u381, u382, u383, u384, u385, u386, u387, u388, u389, u390, u391, u392, u393, u394, u395, u396, u397], defers := [] } w := by
  conv in ctail _ _ => whnf
  have hep := Try.eqp
  have hib : ((k : Int) + 1 == 0) = false := by simp; omega
  have h1b : decide ((0 : Int) < (na : Int)) = true := by simp; omega
  have h2b : decide ((1 : Int) ≤ (k : Int) + 1) = true := by simp; omega
  have h3b : decide ((k : Int) + 1 ≤ (V.length : Int)) = true := by simp; omega
  have h4 : (0 : Int) ≤ (k : Int) := by omega
  have h5 : (k : Int) < (V.length : Int) := by omega
  have h6 : (Pa.length : Int) < (Pa.length : Int) + 1 := by omega
  go_wp2_with fail
  go_quiet ((go_at_call 25; refine (same_eq p2 (some ⟨g, o, none⟩) Pa.length c2 c Pa _ (HS.out.1.below (below_drewN (Below.refl _ _) _)) (HS.out.2.1.below (below_drewN (Below.refl _ _) _))).mono ?_; rintro e w' ⟨rfl, nq, rfl⟩; exact ⟨rfl, _, World.drewN_drewN _ _ _⟩))
  go_wp2
  go_ret
  exact ⟨rfl, below_drewN HS.out.2.2 _⟩
end Go.Proofs.Qxb6618677a
