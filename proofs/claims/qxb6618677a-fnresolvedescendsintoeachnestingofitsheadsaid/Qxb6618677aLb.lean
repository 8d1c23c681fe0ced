/-
  The law on Resolve's index: its midst.
-/
import Derived.Test.Qxb6618677aLc
namespace Go.Proofs.Qxb6618677a
open Go.RowKit

set_option maxRecDepth 100000 in
set_option maxHeartbeats 4000000 in
theorem l6_mid (B0 g o c b20 b21 b24 bt i0 x0 ca c1 base s bd cn : Nat) (Pa : List ByteArray) (nm : ByteArray) (nestA okA : Bool) (va p1 ao : Option Addr) (ix : Int) (T X : ByteArray) (ns R : List Stif.Node) (ts : List Stif.Tok) (op : List Nat) (j0 y0 na : Nat) (V : List ByteArray) (w0 w : World)
    (hpa : StrRow w (.slice (some ⟨g, o, none⟩) (Pa.length + 1) c) g (Pa ++ [nm])) (hPl : Pa.length ≤ 1048576)
    (hn : w.ownsRow base 44 8 (.slice ao ns.length cn) ns.length (rowOf ns)) (hlen : ns.length ≤ 1048576) (hT : T.size ≤ 1048576) (hX : X.size ≤ 1048576) (hR : RunIs ns ((s : Int) - 1) s bd R) (hd : ∀ d ∈ ns, d.depth ≤ 1048576) (hx : ∀ d ∈ ns, d.txt + d.n ≤ X.size) (hl : R.length = (Stif.runN 0 ts).length)
    (hm : ∀ (i : Nat) nd p, R[i]? = some nd → (Stif.runN 0 ts)[i]? = some p → Stif.Meets bd nd p) (hch : Stif.chain T X.size j0 y0 ts T.size X.size) (h1 : op.length = bd) (h2 : Stif.parentOf op = (s : Int) - 1) (h3 : ns.drop s = Stif.nodesOf op s ts)
    (hna : na = (named X Pa nm false ts).length) (hV : V = allv X ts (named X Pa nm false ts)) (hok : okA = (decide (0 < na) || decide (0 < (named X Pa nm true ts).length))) (hne : nestA = decide (na = 0))
    (a0 : w.cell? ⟨b21, 0, none⟩ = some (.string nm)) (a1 : w.cell? ⟨b21, 1, none⟩ = some (.bool nestA))
    (f0 : w.cell? ⟨b20, 0, none⟩ = some (.pointer (some ⟨bt, 0, none⟩)))
    (f1 : w.cell? ⟨b20, 1, none⟩ = some (.int .i64 i0))
    (f2 : w.cell? ⟨b20, 2, none⟩ = some (.int .i64 x0))
    (f3 : w.cell? ⟨b20, 3, none⟩ = some (.int .i64 0))
    (d0 : w.cell? ⟨b24, 0, none⟩ = some (.pointer (some ⟨bt, 0, none⟩)))
    (d1 : w.cell? ⟨b24, 1, none⟩ = some (.int .i64 i0))
    (d2 : w.cell? ⟨b24, 2, none⟩ = some (.int .i64 x0))
    (d3 : w.cell? ⟨b24, 3, none⟩ = some (.int .i64 0))
    (HS : Hid (SR w va V.length V ∧ SR w p1 Pa.length Pa ∧ Below B0 w0 w)) (x27 x28 x29 x30 x31 x32 : Value)
    (hC : ∀ (u2 u3 u4 u5 u6 u7 u8 u9 u10 u11 u12 u13 u14 u15 u16 u17 u18 u19 u35 u36 u37 u38 u39 u40 u41 u42 u43 u44 u45 u46 u47 u48 u49 u50 u51 u52 u53 u54 u55 u56 u57 u58 u59 u60 u61 u62 u63 u64 u65 u66 u67 u68 u69 u70 u71 u72 u73 u74 u75 u76 u77 u78 u79 u80 u81 u82 u83 u84 u85 u86 u87 u88 u89 u90 u91 u92 u93 u94 u95 u96 u97 u98 u99 u100 u101 u102 u103 u104 u105 u106 u107 u108 u109 u110 u111 u112 u113 u114 u115 u116 u117 u118 u119 u120 u121 u122 u123 u124 u125 u126 u127 u128 u129 u130 u131 u132 u133 u134 u135 u136 u137 u138 u139 u140 u141 u142 u143 u144 u145 u146 u147 u148 u149 u150 u151 u152 u153 u154 u155 u156 u157 u158 u159 u160 u161 u162 u163 u164 u165 u166 u167 u168 u169 u170 u171 u172 u173 u174 u175 u176 u177 u178 u179 u180 u181 u182 u183 u184 u185 u186 u187 u188 u189 u190 u191 u192 u193 u194 u195 u196 u197 u198 u199 u200 u201 u202 u203 u204 u205 u206 u207 u208 u209 u210 u211 u212 u213 u214 u215 u216 u217 u218 u219 u220 u221 u222 u223 u224 u225 u226 u227 u228 u229 u230 u231 u232 u233 u234 u235 u236 u237 u238 u239 u240 u241 u242 u243 u244 u245 u246 u247 u248 u249 u250 u251 u252 u253 u254 u255 u256 u257 u258 u259 u260 u261 u262 u263 u264 u265 u266 u267 u268 u269 u270 u271 u272 u273 u274 u275 u276 u277 u278 u279 u280 u281 u282 u283 u284 u285 u286 u287 u288 u289 u290 u291 u292 u293 u294 u295 u296 u297 u298 u299 u300 u301 u302 u303 u304 u305 u306 u307 u308 u309 u310 u311 u312 u313 u314 u315 u316 u317 u318 u319 u320 u321 u322 u323 u324 u325 u326 u327 u328 u329 u330 u331 u332 u333 u334 u335 u336 u337 u338 u339 u340 u341 u342 u343 u344 u345 u346 u347 u348 u349 u350 u351 u352 u353 u354 u355 u356 u357 u358 u359 u360 u361 u362 u363 u364 u365 u366 u367 u368 u369 u370 u371 u372 u373 u374 u375 u376 u377 u378 u379 u380 u381 u382 u383 u384 u385 u386 u387 u388 u389 u390 u391 u392 u393 u394 u395 u396 u397 : Value) (w' : World), Below w.heap.size w w' → Code.wp Try.prog (ctail 22 (Try.f6.body.getD .skip)) (bodyPost Try.prog Try.f6 fun e w' => e = .returned (.bool true) ∧ Below B0 w0 w') { tmps := #[.slice (some ⟨g, o, none⟩) (Pa.length + 1) c, .int .i64 ix, u2, u3, u4, u5, u6, u7, u8, u9, u10, u11, u12, u13, u14, u15, u16, u17, u18, u19, .pointer (some ⟨b20, 0, none⟩), .pointer (some ⟨b21, 0, none⟩), .bool okA, .slice va V.length ca, .pointer (some ⟨b24, 0, none⟩), .slice p1 Pa.length c1, .int .i64 0, x27, x28, x29, x30, x31, x32, .int .i64 (Pa.length : Int), .int .i64 (na : Int), u35, u36, u37, u38, u39, u40, u41, u42, u43, u44, u45, u46, u47, u48, u49, u50, u51, u52, u53, u54, u55, u56, u57, u58, u59, u60, u61, u62, u63, u64, u65, u66, u67, u68, u69, u70, u71, u72, u73, u74, u75, u76, u77, u78, u79, u80, u81, u82, u83, u84, u85, u86, u87, u88, u89, u90, u91, u92, u93, u94, u95, u96, u97, u98, u99, u100, u101, u102, u103, u104, u105, u106, u107, u108, u109, u110, u111, u112, u113, u114, u115, u116, u117, u118, u119, u120, u121, u122, u123, u124, u125, u126, u127, u128, u129, u130, u131, u132, u133, u134, u135, u136, u137, u138, u139, u140, u141, u142, u143, u144, u145, u146, u147, u148, u149, u150, u151, u152, u153, u154, u155, u156, u157, u158, u159, u160, u161, u162, u163, u164, u165, u166, u167, u168, u169, u170, u171, u172, u173, u174, u175, u176, u177, u178, u179, u180, u181, u182, u183, u184, u185, u186, u187, u188, u189, u190, u191, u192, u193, u194, u195, u196, u197, u198, u199, u200, u201, u202, u203, u204, u205, u206, u207, u208, u209, u210, u211, u212, u213, u214, u215, u216, u217, u218, u219, u220, u221, u222, u223, u224, u225, u226, u227, u228, u229, u230, u231, u232, u233, u234, u235, u236, u237, u238, u239, u240, u241, u242, u243, u244, u245, u246, u247, u248, u249, u250, u251, u252, u253, u254, u255, u256, u257, u258, u259, u260, u261, u262, u263, u264, u265, u266, u267, u268, u269, u270, u271, u272, u273, u274, u275, u276, u277, u278, u279, u280, u281, u282, u283, u284, u285, u286, u287, u288, u289, u290, u291, u292, u293, u294, u295, u296, u297, u298, u299, u300, u301, u302, u303, u304, u305, u306, u307, u308, u309, u310, u311, u312, u313, u314, u315, u316, u317, u318, u319, u320, u321, u322, u323, u324, u325, u326, u327, u328, u329, u330, u331, u332, u333, u334, u335, u336, u337, u338, u339, u340, u341, u342, u343, u344, u345, u346, u347, u348, u349, u350, u351, u352, u353, u354, u355, u356, u357, u358, u359, u360, u361, u362, u363, u364, u365, u366, u367, u368, u369, u370, u371, u372, u373, u374, u375, u376, u377, u378, u379, u380, u381, u382, u383, u384, u385, u386, u387, u388, u389, u390, u391, u392, u393, u394, u395, u396, u397], defers := [] } w') (u2 u4 u5 u6 u7 u8 u9 u10 u11 u12 u13 u14 u15 u16 u18 u33 u34 u35 u36 u37 u38 u39 u40 u41 u42 u43 u44 u45 u46 u47 u48 u49 u50 u51 u52 u53 u54 u55 u56 u57 u58 u59 u60 u61 u62 u63 u64 u65 u66 u67 u68 u69 u70 u71 u72 u73 u74 u75 u76 u77 u78 u79 u80 u81 u82 u83 u84 u85 u86 u87 u88 u89 u90 u91 u92 u93 u94 u95 u96 u97 u98 u99 u100 u101 u102 u103 u104 u105 u106 u107 u108 u109 u110 u111 u112 u113 u114 u115 u116 u117 u118 u119 u120 u121 u122 u123 u124 u125 u126 u127 u128 u129 u130 u131 u132 u133 u134 u135 u136 u137 u138 u139 u140 u141 u142 u143 u144 u145 u146 u147 u148 u149 u150 u151 u152 u153 u154 u155 u156 u157 u158 u159 u160 u161 u162 u163 u164 u165 u166 u167 u168 u169 u170 u171 u172 u173 u174 u175 u176 u177 u178 u179 u180 u181 u182 u183 u184 u185 u186 u187 u188 u189 u190 u191 u192 u193 u194 u195 u196 u197 u198 u199 u200 u201 u202 u203 u204 u205 u206 u207 u208 u209 u210 u211 u212 u213 u214 u215 u216 u217 u218 u219 u220 u221 u222 u223 u224 u225 u226 u227 u228 u229 u230 u231 u232 u233 u234 u235 u236 u237 u238 u239 u240 u241 u242 u243 u244 u245 u246 u247 u248 u249 u250 u251 u252 u253 u254 u255 u256 u257 u258 u259 u260 u261 u262 u263 u264 u265 u266 u267 u268 u269 u270 u271 u272 u273 u274 u275 u276 u277 u278 u279 u280 u281 u282 u283 u284 u285 u286 u287 u288 u289 u290 u291 u292 u293 u294 u295 u296 u297 u298 u299 u300 u301 u302 u303 u304 u305 u306 u307 u308 u309 u310 u311 u312 u313 u314 u315 u316 u317 u318 u319 u320 u321 u322 u323 u324 u325 u326 u327 u328 u329 u330 u331 u332 u333 u334 u335 u336 u337 u338 u339 u340 u341 u342 u343 u344 u345 u346 u347 u348 u349 u350 u351 u352 u353 u354 u355 u356 u357 u358 u359 u360 u361 u362 u363 u364 u365 u366 u367 u368 u369 u370 u371 u372 u373 u374 u375 u376 u377 u378 u379 u380 u381 u382 u383 u384 u385 u386 u387 u388 u389 u390 u391 u392 u393 u394 u395 u396 u397 : Value) :
    Code.wp Try.prog (ctail 18 (Try.f6.body.getD .skip)) (bodyPost Try.prog Try.f6 fun e w' => e = .returned (.bool true) ∧ Below B0 w0 w') { tmps := #[.slice (some ⟨g, o, none⟩) (Pa.length + 1) c, .int .i64 ix, u2, .string X, u4, u5, u6, u7, u8, u9, u10, u11, u12, u13, u14, u15, u16, .slice ao ns.length cn, u18, .int .i64 ((s : Int) - 1), .pointer (some ⟨b20, 0, none⟩), .pointer (some ⟨b21, 0, none⟩), .bool okA, .slice va V.length ca, .pointer (some ⟨b24, 0, none⟩), .slice p1 Pa.length c1, .int .i64 0, x27, x28, x29, x30, x31, x32, u33, u34, u35, u36, u37, u38, u39, u40, u41, u42, u43, u44, u45, u46, u47, u48, u49, u50, u51, u52, u53, u54, u55, u56, u57, u58, u59, u60, u61, u62, u63, u64, u65, u66, u67, u68, u69, u70, u71, u72, u73, u74, u75, u76, u77, u78, u79, u80, u81, u82, u83, u84, u85, u86, u87, u88, u89, u90, u91, u92, u93, u94, u95, u96, u97, u98, u99, u100, u101, u102, u103, u104, u105, u106, u107, u108, u109, u110, u111, u112, u113, u114, u115, u116, u117, u118, u119, u120, u121, u122, u123, u124, u125, u126, u127, u128, u129, u130, u131, u132, u133, u134, u135, u136, u137, u138, u139, u140, u141, u142, u143, u144, u145, u146, u147, u148, u149, u150, u151, u152, u153, u154, u155, u156, u157, u158, u159, u160, u161, u162, u163, u164, u165, u166, u167, u168, u169, u170, u171, u172, u173, u174, u175, u176, u177, u178, u179, u180, u181, u182, u183, u184, u185, u186, u187, u188, u189, u190, u191, u192, u193, u194, u195, u196, u197, u198, u199, u200, u201, u202, u203, u204, u205, u206, u207, u208, u209, u210, u211, u212, u213, u214, u215, u216, u217, u218, u219, u220, u221, u222, u223, u224, u225, u226, u227, u228, u229, u230, u231, u232, u233, u234, u235, u236, u237, u238, u239, u240, u241, u242, u243, u244, u245, u246, u247, u248, u249, u250, u251, u252, u253, u254, u255, u256, u257, u258, u259, u260, u261, u262, u263, u264, u265, u266, u267, u268, u269, u270, u271, u272, u273, u274, u275, u276, u277, u278, u279, u280, u281, u282, u283, u284, u285, u286, u287, u288, u289, u290, u291, u292, u293, u294, u295, u296, u297, u298, u299, u300, u301, u302, u303, u304, u305, u306, u307, u308, u309, u310, u311, u312, u313, u314, u315, u316, u317, u318, u319, u320, u321, u322, u323, u324, u325, u326, u327, u328, u329, u330, u331, u332, u333, u334, u335, u336, u337, u338, u339, u340, u341, u342, u343, u344, u345, u346, u347, u348, u349, u350, u351, u352, u353, u354, u355, u356, u357, u358, u359, u360, u361, u362, u363, u364, u365, u366, u367, u368, u369, u370, u371, u372, u373, u374, u375, u376, u377, u378, u379, u380, u381, u382, u383, u384, u385, u386, u387, u388, u389, u390, u391, u392, u393, u394, u395, u396, u397], defers := [] } w := by
  conv in ctail 18 _ => whnf
  have hep := Try.eqp
  have HC : Hid (∀ (u2 u3 u4 u5 u6 u7 u8 u9 u10 u11 u12 u13 u14 u15 u16 u17 u18 u19 u35 u36 u37 u38 u39 u40 u41 u42 u43 u44 u45 u46 u47 u48 u49 u50 u51 u52 u53 u54 u55 u56 u57 u58 u59 u60 u61 u62 u63 u64 u65 u66 u67 u68 u69 u70 u71 u72 u73 u74 u75 u76 u77 u78 u79 u80 u81 u82 u83 u84 u85 u86 u87 u88 u89 u90 u91 u92 u93 u94 u95 u96 u97 u98 u99 u100 u101 u102 u103 u104 u105 u106 u107 u108 u109 u110 u111 u112 u113 u114 u115 u116 u117 u118 u119 u120 u121 u122 u123 u124 u125 u126 u127 u128 u129 u130 u131 u132 u133 u134 u135 u136 u137 u138 u139 u140 u141 u142 u143 u144 u145 u146 u147 u148 u149 u150 u151 u152 u153 u154 u155 u156 u157 u158 u159 u160 u161 u162 u163 u164 u165 u166 u167 u168 u169 u170 u171 u172 u173 u174 u175 u176 u177 u178 u179 u180 u181 u182 u183 u184 u185 u186 u187 u188 u189 u190 u191 u192 u193 u194 u195 u196 u197 u198 u199 u200 u201 u202 u203 u204 u205 u206 u207 u208 u209 u210 u211 u212 u213 u214 u215 u216 u217 u218 u219 u220 u221 u222 u223 u224 u225 u226 u227 u228 u229 u230 u231 u232 u233 u234 u235 u236 u237 u238 u239 u240 u241 u242 u243 u244 u245 u246 u247 u248 u249 u250 u251 u252 u253 u254 u255 u256 u257 u258 u259 u260 u261 u262 u263 u264 u265 u266 u267 u268 u269 u270 u271 u272 u273 u274 u275 u276 u277 u278 u279 u280 u281 u282 u283 u284 u285 u286 u287 u288 u289 u290 u291 u292 u293 u294 u295 u296 u297 u298 u299 u300 u301 u302 u303 u304 u305 u306 u307 u308 u309 u310 u311 u312 u313 u314 u315 u316 u317 u318 u319 u320 u321 u322 u323 u324 u325 u326 u327 u328 u329 u330 u331 u332 u333 u334 u335 u336 u337 u338 u339 u340 u341 u342 u343 u344 u345 u346 u347 u348 u349 u350 u351 u352 u353 u354 u355 u356 u357 u358 u359 u360 u361 u362 u363 u364 u365 u366 u367 u368 u369 u370 u371 u372 u373 u374 u375 u376 u377 u378 u379 u380 u381 u382 u383 u384 u385 u386 u387 u388 u389 u390 u391 u392 u393 u394 u395 u396 u397 : Value) (w' : World), Below w.heap.size w w' → Code.wp Try.prog (ctail 22 (Try.f6.body.getD .skip)) (bodyPost Try.prog Try.f6 fun e w' => e = .returned (.bool true) ∧ Below B0 w0 w') { tmps := #[.slice (some ⟨g, o, none⟩) (Pa.length + 1) c, .int .i64 ix, u2, u3, u4, u5, u6, u7, u8, u9, u10, u11, u12, u13, u14, u15, u16, u17, u18, u19, .pointer (some ⟨b20, 0, none⟩), .pointer (some ⟨b21, 0, none⟩), .bool okA, .slice va V.length ca, .pointer (some ⟨b24, 0, none⟩), .slice p1 Pa.length c1, .int .i64 0, x27, x28, x29, x30, x31, x32, .int .i64 (Pa.length : Int), .int .i64 (na : Int), u35, u36, u37, u38, u39, u40, u41, u42, u43, u44, u45, u46, u47, u48, u49, u50, u51, u52, u53, u54, u55, u56, u57, u58, u59, u60, u61, u62, u63, u64, u65, u66, u67, u68, u69, u70, u71, u72, u73, u74, u75, u76, u77, u78, u79, u80, u81, u82, u83, u84, u85, u86, u87, u88, u89, u90, u91, u92, u93, u94, u95, u96, u97, u98, u99, u100, u101, u102, u103, u104, u105, u106, u107, u108, u109, u110, u111, u112, u113, u114, u115, u116, u117, u118, u119, u120, u121, u122, u123, u124, u125, u126, u127, u128, u129, u130, u131, u132, u133, u134, u135, u136, u137, u138, u139, u140, u141, u142, u143, u144, u145, u146, u147, u148, u149, u150, u151, u152, u153, u154, u155, u156, u157, u158, u159, u160, u161, u162, u163, u164, u165, u166, u167, u168, u169, u170, u171, u172, u173, u174, u175, u176, u177, u178, u179, u180, u181, u182, u183, u184, u185, u186, u187, u188, u189, u190, u191, u192, u193, u194, u195, u196, u197, u198, u199, u200, u201, u202, u203, u204, u205, u206, u207, u208, u209, u210, u211, u212, u213, u214, u215, u216, u217, u218, u219, u220, u221, u222, u223, u224, u225, u226, u227, u228, u229, u230, u231, u232, u233, u234, u235, u236, u237, u238, u239, u240, u241, u242, u243, u244, u245, u246, u247, u248, u249, u250, u251, u252, u253, u254, u255, u256, u257, u258, u259, u260, u261, u262, u263, u264, u265, u266, u267, u268, u269, u270, u271, u272, u273, u274, u275, u276, u277, u278, u279, u280, u281, u282, u283, u284, u285, u286, u287, u288, u289, u290, u291, u292, u293, u294, u295, u296, u297, u298, u299, u300, u301, u302, u303, u304, u305, u306, u307, u308, u309, u310, u311, u312, u313, u314, u315, u316, u317, u318, u319, u320, u321, u322, u323, u324, u325, u326, u327, u328, u329, u330, u331, u332, u333, u334, u335, u336, u337, u338, u339, u340, u341, u342, u343, u344, u345, u346, u347, u348, u349, u350, u351, u352, u353, u354, u355, u356, u357, u358, u359, u360, u361, u362, u363, u364, u365, u366, u367, u368, u369, u370, u371, u372, u373, u374, u375, u376, u377, u378, u379, u380, u381, u382, u383, u384, u385, u386, u387, u388, u389, u390, u391, u392, u393, u394, u395, u396, u397], defers := [] } w') := hC
  have hg := hpa.lt
  have hbl : ∀ {b k : Nat} {u : Value}, w.cell? ⟨b, k, none⟩ = some u → b < w.heap.size := fun h => cell_lt' h
  have HP : Hid (StrRow w (.slice (some ⟨g, o, none⟩) (Pa.length + 1) c) g (Pa ++ [nm])) := hpa
  have HH : Hid (na = (named X Pa nm false ts).length ∧ V = allv X ts (named X Pa nm false ts) ∧ okA = (decide (0 < na) || decide (0 < (named X Pa nm true ts).length)) ∧ nestA = decide (na = 0)) := ⟨hna, hV, hok, hne⟩
  have HN : Hid (w.ownsRow base 44 8 (.slice ao ns.length cn) ns.length (rowOf ns) ∧ RunIs ns ((s : Int) - 1) s bd R ∧ (∀ d ∈ ns, d.depth ≤ 1048576) ∧ (∀ d ∈ ns, d.txt + d.n ≤ X.size) ∧ R.length = (Stif.runN 0 ts).length ∧ (∀ (i : Nat) nd p, R[i]? = some nd → (Stif.runN 0 ts)[i]? = some p → Stif.Meets bd nd p) ∧ Stif.chain T X.size j0 y0 ts T.size X.size ∧ op.length = bd ∧ Stif.parentOf op = (s : Int) - 1 ∧ ns.drop s = Stif.nodesOf op s ts) := ⟨hn, hR, hd, hx, hl, hm, hch, h1, h2, h3⟩
  clear hC hpa hna hV hok hne hn hR hd hx hl hm hch h1 h2 h3
  have hpl : (Pa.length : Int) ≤ 1048576 := by omega
  go_wp2_with fail
  refine (namedByPath_any _ ns R base s bd T X Pa nm g o c j0 y0 ts op _ w HP.out hPl HN.out.1 hlen hT hX HN.out.2.1 HN.out.2.2.1 HN.out.2.2.2.1 HN.out.2.2.2.2.1 HN.out.2.2.2.2.2.1 HN.out.2.2.2.2.2.2.1 HN.out.2.2.2.2.2.2.2.1 HN.out.2.2.2.2.2.2.2.2.1 HN.out.2.2.2.2.2.2.2.2.2).mono ?_
  rintro e w1 ⟨hb1, v3, rfl, hrow3⟩
  dsimp only
  rw [← HH.out.2.1] at hrow3
  rw [← HH.out.1]
  have hsr := SR.of_owns hrow3 HS.out.1.le
  obtain ⟨v3, c3, rfl, hr3⟩ := hsr
  have HR3 : Hid (SR w1 v3 V.length V) := hr3
  have HB1 : Hid (Below w.heap.size w w1) := hb1
  have hps : SR w1 (some ⟨g, o, none⟩) Pa.length Pa := by
    refine ⟨rfl, by omega, fun i q hq => ⟨g, o, rfl, ?_⟩⟩
    obtain ⟨o', c', hv, _, _, hc⟩ := (HP.out.below hb1).ex
    simp at hv
    obtain ⟨rfl, rfl⟩ := hv
    exact hc i q (by rw [List.getElem?_append_left (List.getElem?_eq_some_iff.1 hq).1]; exact hq)
  have HPS : Hid (SR w1 (some ⟨g, o, none⟩) Pa.length Pa) := hps
  have hlast : w1.cell? ⟨g, o + Pa.length, none⟩ = some (.string nm) := by
    obtain ⟨o', c', hv, _, _, hc⟩ := (HP.out.below hb1).ex
    simp at hv
    obtain ⟨rfl, rfl⟩ := hv
    exact hc Pa.length nm (by simp)
  have mv : ∀ {b k : Nat} {u : Value}, w.cell? ⟨b, k, none⟩ = some u → w1.cell? ⟨b, k, none⟩ = some u := fun h => by rw [hb1.cell (cell_lt' h)]; exact h
  have a0' := mv a0
  have a1' := mv a1
  have f0' := mv f0
  have f1' := mv f1
  have f2' := mv f2
  have f3' := mv f3
  have d0' := mv d0
  have d1' := mv d1
  have d2' := mv d2
  have d3' := mv d3
  have h6 : (Pa.length : Int) < (Pa.length : Int) + 1 := by omega
  have hoc : (Pa.length : Int) + 1 ≤ (c : Int) := by
    obtain ⟨o', c', hv, hle, _, _⟩ := HP.out.ex
    simp at hv
    obtain ⟨rfl, rfl⟩ := hv
    simp at hle
    omega
  have hoc2 : (Pa.length : Int) ≤ (c : Int) := by omega
  generalize hnb : (named X Pa nm true ts).length = nb at *
  clear mv a0 a1 f0 f1 f2 f3 d0 d1 d2 d3 hps hr3 hrow3 hb1 hbl hnb
  by_cases ha : 0 < na
  · have hab : decide ((0 : Int) < (na : Int)) = true := by simp; omega
    have hac : ((na : Int) == 0) = false := by simp; omega
    obtain rfl : okA = true := by rw [HH.out.2.2.1]; simp <;> omega
    obtain rfl : nestA = false := by rw [HH.out.2.2.2]; simp <;> omega
    go_wp2_with fail
    refine (same_eq va v3 V.length ca c3 V _ (HS.out.1.below HB1.out) HR3.out).mono ?_
    rintro e w' ⟨rfl, m1, rfl⟩
    dsimp only
    go_wp2_with fail
    go_quiet ((go_at_call 25; refine (same_eq p1 (some ⟨g, o, none⟩) Pa.length c1 c Pa _ ((HS.out.2.1.below HB1.out).below (below_drewN (Below.refl _ _) _)) (HPS.out.below (below_drewN (Below.refl _ _) _))).mono ?_; rintro e w' ⟨rfl, nq, rfl⟩; exact ⟨rfl, _, (World.drewN_drewN _ _ _).trans (congrArg _ (Nat.add_assoc _ _ _))⟩))
    go_upto_if 270 with fail
    go_cut [] from 240 to 270 (fun wx => ∃ m, wx = w1.drewN m)
    case first =>
      go_wp2
      go_meet
      exact ⟨_, World.drewN_drewN _ _ _⟩
    case rest =>
      obtain ⟨m, rfl⟩ := hcut
      rename_i K hK
      refine hK _ _ ?_
      exact HC.out _ _ _ _ _ _ _ _ _ _ _ _ _ _ _ _ _ _ _ _ _ _ _ _ _ _ _ _ _ _ _ _ _ _ _ _ _ _ _ _ _ _ _ _ _ _ _ _ _ _ _ _ _ _ _ _ _ _ _ _ _ _ _ _ _ _ _ _ _ _ _ _ _ _ _ _ _ _ _ _ _ _ _ _ _ _ _ _ _ _ _ _ _ _ _ _ _ _ _ _ _ _ _ _ _ _ _ _ _ _ _ _ _ _ _ _ _ _ _ _ _ _ _ _ _ _ _ _ _ _ _ _ _ _ _ _ _ _ _ _ _ _ _ _ _ _ _ _ _ _ _ _ _ _ _ _ _ _ _ _ _ _ _ _ _ _ _ _ _ _ _ _ _ _ _ _ _ _ _ _ _ _ _ _ _ _ _ _ _ _ _ _ _ _ _ _ _ _ _ _ _ _ _ _ _ _ _ _ _ _ _ _ _ _ _ _ _ _ _ _ _ _ _ _ _ _ _ _ _ _ _ _ _ _ _ _ _ _ _ _ _ _ _ _ _ _ _ _ _ _ _ _ _ _ _ _ _ _ _ _ _ _ _ _ _ _ _ _ _ _ _ _ _ _ _ _ _ _ _ _ _ _ _ _ _ _ _ _ _ _ _ _ _ _ _ _ _ _ _ _ _ _ _ _ _ _ _ _ _ _ _ _ _ _ _ _ _ _ _ _ _ _ _ _ _ _ _ _ _ _ _ _ _ _ _ _ _ _ _ _ _ _ _ _ _ _ _ _ _ _ _ _ _ _ _ _ _ _ _ _ _ _ _ _ _ _ _ _ _ _ _ _ _ _ _ _ _ _ _ _ _ (w1.drewN m) (below_drewN HB1.out m)
  · obtain rfl : na = 0 := by omega
    by_cases hb : 0 < nb
    · have hbb : decide ((0 : Int) < (nb : Int)) = true := by simp; omega
      obtain rfl : okA = true := by rw [HH.out.2.2.1]; simp <;> omega
      obtain rfl : nestA = true := by rw [HH.out.2.2.2]; simp <;> omega
      go_wp2_with fail
      refine (same_eq va v3 V.length ca c3 V _ (HS.out.1.below HB1.out) HR3.out).mono ?_
      rintro e w' ⟨rfl, m1, rfl⟩
      dsimp only
      go_wp2_with fail
      go_quiet ((go_at_call 25; refine (same_eq p1 (some ⟨g, o, none⟩) Pa.length c1 c Pa _ ((HS.out.2.1.below HB1.out).below (below_drewN (Below.refl _ _) _)) (HPS.out.below (below_drewN (Below.refl _ _) _))).mono ?_; rintro e w' ⟨rfl, nq, rfl⟩; exact ⟨rfl, _, (World.drewN_drewN _ _ _).trans (congrArg _ (Nat.add_assoc _ _ _))⟩))
      go_upto_if 270 with fail
      go_cut [] from 240 to 270 (fun wx => ∃ m, wx = w1.drewN m)
      case first =>
        go_wp2
        go_meet
        exact ⟨_, World.drewN_drewN _ _ _⟩
      case rest =>
        obtain ⟨m, rfl⟩ := hcut
        rename_i K hK
        refine hK _ _ ?_
        exact HC.out _ _ _ _ _ _ _ _ _ _ _ _ _ _ _ _ _ _ _ _ _ _ _ _ _ _ _ _ _ _ _ _ _ _ _ _ _ _ _ _ _ _ _ _ _ _ _ _ _ _ _ _ _ _ _ _ _ _ _ _ _ _ _ _ _ _ _ _ _ _ _ _ _ _ _ _ _ _ _ _ _ _ _ _ _ _ _ _ _ _ _ _ _ _ _ _ _ _ _ _ _ _ _ _ _ _ _ _ _ _ _ _ _ _ _ _ _ _ _ _ _ _ _ _ _ _ _ _ _ _ _ _ _ _ _ _ _ _ _ _ _ _ _ _ _ _ _ _ _ _ _ _ _ _ _ _ _ _ _ _ _ _ _ _ _ _ _ _ _ _ _ _ _ _ _ _ _ _ _ _ _ _ _ _ _ _ _ _ _ _ _ _ _ _ _ _ _ _ _ _ _ _ _ _ _ _ _ _ _ _ _ _ _ _ _ _ _ _ _ _ _ _ _ _ _ _ _ _ _ _ _ _ _ _ _ _ _ _ _ _ _ _ _ _ _ _ _ _ _ _ _ _ _ _ _ _ _ _ _ _ _ _ _ _ _ _ _ _ _ _ _ _ _ _ _ _ _ _ _ _ _ _ _ _ _ _ _ _ _ _ _ _ _ _ _ _ _ _ _ _ _ _ _ _ _ _ _ _ _ _ _ _ _ _ _ _ _ _ _ _ _ _ _ _ _ _ _ _ _ _ _ _ _ _ _ _ _ _ _ _ _ _ _ _ _ _ _ _ _ _ _ _ _ _ _ _ _ _ _ _ _ _ _ _ _ _ _ _ _ _ _ _ _ _ _ _ _ _ _ _ _ (w1.drewN m) (below_drewN HB1.out m)
    · obtain rfl : nb = 0 := by omega
      obtain rfl : okA = false := by rw [HH.out.2.2.1]; simp <;> omega
      obtain rfl : nestA = true := by rw [HH.out.2.2.2]; simp <;> omega
      go_wp2_with fail
      refine (same_eq va v3 V.length ca c3 V _ (HS.out.1.below HB1.out) HR3.out).mono ?_
      rintro e w' ⟨rfl, m1, rfl⟩
      dsimp only
      go_wp2_with fail
      go_quiet ((go_at_call 25; refine (same_eq p1 (some ⟨g, o, none⟩) Pa.length c1 c Pa _ ((HS.out.2.1.below HB1.out).below (below_drewN (Below.refl _ _) _)) (HPS.out.below (below_drewN (Below.refl _ _) _))).mono ?_; rintro e w' ⟨rfl, nq, rfl⟩; exact ⟨rfl, _, (World.drewN_drewN _ _ _).trans (congrArg _ (Nat.add_assoc _ _ _))⟩))
      go_upto_if 270 with fail
      go_cut [] from 240 to 270 (fun wx => ∃ m, wx = w1.drewN m)
      case first =>
        go_wp2
        go_meet
        exact ⟨_, World.drewN_drewN _ _ _⟩
      case rest =>
        obtain ⟨m, rfl⟩ := hcut
        rename_i K hK
        refine hK _ _ ?_
        exact HC.out _ _ _ _ _ _ _ _ _ _ _ _ _ _ _ _ _ _ _ _ _ _ _ _ _ _ _ _ _ _ _ _ _ _ _ _ _ _ _ _ _ _ _ _ _ _ _ _ _ _ _ _ _ _ _ _ _ _ _ _ _ _ _ _ _ _ _ _ _ _ _ _ _ _ _ _ _ _ _ _ _ _ _ _ _ _ _ _ _ _ _ _ _ _ _ _ _ _ _ _ _ _ _ _ _ _ _ _ _ _ _ _ _ _ _ _ _ _ _ _ _ _ _ _ _ _ _ _ _ _ _ _ _ _ _ _ _ _ _ _ _ _ _ _ _ _ _ _ _ _ _ _ _ _ _ _ _ _ _ _ _ _ _ _ _ _ _ _ _ _ _ _ _ _ _ _ _ _ _ _ _ _ _ _ _ _ _ _ _ _ _ _ _ _ _ _ _ _ _ _ _ _ _ _ _ _ _ _ _ _ _ _ _ _ _ _ _ _ _ _ _ _ _ _ _ _ _ _ _ _ _ _ _ _ _ _ _ _ _ _ _ _ _ _ _ _ _ _ _ _ _ _ _ _ _ _ _ _ _ _ _ _ _ _ _ _ _ _ _ _ _ _ _ _ _ _ _ _ _ _ _ _ _ _ _ _ _ _ _ _ _ _ _ _ _ _ _ _ _ _ _ _ _ _ _ _ _ _ _ _ _ _ _ _ _ _ _ _ _ _ _ _ _ _ _ _ _ _ _ _ _ _ _ _ _ _ _ _ _ _ _ _ _ _ _ _ _ _ _ _ _ _ _ _ _ _ _ _ _ _ _ _ _ _ _ _ _ _ _ _ _ _ _ _ _ _ _ _ _ _ _ (w1.drewN m) (below_drewN HB1.out m)
end Go.Proofs.Qxb6618677a
