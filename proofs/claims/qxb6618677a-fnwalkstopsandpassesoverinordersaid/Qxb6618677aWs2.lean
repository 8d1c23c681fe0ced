/-
  FnWalkStopsAndPassesOverInOrder: the walk's middle (the two walks that stop and pass over).
-/
import Derived.Test.Qxb6618677aWs1
namespace Go.Proofs.Qxb6618677a
open Go.RowKit

set_option maxRecDepth 100000 in
set_option maxHeartbeats 4000000 in
theorem ws_mid (T X av : ByteArray) (md lim : Int) (ts : List Stif.Tok) (i0 x0 bd bt bx B B3 : Nat) (w0 w : World) (ad at1 ax : Option Addr) (cd ct cx : Nat) (s1 f1 : Value)
    (hT : T.size ≤ 1048576) (hX : X.size ≤ 1048576) (hBw : B ≤ w.heap.size)
    (HB : Hid (Below B w0 w)) (HT : Hid (Stif.chain T X.size i0 x0 ts T.size X.size ∧ Stif.bal bd ts)) (htr6 : IsTree w bt T X)
    (hbx6 : w.heap[bx]? = some (Obj.cells #[Value.pointer (some ⟨bt, 0, none⟩), Value.int IntKind.i64 (i0 : Int), Value.int IntKind.i64 (x0 : Int), Value.int IntKind.i64 0] 35))
    (HY6 : Hid (Yield w B3 (.slice ad (allF ts).length cd) (.slice at1 (allF ts).length ct) (.slice ax (allF ts).length cx) s1 f1 (allF ts)))
    (u2 u3 u4 u8 u9 u10 u11 u12 u13 u14 u15 u16 u17 u18 u19 u22 u26 u27 u28 u30 u31 u32 u33 u34 u35 u36 u37 u38 u39 u40 u41 u42 u43 u44 u45 u46 u47 u48 u49 u50 u51 u52 u53 u54 u55 u56 u57 u58 u59 u60 u61 u62 u63 u64 u65 u66 u67 u68 u69 u70 u71 u72 u73 u74 u75 u76 u77 u78 u79 u80 u81 u82 u83 u84 u85 u86 u87 u88 u89 u90 u91 u92 u93 u94 u95 u96 u97 u98 u99 u100 u101 u102 u103 u104 u105 u106 u107 u108 u109 u110 u111 u112 u113 u114 u115 u116 u117 u118 u119 u120 u121 u122 u123 u124 u125 u126 u127 u128 u129 u130 u131 u132 u133 u134 u135 u136 u137 u138 u139 u140 u141 u142 u143 u144 u145 u146 u147 u148 u149 u150 u151 u152 u153 u154 u155 u156 u157 u158 u159 u160 u161 u162 u163 u164 u165 u166 u167 u168 u169 u170 u171 u172 u173 u174 u175 u176 u177 u178 u179 u180 u181 u182 u183 u184 u185 u186 u187 u188 u189 u190 u191 u192 u193 u194 u195 u196 u197 u198 u199 u200 u201 u202 u203 u204 u205 u206 u207 u208 u209 u210 u211 u212 u213 u214 u215 u216 u217 u218 u219 u220 u221 u222 u223 u224 u225 u226 u227 u228 u229 u230 u231 u232 u233 u234 u235 u236 u237 u238 u239 u240 u241 u242 u243 u244 u245 u246 u247 u248 u249 u250 u251 u252 u253 u254 u255 u256 u257 u258 u259 u260 u261 u262 u263 u264 u265 u266 u267 u268 u269 u270 u271 u272 u273 u274 u275 u276 u277 u278 u279 u280 u281 u282 u283 u284 u285 u286 u287 u288 u289 u290 u291 u292 u293 u294 u295 u296 u297 u298 u299 u300 u301 u302 u303 u304 u305 u306 u307 u308 u309 u310 u311 u312 u313 u314 u315 u316 u317 u318 u319 u320 u321 u322 u323 u324 u325 u326 u327 u328 u329 u330 u331 u332 u333 u334 : Value) :
    Code.wp Try.prog (ctail 17 (Try.f5.body.getD .skip)) (bodyPost Try.prog Try.f5 fun e w' => e = .returned (.bool true) ∧ Below B w0 w') { tmps := #[.string T, .string X, u2, u3, u4, .int .i64 md, .string av, .int .i64 lim, u8, u9, u10, u11, u12, u13, u14, u15, u16, u17, u18, u19, .pointer (some ⟨bx, 0, none⟩), .int .i64 ((T.size : Int) + 1), u22, .slice ad (allF ts).length cd, .slice at1 (allF ts).length ct, .slice ax (allF ts).length cx, u26, u27, u28, .int .i64 ((allF ts).length : Nat), u30, u31, u32, u33, u34, u35, u36, u37, u38, u39, u40, u41, u42, u43, u44, u45, u46, u47, u48, u49, u50, u51, u52, u53, u54, u55, u56, u57, u58, u59, u60, u61, u62, u63, u64, u65, u66, u67, u68, u69, u70, u71, u72, u73, u74, u75, u76, u77, u78, u79, u80, u81, u82, u83, u84, u85, u86, u87, u88, u89, u90, u91, u92, u93, u94, u95, u96, u97, u98, u99, u100, u101, u102, u103, u104, u105, u106, u107, u108, u109, u110, u111, u112, u113, u114, u115, u116, u117, u118, u119, u120, u121, u122, u123, u124, u125, u126, u127, u128, u129, u130, u131, u132, u133, u134, u135, u136, u137, u138, u139, u140, u141, u142, u143, u144, u145, u146, u147, u148, u149, u150, u151, u152, u153, u154, u155, u156, u157, u158, u159, u160, u161, u162, u163, u164, u165, u166, u167, u168, u169, u170, u171, u172, u173, u174, u175, u176, u177, u178, u179, u180, u181, u182, u183, u184, u185, u186, u187, u188, u189, u190, u191, u192, u193, u194, u195, u196, u197, u198, u199, u200, u201, u202, u203, u204, u205, u206, u207, u208, u209, u210, u211, u212, u213, u214, u215, u216, u217, u218, u219, u220, u221, u222, u223, u224, u225, u226, u227, u228, u229, u230, u231, u232, u233, u234, u235, u236, u237, u238, u239, u240, u241, u242, u243, u244, u245, u246, u247, u248, u249, u250, u251, u252, u253, u254, u255, u256, u257, u258, u259, u260, u261, u262, u263, u264, u265, u266, u267, u268, u269, u270, u271, u272, u273, u274, u275, u276, u277, u278, u279, u280, u281, u282, u283, u284, u285, u286, u287, u288, u289, u290, u291, u292, u293, u294, u295, u296, u297, u298, u299, u300, u301, u302, u303, u304, u305, u306, u307, u308, u309, u310, u311, u312, u313, u314, u315, u316, u317, u318, u319, u320, u321, u322, u323, u324, u325, u326, u327, u328, u329, u330, u331, u332, u333, u334], defers := [] } w := by
  conv in ctail _ _ => whnf
  have hAl := allF_len HT.out.1
  have hbxl : bx < w.heap.size := (Array.getElem?_eq_some_iff.1 hbx6).1
  have hbtl : bt < w.heap.size := (Array.getElem?_eq_some_iff.1 htr6.blk).1
  obtain ⟨bx0, bx1, bx2, bx3⟩ := box4 hbx6
  have HBX6 : Hid (w.heap[bx]? = some (Obj.cells #[Value.pointer (some ⟨bt, 0, none⟩), Value.int IntKind.i64 (i0 : Int), Value.int IntKind.i64 (x0 : Int), Value.int IntKind.i64 0] 35)) := hbx6
  clear hbx6
  go_wp2_with (first | (go_at_call 15; refine (zzwalk_yield bt T X _ _ _ ts i0 x0 bd _ hT hX htr6 HT.out.1 HT.out.2).mono ?_))
  rintro e w7 ⟨hb7, d2, t2, x2, s2, f2, rfl, hY2⟩
  have hFs := (flds_allF (av := av) (md := md) HT.out.1)
  have HFS : Hid ((Stif.flds (intoOf X av md) 0 0 ts).Sublist (allF ts)) := hFs
  have hFl := hFs.length_le
  clear hFs
  rw [List.take_of_length_le (by omega)] at hY2
  obtain ⟨bx0', bx1', bx2', bx3'⟩ := box4 ((hb7.block _ hbxl).trans HBX6.out)
  have hs7 := hb7.size
  have htr7 : IsTree w7 bt T X := ⟨(hb7.block _ hbtl).trans htr6.blk⟩
  go_wp2_with (first | (go_at_call 15; refine (zzwalk_yield bt T X _ _ _ ts i0 x0 bd w7 hT hX htr7 HT.out.1 HT.out.2).mono ?_))
  rintro e w8 ⟨hb8, d3, t3, x3, s3, f3, rfl, hY3⟩
  clear bx0 bx1 bx2 bx3 bx0' bx1' bx2' bx3'
  have HB8 : Hid (Below B w0 w8) := (HB.out.trans (hb7.mono hBw)).trans (hb8.mono (Nat.le_trans hBw hb7.size))
  have HY8 : Hid (Yield w8 B3 (.slice ad (allF ts).length cd) (.slice at1 (allF ts).length ct) (.slice ax (allF ts).length cx) s1 f1 (allF ts)) := (HY6.out.below hb7 (Nat.le_refl _)).below hb8 (Nat.le_refl _)
  have hY2' := hY2.below hb8 (Nat.le_refl _)
  generalize w.heap.size = B6 at hY2'
  generalize w7.heap.size = B7 at hY3
  generalize Stif.flds (intoOf X av md) 0 0 ts = F at hY2' hY3 HFS hFl
  have hm3 : (F.take (max lim 1).toNat).length = min (max lim 1).toNat F.length := List.length_take
  generalize hF3 : F.take (max lim 1).toNat = F3 at hY3 hm3
  have HF3 : Hid (F3 = F.take (max lim 1).toNat) := hF3.symm
  have HM3 : Hid (F3.length = min (max lim 1).toNat F.length) := hm3
  clear hF3 hY2 hb7 hb8 htr6 htr7 hbxl hbtl HBX6 HY6 HB hs7 hm3
  obtain ⟨ad2, cd2, rfl⟩ := row_slice hY2'.dep
  obtain ⟨at2, ct2, rfl⟩ := row_slice hY2'.tok
  obtain ⟨ax2, cx2, rfl⟩ := row_slice hY2'.txt
  obtain ⟨ad3, cd3, rfl⟩ := row_slice hY3.dep
  obtain ⟨at3, ct3, rfl⟩ := row_slice hY3.tok
  obtain ⟨ax3, cx3, rfl⟩ := row_slice hY3.txt
  have HY2 : Hid (Yield w8 B6 (.slice ad2 F.length cd2) (.slice at2 F.length ct2) (.slice ax2 F.length cx2) s2 f2 F) := hY2'
  have HY3 : Hid (Yield w8 B7 (.slice ad3 F3.length cd3) (.slice at3 F3.length ct3) (.slice ax3 F3.length cx3) s3 f3 F3) := hY3
  clear hY2' hY3
  go_upto_if 213 with fail
  go_cut [42] from 212 to 213 (fun lv wx => wx = w8 ∧ lv = .int .i64 (max lim 1))
  case first =>
    by_cases hl : lim < 1
    · have hlb : decide (lim < 1) = true := by simp [hl]
      go_wp2
      go_meet
      exact ⟨rfl, by rw [Int.max_eq_right (by omega)]⟩
    · have hlb : decide (lim < 1) = false := by simp; omega
      go_wp2
      go_meet
      exact ⟨rfl, by rw [Int.max_eq_left (by omega)]⟩
  case rest =>
    obtain ⟨rfl, rfl⟩ := hcut
    go_upto_if 218 with fail
    go_cut [43] from 216 to 219 (fun uv wx => wx = wc ∧ uv = .int .i64 (F3.length : Nat))
    case first =>
      by_cases hl : max lim 1 < (F.length : Int)
      · have hlb : decide (max lim 1 < (F.length : Int)) = true := by simp only [hl, decide_true]
        go_wp2
        go_meet
        exact ⟨rfl, by rw [HM3.out, Nat.min_eq_left (by omega)]; congr 1; omega⟩
      · have hlb : decide (max lim 1 < (F.length : Int)) = false := by simp only [hl, decide_false]
        go_wp2
        go_meet
        exact ⟨rfl, by rw [HM3.out, Nat.min_eq_right (by omega)]⟩
    case rest =>
      obtain ⟨rfl, rfl⟩ := hcut
      rename_i K hK
      refine hK _ _ ?_
      exact ws_end ts F F3 _ B B3 B6 B7 w0 _ ad at1 ax ad2 at2 ax2 ad3 at3 ax3 cd ct cx cd2 ct2 cx2 cd3 ct3 cx3 s1 f1 s2 f2 s3 f3 HB8 (by omega) (allF_order HT.out.1) HFS HF3 HY8 HY2 HY3 _ _ _ _ _ _ _ _ _ _ _ _ _ _ _ _ _ _ _ _ _ _ _ _ _ _ _ _ _ _ _ _ _ _ _ _ _ _ _ _ _ _ _ _ _ _ _ _ _ _ _ _ _ _ _ _ _ _ _ _ _ _ _ _ _ _ _ _ _ _ _ _ _ _ _ _ _ _ _ _ _ _ _ _ _ _ _ _ _ _ _ _ _ _ _ _ _ _ _ _ _ _ _ _ _ _ _ _ _ _ _ _ _ _ _ _ _ _ _ _ _ _ _ _ _ _ _ _ _ _ _ _ _ _ _ _ _ _ _ _ _ _ _ _ _ _ _ _ _ _ _ _ _ _ _ _ _ _ _ _ _ _ _ _ _ _ _ _ _ _ _ _ _ _ _ _ _ _ _ _ _ _ _ _ _ _ _ _ _ _ _ _ _ _ _ _ _ _ _ _ _ _ _ _ _ _ _ _ _ _ _ _ _ _ _ _ _ _ _ _ _ _ _ _ _ _ _ _ _ _ _ _ _ _ _ _ _ _ _ _ _ _ _ _ _ _ _ _ _ _ _ _ _ _ _ _ _ _ _ _ _ _ _ _ _ _ _ _ _ _ _ _ _ _ _ _ _ _ _ _ _ _ _ _ _ _ _ _ _ _ _ _ _ _ _ _ _ _ _ _ _ _ _ _ _ _ _ _ _ _ _ _ _ _ _ _ _ _ _ _ _ _ _ _

end Go.Proofs.Qxb6618677a
