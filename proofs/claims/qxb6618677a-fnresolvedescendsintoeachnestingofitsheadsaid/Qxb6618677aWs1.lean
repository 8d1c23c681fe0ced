/-
  FnWalkStopsAndPassesOverInOrder: the walk's end (the comparison loops).
-/
import Derived.Test.Qxb6618677aWs0
namespace Go.Proofs.Qxb6618677a
open Go.RowKit

/-- The n-th remainder of a row of statements. -/
def ctail : Nat → Code → Code
  | 0, c => c
  | n + 1, .seq _ b => ctail n b
  | _ + 1, c => c

set_option maxRecDepth 100000 in
set_option maxHeartbeats 4000000 in
theorem ws_end (ts : List Stif.Tok) (F F3 : List (Nat × Stif.Tok)) (m B B3 B6 B7 : Nat) (w0 w : World) (ad at1 ax ad2 at2 ax2 ad3 at3 ax3 : Option Addr) (cd ct cx cd2 ct2 cx2 cd3 ct3 cx3 : Nat) (s1 f1 s2 f2 s3 f3 : Value)
    (HB : Hid (Below B w0 w)) (hAl : (allF ts).length ≤ 1048576) (HO : Hid ((allF ts).Pairwise fun p q => p.2.tok < q.2.tok)) (HFS : Hid (F.Sublist (allF ts))) (HF3 : Hid (F3 = F.take m))
    (HY : Hid (Yield w B3 (.slice ad (allF ts).length cd) (.slice at1 (allF ts).length ct) (.slice ax (allF ts).length cx) s1 f1 (allF ts)))
    (HY2 : Hid (Yield w B6 (.slice ad2 F.length cd2) (.slice at2 F.length ct2) (.slice ax2 F.length cx2) s2 f2 F))
    (HY3 : Hid (Yield w B7 (.slice ad3 F3.length cd3) (.slice at3 F3.length ct3) (.slice ax3 F3.length cx3) s3 f3 F3))
    (u0 u1 u2 u3 u4 u5 u6 u7 u8 u9 u10 u11 u12 u13 u14 u15 u16 u17 u18 u19 u20 u21 u22 u26 u27 u28 u30 u31 u35 u36 u40 u41 u42 u44 u45 u46 u47 u48 u49 u50 u51 u52 u53 u54 u55 u56 u57 u58 u59 u60 u61 u62 u63 u64 u65 u66 u67 u68 u69 u70 u71 u72 u73 u74 u75 u76 u77 u78 u79 u80 u81 u82 u83 u84 u85 u86 u87 u88 u89 u90 u91 u92 u93 u94 u95 u96 u97 u98 u99 u100 u101 u102 u103 u104 u105 u106 u107 u108 u109 u110 u111 u112 u113 u114 u115 u116 u117 u118 u119 u120 u121 u122 u123 u124 u125 u126 u127 u128 u129 u130 u131 u132 u133 u134 u135 u136 u137 u138 u139 u140 u141 u142 u143 u144 u145 u146 u147 u148 u149 u150 u151 u152 u153 u154 u155 u156 u157 u158 u159 u160 u161 u162 u163 u164 u165 u166 u167 u168 u169 u170 u171 u172 u173 u174 u175 u176 u177 u178 u179 u180 u181 u182 u183 u184 u185 u186 u187 u188 u189 u190 u191 u192 u193 u194 u195 u196 u197 u198 u199 u200 u201 u202 u203 u204 u205 u206 u207 u208 u209 u210 u211 u212 u213 u214 u215 u216 u217 u218 u219 u220 u221 u222 u223 u224 u225 u226 u227 u228 u229 u230 u231 u232 u233 u234 u235 u236 u237 u238 u239 u240 u241 u242 u243 u244 u245 u246 u247 u248 u249 u250 u251 u252 u253 u254 u255 u256 u257 u258 u259 u260 u261 u262 u263 u264 u265 u266 u267 u268 u269 u270 u271 u272 u273 u274 u275 u276 u277 u278 u279 u280 u281 u282 u283 u284 u285 u286 u287 u288 u289 u290 u291 u292 u293 u294 u295 u296 u297 u298 u299 u300 u301 u302 u303 u304 u305 u306 u307 u308 u309 u310 u311 u312 u313 u314 u315 u316 u317 u318 u319 u320 u321 u322 u323 u324 u325 u326 u327 u328 u329 u330 u331 u332 u333 u334 : Value) :
    Code.wp Try.prog (ctail 23 (Try.f5.body.getD .skip)) (bodyPost Try.prog Try.f5 fun e w' => e = .returned (.bool true) ∧ Below B w0 w') { tmps := #[u0, u1, u2, u3, u4, u5, u6, u7, u8, u9, u10, u11, u12, u13, u14, u15, u16, u17, u18, u19, u20, u21, u22, .slice ad (allF ts).length cd, .slice at1 (allF ts).length ct, .slice ax (allF ts).length cx, u26, u27, u28, .int .i64 ((allF ts).length : Nat), u30, u31, .slice ad2 F.length cd2, .slice at2 F.length ct2, .slice ax2 F.length cx2, u35, u36, .slice ad3 F3.length cd3, .slice at3 F3.length ct3, .slice ax3 F3.length cx3, u40, u41, u42, .int .i64 (F3.length : Nat), u44, u45, u46, u47, u48, u49, u50, u51, u52, u53, u54, u55, u56, u57, u58, u59, u60, u61, u62, u63, u64, u65, u66, u67, u68, u69, u70, u71, u72, u73, u74, u75, u76, u77, u78, u79, u80, u81, u82, u83, u84, u85, u86, u87, u88, u89, u90, u91, u92, u93, u94, u95, u96, u97, u98, u99, u100, u101, u102, u103, u104, u105, u106, u107, u108, u109, u110, u111, u112, u113, u114, u115, u116, u117, u118, u119, u120, u121, u122, u123, u124, u125, u126, u127, u128, u129, u130, u131, u132, u133, u134, u135, u136, u137, u138, u139, u140, u141, u142, u143, u144, u145, u146, u147, u148, u149, u150, u151, u152, u153, u154, u155, u156, u157, u158, u159, u160, u161, u162, u163, u164, u165, u166, u167, u168, u169, u170, u171, u172, u173, u174, u175, u176, u177, u178, u179, u180, u181, u182, u183, u184, u185, u186, u187, u188, u189, u190, u191, u192, u193, u194, u195, u196, u197, u198, u199, u200, u201, u202, u203, u204, u205, u206, u207, u208, u209, u210, u211, u212, u213, u214, u215, u216, u217, u218, u219, u220, u221, u222, u223, u224, u225, u226, u227, u228, u229, u230, u231, u232, u233, u234, u235, u236, u237, u238, u239, u240, u241, u242, u243, u244, u245, u246, u247, u248, u249, u250, u251, u252, u253, u254, u255, u256, u257, u258, u259, u260, u261, u262, u263, u264, u265, u266, u267, u268, u269, u270, u271, u272, u273, u274, u275, u276, u277, u278, u279, u280, u281, u282, u283, u284, u285, u286, u287, u288, u289, u290, u291, u292, u293, u294, u295, u296, u297, u298, u299, u300, u301, u302, u303, u304, u305, u306, u307, u308, u309, u310, u311, u312, u313, u314, u315, u316, u317, u318, u319, u320, u321, u322, u323, u324, u325, u326, u327, u328, u329, u330, u331, u332, u333, u334], defers := [] } w := by
  conv in ctail _ _ => whnf
  have hFl := HFS.out.length_le
  have hF3l : F3.length ≤ F.length := by rw [HF3.out, List.length_take]; omega
  go_wp2
  go_loopg [44] F3.length (fun gk kv wq => ∃ k m0 : Nat, gk = F3.length - k ∧ k ≤ F3.length ∧ kv = .int .i64 (k : Int) ∧ wq = w.drewN m0)
  case atStart => exact ⟨0, 0, rfl, by omega, rfl, rfl⟩
  case round =>
    obtain ⟨k, m0, hgk, hk, rfl, rfl⟩ := hrel
    by_cases hlt : k < F3.length
    · obtain ⟨p, hp⟩ : ∃ p, F3[k]? = some p := ⟨_, List.getElem?_eq_getElem hlt⟩
      have hp2 : F[k]? = some p := by
        rw [HF3.out, List.getElem?_take] at hp
        split at hp
        · exact hp
        · cases hp
      obtain ⟨g1, rfl, hnc1, hcm1, _, hgl1⟩ := row_some HY2.out.dep (by omega)
      obtain ⟨g2, rfl, hnc2, hcm2, _, hgl2⟩ := row_some HY2.out.tok (by omega)
      obtain ⟨g3, rfl, hnc3, hcm3, _, hgl3⟩ := row_some HY2.out.txt (by omega)
      obtain ⟨g4, rfl, hnc4, hcm4, _, hgl4⟩ := row_some HY3.out.dep (by omega)
      obtain ⟨g5, rfl, hnc5, hcm5, _, hgl5⟩ := row_some HY3.out.tok (by omega)
      obtain ⟨g6, rfl, hnc6, hcm6, _, hgl6⟩ := row_some HY3.out.txt (by omega)
      have c1 := rowCell HY2.out.dep hp2
      have c2 := rowCell HY2.out.tok hp2
      have c3 := rowCell HY2.out.txt hp2
      have c4 := rowCell HY3.out.dep hp
      have c5 := rowCell HY3.out.tok hp
      have c6 := rowCell HY3.out.txt hp
      have h1 : ((p.1 : Int) != (p.1 : Int)) = false := by simp
      have h2 : ((p.2.tok : Int) != (p.2.tok : Int)) = false := by simp
      have h3 : ((p.2.txt : Int) != (p.2.txt : Int)) = false := by simp
      clear hp hp2
      go_wp2
      go_quiet (fail)
      go_wp2
      go_roundg (F3.length - (k + 1))
      case measure => omega
      case rel => exact ⟨k + 1, _, rfl, by omega, by go_num, rfl⟩
    obtain rfl : k = F3.length := by omega
    clear hgk hk hlt
    go_wp2
    go_loopg [45, 46] F.length (fun gk jv iv wq => ∃ i j m0 : Nat, gk = F.length - i ∧ i ≤ F.length ∧ jv = .int .i64 (j : Int) ∧ iv = .int .i64 (i : Int) ∧ wq = w.drewN m0 ∧ Hid ((F.drop i).Sublist ((allF ts).drop j)))
    case atStart => exact ⟨0, 0, m0, rfl, by omega, rfl, rfl, rfl, (by simpa using HFS.out : (F.drop 0).Sublist ((allF ts).drop 0))⟩
    case round =>
      obtain ⟨i, j, m1, hgk, hi, rfl, rfl, rfl, HS⟩ := hrel
      by_cases hlt : i < F.length
      · obtain ⟨p, hp⟩ : ∃ p, F[i]? = some p := ⟨_, List.getElem?_eq_getElem hlt⟩
        have HP : Hid (F[i]? = some p) := hp
        obtain ⟨g1, rfl, hnc1, hcm1, _, hgl1⟩ := row_some HY2.out.dep (by omega)
        obtain ⟨g2, rfl, hnc2, hcm2, _, hgl2⟩ := row_some HY2.out.tok (by omega)
        obtain ⟨g3, rfl, hnc3, hcm3, _, hgl3⟩ := row_some HY2.out.txt (by omega)
        have c1 := rowCell HY2.out.dep hp
        have c2 := rowCell HY2.out.tok hp
        have c3 := rowCell HY2.out.txt hp
        obtain ⟨g4, rfl, hnc4, hcm4, _, hgl4⟩ := row_some HY.out.dep (by omega)
        obtain ⟨g5, rfl, hnc5, hcm5, _, hgl5⟩ := row_some HY.out.tok (by omega)
        obtain ⟨g6, rfl, hnc6, hcm6, _, hgl6⟩ := row_some HY.out.txt (by omega)
        clear hp
        go_wp2
        go_loopg [45] ((allF ts).length - j) (fun gq jv wq => ∃ j m0 : Nat, gq = (allF ts).length - j ∧ jv = .int .i64 (j : Int) ∧ wq = w.drewN m0 ∧ Hid ((F.drop i).Sublist ((allF ts).drop j)))
        case atStart => exact ⟨j, m1, rfl, rfl, rfl, HS⟩
        case round =>
          clear HS
          obtain ⟨jj, m2, hgq, rfl, rfl, HS2⟩ := hrel
          have hjl : jj < (allF ts).length := merge_end HS2.out hlt
          obtain ⟨q, hq⟩ : ∃ q, (allF ts)[jj]? = some q := ⟨_, List.getElem?_eq_getElem hjl⟩
          have HQ : Hid ((allF ts)[jj]? = some q) := hq
          have c4 := rowCell HY.out.dep hq
          have c5 := rowCell HY.out.tok hq
          have c6 := rowCell HY.out.txt hq
          have hltb : decide ((jj : Int) < ((allF ts).length : Int)) = true := by simp; omega
          clear hq
          by_cases hne : q.2.tok = p.2.tok
          · obtain ⟨rfl, hms⟩ := merge_hit HO.out HS2.out HP.out HQ.out hne
            have HM : Hid ((F.drop (i + 1)).Sublist ((allF ts).drop (jj + 1))) := hms
            have h0 : ((jj : Int) == ((allF ts).length : Int)) = false := by simp; omega
            have h1 : ((p.1 : Int) != (p.1 : Int)) = false := by simp
            have h2 : ((p.2.tok : Int) != (p.2.tok : Int)) = false := by simp
            have h3 : ((p.2.txt : Int) != (p.2.txt : Int)) = false := by simp
            clear hms hne
            go_wp2
            go_quiet (fail)
            go_wp2
            go_quiet (fail)
            go_wp2
            go_roundg (F.length - (i + 1))
            case measure => omega
            case rel => exact ⟨i + 1, jj + 1, _, rfl, by omega, by go_num, by go_num, rfl, HM⟩
          · have HM : Hid ((F.drop i).Sublist ((allF ts).drop (jj + 1))) := merge_miss HS2.out HP.out HQ.out hne
            have h2 : ((q.2.tok : Int) != (p.2.tok : Int)) = true := by simp; omega
            clear hne
            go_wp2
            go_quiet (fail)
            go_wp2
            go_roundg ((allF ts).length - (jj + 1))
            case measure => omega
            case rel => exact ⟨jj + 1, _, rfl, by go_num, rfl, HM⟩
      obtain rfl : i = F.length := by omega
      clear hgk hi hlt
      go_wp2
      go_ret
      exact ⟨rfl, below_drewN HB.out _⟩

end Go.Proofs.Qxb6618677a
