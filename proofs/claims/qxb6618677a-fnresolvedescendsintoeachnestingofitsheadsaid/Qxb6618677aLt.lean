/-
  The law on Resolve's head: the whole path resolved, then the loop.
-/
import Derived.Test.Qxb6618677aLf
namespace Go.Proofs.Qxb6618677a
open Go.RowKit

set_option maxRecDepth 100000 in
set_option maxHeartbeats 4000000 in
theorem l5_res (T X h : ByteArray) (Pq : List ByteArray) (nm : ByteArray) (ns R : List Stif.Node) (ts : List Stif.Tok) (op : List Nat) (B0 g o c base s bd cn bt i0 x0 b20 : Nat) (ao : Option Addr) (ix : Int) (w0 w : World) (HP : Hid (LP T X ns R ts op s bd i0 x0)) (HW : Hid (LW T X (h :: Pq) nm ns R ts op B0 g o c base s bd cn bt i0 x0 ao w0 w)) (hPl : Pq.length ≤ 4096)
    (hb20 : w.heap[b20]? = some (.cells #[.pointer (some ⟨bt, 0, none⟩), .int .i64 i0, .int .i64 x0, .int .i64 0] 35 (0, 0))) (u4 u5 u6 u7 u8 u9 u10 u11 u12 u13 u14 u15 u16 u18 u21 u22 u23 u24 u25 u26 u27 u28 u29 u30 u31 u32 u33 u34 u35 u36 u37 u38 u39 u40 u41 u42 u43 u44 u45 u46 u47 u48 u49 u50 u51 u52 u53 u54 u55 u56 u57 u58 u59 u60 u61 u62 u63 u64 u65 u66 u67 u68 u69 u70 u71 u72 u73 u74 u75 u76 u77 u78 u79 u80 u81 u82 u83 u84 u85 u86 u87 u88 u89 u90 u91 u92 u93 u94 u95 u96 u97 u98 u99 u100 u101 u102 u103 u104 u105 u106 u107 u108 u109 u110 u111 u112 u113 u114 u115 u116 u117 u118 u119 u120 u121 u122 u123 u124 u125 u126 u127 u128 u129 u130 u131 u132 u133 u134 u135 u136 u137 u138 u139 u140 u141 u142 u143 u144 u145 u146 u147 u148 u149 u150 u151 u152 u153 u154 u155 u156 u157 u158 u159 u160 u161 u162 u163 u164 u165 u166 u167 u168 u169 u170 u171 u172 u173 u174 u175 u176 u177 u178 u179 u180 u181 u182 u183 u184 u185 u186 u187 u188 u189 u190 u191 u192 u193 u194 u195 u196 u197 u198 u199 u200 u201 u202 u203 u204 u205 u206 u207 u208 u209 u210 u211 u212 u213 u214 u215 u216 u217 u218 u219 u220 u221 u222 u223 u224 u225 u226 u227 u228 u229 u230 u231 u232 u233 u234 u235 u236 u237 u238 u239 u240 u241 u242 u243 u244 u245 u246 u247 u248 u249 u250 u251 : Value) :
    Code.wp Try.prog (ctail 12 (Try.f7.body.getD .skip)) (bodyPost Try.prog Try.f7 fun e w' => e = .returned (.bool true) ∧ Below B0 w0 w') { tmps := #[.slice (some ⟨g, o, none⟩) (Pq.length + 1 + 1) c, .int .i64 ix, .string T, .string X, u4, u5, u6, u7, u8, u9, u10, u11, u12, u13, u14, u15, u16, .slice ao ns.length cn, u18, .int .i64 ((s : Int) - 1), .pointer (some ⟨b20, 0, none⟩), u21, u22, u23, u24, u25, u26, u27, u28, u29, u30, u31, u32, u33, u34, u35, u36, u37, u38, u39, u40, u41, u42, u43, u44, u45, u46, u47, u48, u49, u50, u51, u52, u53, u54, u55, u56, u57, u58, u59, u60, u61, u62, u63, u64, u65, u66, u67, u68, u69, u70, u71, u72, u73, u74, u75, u76, u77, u78, u79, u80, u81, u82, u83, u84, u85, u86, u87, u88, u89, u90, u91, u92, u93, u94, u95, u96, u97, u98, u99, u100, u101, u102, u103, u104, u105, u106, u107, u108, u109, u110, u111, u112, u113, u114, u115, u116, u117, u118, u119, u120, u121, u122, u123, u124, u125, u126, u127, u128, u129, u130, u131, u132, u133, u134, u135, u136, u137, u138, u139, u140, u141, u142, u143, u144, u145, u146, u147, u148, u149, u150, u151, u152, u153, u154, u155, u156, u157, u158, u159, u160, u161, u162, u163, u164, u165, u166, u167, u168, u169, u170, u171, u172, u173, u174, u175, u176, u177, u178, u179, u180, u181, u182, u183, u184, u185, u186, u187, u188, u189, u190, u191, u192, u193, u194, u195, u196, u197, u198, u199, u200, u201, u202, u203, u204, u205, u206, u207, u208, u209, u210, u211, u212, u213, u214, u215, u216, u217, u218, u219, u220, u221, u222, u223, u224, u225, u226, u227, u228, u229, u230, u231, u232, u233, u234, u235, u236, u237, u238, u239, u240, u241, u242, u243, u244, u245, u246, u247, u248, u249, u250, u251], defers := [] } w := by
  conv in ctail 12 _ => whnf
  have l20 : b20 < w.heap.size := (Array.getElem?_eq_some_iff.1 hb20).1
  obtain ⟨f0, f1, f2, f3⟩ := box4 hb20
  clear hb20
  go_wp2_with fail
  refine (resolve_any bt g o c T X (h :: Pq) nm ix ts i0 x0 bd w HP.out.hT HP.out.hX HW.out.tree HW.out.path (by simp; omega) HP.out.chain HP.out.bal).mono ?_
  rintro e w1 ⟨hb1, hres⟩
  clear f0 f1 f2 f3 l20
  by_cases hix : ix = 0
  · subst hix
    obtain ⟨nA, okA, pv1, g1, rfl, hpv1, hnA, hokA⟩ := res_zero hres
    obtain ⟨q1, cq1, hq1, hsp1⟩ := SR.of_str hpv1 (by simp; omega)
    subst hq1
    have HW1 : Hid (LW T X (h :: Pq) nm ns R ts op B0 g o c base s bd cn bt i0 x0 ao w0 w1) := HW.out.next hb1
    have HA : Hid (nA = decide ((named X (h :: Pq) nm false ts).length = 0) ∧ okA = (decide (0 < (named X (h :: Pq) nm false ts).length) || decide (0 < (named X (h :: Pq) nm true ts).length)) ∧ StrRow w1 (.slice q1 (h :: Pq).length cq1) g1 (h :: Pq)) := ⟨hnA, hokA, hpv1⟩
    have HOK : Hid (okA = (decide (0 < (named X (h :: Pq) nm false ts).length) || decide (0 < (named X (h :: Pq) nm true ts).length))) := hokA
    clear hres hnA hpv1 hsp1 hb1 hokA
    dsimp only
    go_wp2_with fail
    have HW1' : Hid (LW T X (h :: Pq) nm ns R ts op B0 g o c base s bd cn bt i0 x0 ao w0 (w1.alloc (.cells #[.string nm, .bool nA, .pointer (some ⟨bt, 0, none⟩), .int .i64 i0, .int .i64 x0, .int .i64 0, (.slice q1 (Pq.length + 1) cq1), .int .i64 0] 48))) := HW1.out.next ((Below.refl _ _).alloc (Nat.le_refl _) _)
    refine (zzvalues_any bt g1 T X (h :: Pq) nm nA (.slice q1 (h :: Pq).length cq1) 0 ts i0 x0 bd _ HP.out.hT HP.out.hX HW1'.out.tree (HA.out.2.2.below ((Below.refl _ _).alloc (Nat.le_refl _) _)) HP.out.chain HP.out.bal).mono ?_
    rintro e w2 ⟨hb2, v2, rfl, hrow2⟩
    rw [vals_zero HP.out.chain HP.out.nonv (h :: Pq) nm nA HA.out.1] at hrow2
    obtain ⟨v1, c1, rfl, hv1⟩ := SR.of_owns hrow2 (vlen HP.out (h :: Pq) nm false)
    have HW2 : Hid (LW T X (h :: Pq) nm ns R ts op B0 g o c base s bd cn bt i0 x0 ao w0 w2) := HW1'.out.next hb2
    have HV1 : Hid (SR w2 v1 (allv X ts (named X (h :: Pq) nm false ts)).length (allv X ts (named X (h :: Pq) nm false ts))) := hv1
    clear hb2 hrow2 hv1 HW1' HW1 HA HW
    dsimp only
    go_wp2_with fail
    refine (runEnd_run _ ns R base s bd _ _ HW2.out.row HP.out.len HP.out.run).mono ?_
    rintro e w3 ⟨rfl, hb3⟩
    have HW3 : Hid (LW T X (h :: Pq) nm ns R ts op B0 g o c base s bd cn bt i0 x0 ao w0 w3 ∧ Below w2.heap.size w2 w3) := ⟨HW2.out.next hb3, hb3⟩
    clear hb3
    dsimp only
    go_upto_region 29 with fail
    go_cut [26] from 116 to 128 (fun v26 wx => v26 = .bool false ∧ wx = w3)
    case first =>
      go_wp2
      go_meet
      exact ⟨rfl, rfl⟩
    case rest =>
      obtain ⟨rfl, rfl⟩ := hcut
      rename_i K hK
      refine hK _ _ ?_
      exact l5_loop T X h Pq nm ns R ts op B0 g o c base s bd cn bt i0 x0 ao _ okA w0 _ HP HW3.out.1 hPl rfl HOK.out (.int .i64 0) (.bool okA) (.slice v1 (allv X ts (named X (h :: Pq) nm false ts)).length c1) (fun u2 u3 u4 u5 u6 u7 u8 u9 u10 u11 u12 u13 u14 u15 u16 u17 u18 u19 u20 u21 u24 u27 u28 u29 u30 u31 u32 u33 u34 u35 u36 u37 u38 u39 u40 u41 u42 u43 u44 u45 u46 u47 u48 u49 u50 u51 u52 u53 u54 u55 u56 u57 u58 u59 u60 u61 u62 u63 u64 u65 u66 u67 u68 u69 u70 u71 u72 u73 u74 u75 u76 u77 u78 u79 u80 u81 u82 u83 u84 u85 u86 u87 u88 u89 u90 u91 u92 u93 u94 u95 u96 u97 u98 u99 u100 u101 u102 u103 u104 u105 u106 u107 u108 u109 u110 u111 u112 u113 u114 u115 u116 u117 u118 u119 u120 u121 u122 u123 u124 u125 u126 u127 u128 u129 u130 u131 u132 u133 u134 u135 u136 u137 u138 u139 u140 u141 u142 u143 u144 u145 u146 u147 u148 u149 u150 u151 u152 u153 u154 u155 u156 u157 u158 u159 u160 u161 u162 u163 u164 u165 u166 u167 u168 u169 u170 u171 u172 u173 u174 u175 u176 u177 u178 u179 u180 u181 u182 u183 u184 u185 u186 u187 u188 u189 u190 u191 u192 u193 u194 u195 u196 u197 u198 u199 u200 u201 u202 u203 u204 u205 u206 u207 u208 u209 u210 u211 u212 u213 u214 u215 u216 u217 u218 u219 u220 u221 u222 u223 u224 u225 u226 u227 u228 u229 u230 u231 u232 u233 u234 u235 u236 u237 u238 u239 u240 u241 u242 u243 u244 u245 u246 u247 u248 u249 u250 u251 jv cj w' hb' hsr => by
        exact l5_zero B0 c1 cj _ okA v1 jv w0 w' ⟨(HV1.out.below HW3.out.2).below hb', hsr, (HW3.out.1.next hb').below⟩ _ _ _ _ _ _ _ _ _ _ _ _ _ _ _ _ _ _ _ _ _ _ _ _ _ _ _ _ _ _ _ _ _ _ _ _ _ _ _ _ _ _ _ _ _ _ _ _ _ _ _ _ _ _ _ _ _ _ _ _ _ _ _ _ _ _ _ _ _ _ _ _ _ _ _ _ _ _ _ _ _ _ _ _ _ _ _ _ _ _ _ _ _ _ _ _ _ _ _ _ _ _ _ _ _ _ _ _ _ _ _ _ _ _ _ _ _ _ _ _ _ _ _ _ _ _ _ _ _ _ _ _ _ _ _ _ _ _ _ _ _ _ _ _ _ _ _ _ _ _ _ _ _ _ _ _ _ _ _ _ _ _ _ _ _ _ _ _ _ _ _ _ _ _ _ _ _ _ _ _ _ _ _ _ _ _ _ _ _ _ _ _ _ _ _ _ _ _ _ _ _ _ _ _ _ _ _ _ _ _ _ _ _ _ _ _ _ _ _ _ _ _ _ _ _ _ _ _ _ _ _ _ _ _ _ _ _ _ _ _ _ _ _ _ _ _ _) _ _ _ _ _ _ _ _ _ _ _ _ _ _ _ _ _ _ _ _ _ _ _ _ _ _ _ _ _ _ _ _ _ _ _ _ _ _ _ _ _ _ _ _ _ _ _ _ _ _ _ _ _ _ _ _ _ _ _ _ _ _ _ _ _ _ _ _ _ _ _ _ _ _ _ _ _ _ _ _ _ _ _ _ _ _ _ _ _ _ _ _ _ _ _ _ _ _ _ _ _ _ _ _ _ _ _ _ _ _ _ _ _ _ _ _ _ _ _ _ _ _ _ _ _ _ _ _ _ _ _ _ _ _ _ _ _ _ _ _ _ _ _ _ _ _ _ _ _ _ _ _ _ _ _ _ _ _ _ _ _ _ _ _ _ _ _ _ _ _ _ _ _ _ _ _ _ _ _ _ _ _ _ _ _ _ _ _ _ _ _ _ _ _ _ _ _ _ _ _ _ _ _ _ _ _ _ _ _ _ _ _ _ _ _ _ _ _ _ _ _ _ _ _ _ _ _ _ _ _ _ _ _ _ _ _ _ _ _ _ _
  · rcases hres with ⟨_, hz, rfl⟩ | ⟨pv1, g1, hpv1, _, ⟨hF, hpk, rfl⟩ | ⟨h0, _⟩⟩
    · have HI : Hid (ix ≠ 0) := hix
      have HM : Hid (ix < 1 ∨ ((allv X ts (named X (h :: Pq) nm false ts)).length : Int) < ix) := by
        rcases hz with hz | hz
        · rw [hz]
          have e : (allv X ts ([] : List (Nat × Stif.Tok))).length = 0 := rfl
          rw [e]
          show ix < 1 ∨ ((0 : Nat) : Int) < ix
          have := hix
          omega
        · exact picks_none hix hz
      have HW1 : Hid (LW T X (h :: Pq) nm ns R ts op B0 g o c base s bd cn bt i0 x0 ao w0 w1) := HW.out.next hb1
      clear hix hz hb1
      dsimp only
      go_wp2_with fail
      have HW1' : Hid (LW T X (h :: Pq) nm ns R ts op B0 g o c base s bd cn bt i0 x0 ao w0 (w1.alloc (.cells #[.string ByteArray.empty, .bool false, .pointer none, .int .i64 0, .int .i64 0, .int .i64 0, .slice none 0 0, .int .i64 0] 48))) := HW1.out.next ((Below.refl _ _).alloc (Nat.le_refl _) _)
      refine (zzvalues_nil _).mono ?_
      rintro e w2 ⟨hb2, rfl⟩
      have HW2 : Hid (LW T X (h :: Pq) nm ns R ts op B0 g o c base s bd cn bt i0 x0 ao w0 w2) := HW1'.out.next hb2
      clear hb2 HW1' HW1 HW
      dsimp only
      go_wp2_with fail
      refine (runEnd_run _ ns R base s bd _ _ HW2.out.row HP.out.len HP.out.run).mono ?_
      rintro e w3 ⟨rfl, hb3⟩
      have HW3 : Hid (LW T X (h :: Pq) nm ns R ts op B0 g o c base s bd cn bt i0 x0 ao w0 w3 ∧ Below w2.heap.size w2 w3) := ⟨HW2.out.next hb3, hb3⟩
      clear hb3
      dsimp only
      go_upto_region 29 with fail
      go_cut [26] from 116 to 128 (fun v26 wx => v26 = .bool false ∧ wx = w3)
      case first =>
        go_wp2
        go_meet
        exact ⟨rfl, rfl⟩
      case rest =>
        obtain ⟨rfl, rfl⟩ := hcut
        rename_i K hK
        refine hK _ _ ?_
        exact l5_loop T X h Pq nm ns R ts op B0 g o c base s bd cn bt i0 x0 ao _ _ w0 _ HP HW3.out.1 hPl rfl rfl (.int .i64 ix) (.bool false) (.slice none 0 0) (fun u2 u3 u4 u5 u6 u7 u8 u9 u10 u11 u12 u13 u14 u15 u16 u17 u18 u19 u20 u21 u24 u27 u28 u29 u30 u31 u32 u33 u34 u35 u36 u37 u38 u39 u40 u41 u42 u43 u44 u45 u46 u47 u48 u49 u50 u51 u52 u53 u54 u55 u56 u57 u58 u59 u60 u61 u62 u63 u64 u65 u66 u67 u68 u69 u70 u71 u72 u73 u74 u75 u76 u77 u78 u79 u80 u81 u82 u83 u84 u85 u86 u87 u88 u89 u90 u91 u92 u93 u94 u95 u96 u97 u98 u99 u100 u101 u102 u103 u104 u105 u106 u107 u108 u109 u110 u111 u112 u113 u114 u115 u116 u117 u118 u119 u120 u121 u122 u123 u124 u125 u126 u127 u128 u129 u130 u131 u132 u133 u134 u135 u136 u137 u138 u139 u140 u141 u142 u143 u144 u145 u146 u147 u148 u149 u150 u151 u152 u153 u154 u155 u156 u157 u158 u159 u160 u161 u162 u163 u164 u165 u166 u167 u168 u169 u170 u171 u172 u173 u174 u175 u176 u177 u178 u179 u180 u181 u182 u183 u184 u185 u186 u187 u188 u189 u190 u191 u192 u193 u194 u195 u196 u197 u198 u199 u200 u201 u202 u203 u204 u205 u206 u207 u208 u209 u210 u211 u212 u213 u214 u215 u216 u217 u218 u219 u220 u221 u222 u223 u224 u225 u226 u227 u228 u229 u230 u231 u232 u233 u234 u235 u236 u237 u238 u239 u240 u241 u242 u243 u244 u245 u246 u247 u248 u249 u250 u251 jv cj w' hb' hsr => by
          exact l5_miss B0 0 cj _ none jv ix w0 w' HI.out HM.out (HW3.out.1.next hb').below _ _ _ _ _ _ _ _ _ _ _ _ _ _ _ _ _ _ _ _ _ _ _ _ _ _ _ _ _ _ _ _ _ _ _ _ _ _ _ _ _ _ _ _ _ _ _ _ _ _ _ _ _ _ _ _ _ _ _ _ _ _ _ _ _ _ _ _ _ _ _ _ _ _ _ _ _ _ _ _ _ _ _ _ _ _ _ _ _ _ _ _ _ _ _ _ _ _ _ _ _ _ _ _ _ _ _ _ _ _ _ _ _ _ _ _ _ _ _ _ _ _ _ _ _ _ _ _ _ _ _ _ _ _ _ _ _ _ _ _ _ _ _ _ _ _ _ _ _ _ _ _ _ _ _ _ _ _ _ _ _ _ _ _ _ _ _ _ _ _ _ _ _ _ _ _ _ _ _ _ _ _ _ _ _ _ _ _ _ _ _ _ _ _ _ _ _ _ _ _ _ _ _ _ _ _ _ _ _ _ _ _ _ _ _ _ _ _ _ _ _ _ _ _ _ _ _ _ _ _ _ _ _ _ _ _ _ _ _ _ _ _ _ _ _ _ _ _) _ _ _ _ _ _ _ _ _ _ _ _ _ _ _ _ _ _ _ _ _ _ _ _ _ _ _ _ _ _ _ _ _ _ _ _ _ _ _ _ _ _ _ _ _ _ _ _ _ _ _ _ _ _ _ _ _ _ _ _ _ _ _ _ _ _ _ _ _ _ _ _ _ _ _ _ _ _ _ _ _ _ _ _ _ _ _ _ _ _ _ _ _ _ _ _ _ _ _ _ _ _ _ _ _ _ _ _ _ _ _ _ _ _ _ _ _ _ _ _ _ _ _ _ _ _ _ _ _ _ _ _ _ _ _ _ _ _ _ _ _ _ _ _ _ _ _ _ _ _ _ _ _ _ _ _ _ _ _ _ _ _ _ _ _ _ _ _ _ _ _ _ _ _ _ _ _ _ _ _ _ _ _ _ _ _ _ _ _ _ _ _ _ _ _ _ _ _ _ _ _ _ _ _ _ _ _ _ _ _ _ _ _ _ _ _ _ _ _ _ _ _ _ _ _ _ _ _ _ _ _ _ _ _ _ _ _ _ _ _ _
    · have hpk2 : picks ix (allv X ts (named X (h :: Pq) nm false ts)) ≠ [] := by
        rcases hpk with h0 | h0
        · exact absurd h0 hix
        · exact h0
      obtain ⟨k, q, rfl, hpq, hkq⟩ := picks_some hix hpk2
      obtain ⟨q1, cq1, hq1, hsp1⟩ := SR.of_str hpv1 (by simp; omega)
      subst hq1
      have HW1 : Hid (LW T X (h :: Pq) nm ns R ts op B0 g o c base s bd cn bt i0 x0 ao w0 w1) := HW.out.next hb1
      have HA : Hid (StrRow w1 (.slice q1 (h :: Pq).length cq1) g1 (h :: Pq)) := hpv1
      have HK : Hid ((allv X ts (named X (h :: Pq) nm false ts))[k]? = some q) := hkq
      have HQ : Hid (picks ((k : Int) + 1) (allv X ts (named X (h :: Pq) nm false ts)) = [q]) := hpq
      clear hpk2 hpk hpv1 hsp1 hb1 hkq hpq hF hix
      dsimp only
      go_wp2_with fail
      have HW1' : Hid (LW T X (h :: Pq) nm ns R ts op B0 g o c base s bd cn bt i0 x0 ao w0 (w1.alloc (.cells #[.string nm, .bool false, .pointer (some ⟨bt, 0, none⟩), .int .i64 i0, .int .i64 x0, .int .i64 0, (.slice q1 (Pq.length + 1) cq1), .int .i64 ((k : Int) + 1)] 48))) := HW1.out.next ((Below.refl _ _).alloc (Nat.le_refl _) _)
      refine (zzvalues_any bt g1 T X (h :: Pq) nm false (.slice q1 (h :: Pq).length cq1) ((k : Int) + 1) ts i0 x0 bd _ HP.out.hT HP.out.hX HW1'.out.tree (HA.out.below ((Below.refl _ _).alloc (Nat.le_refl _) _)) HP.out.chain HP.out.bal).mono ?_
      rintro e w2 ⟨hb2, v2, rfl, hrow2⟩
      rw [HQ.out] at hrow2
      obtain ⟨v1, c1, rfl, hv1⟩ := SR.of_owns hrow2 (by simp)
      have HW2 : Hid (LW T X (h :: Pq) nm ns R ts op B0 g o c base s bd cn bt i0 x0 ao w0 w2) := HW1'.out.next hb2
      have HV1 : Hid (SR w2 v1 1 [q]) := hv1
      clear hb2 hrow2 hv1 HW1' HW1 HA HW
      dsimp only
      go_wp2_with fail
      refine (runEnd_run _ ns R base s bd _ _ HW2.out.row HP.out.len HP.out.run).mono ?_
      rintro e w3 ⟨rfl, hb3⟩
      have HW3 : Hid (LW T X (h :: Pq) nm ns R ts op B0 g o c base s bd cn bt i0 x0 ao w0 w3 ∧ Below w2.heap.size w2 w3) := ⟨HW2.out.next hb3, hb3⟩
      clear hb3
      dsimp only
      go_upto_region 29 with fail
      go_cut [26] from 116 to 128 (fun v26 wx => v26 = .bool false ∧ wx = w3)
      case first =>
        go_wp2
        go_meet
        exact ⟨rfl, rfl⟩
      case rest =>
        obtain ⟨rfl, rfl⟩ := hcut
        rename_i K hK
        refine hK _ _ ?_
        exact l5_loop T X h Pq nm ns R ts op B0 g o c base s bd cn bt i0 x0 ao _ _ w0 _ HP HW3.out.1 hPl rfl rfl (.int .i64 ((k : Int) + 1)) (.bool true) (.slice v1 1 c1) (fun u2 u3 u4 u5 u6 u7 u8 u9 u10 u11 u12 u13 u14 u15 u16 u17 u18 u19 u20 u21 u24 u27 u28 u29 u30 u31 u32 u33 u34 u35 u36 u37 u38 u39 u40 u41 u42 u43 u44 u45 u46 u47 u48 u49 u50 u51 u52 u53 u54 u55 u56 u57 u58 u59 u60 u61 u62 u63 u64 u65 u66 u67 u68 u69 u70 u71 u72 u73 u74 u75 u76 u77 u78 u79 u80 u81 u82 u83 u84 u85 u86 u87 u88 u89 u90 u91 u92 u93 u94 u95 u96 u97 u98 u99 u100 u101 u102 u103 u104 u105 u106 u107 u108 u109 u110 u111 u112 u113 u114 u115 u116 u117 u118 u119 u120 u121 u122 u123 u124 u125 u126 u127 u128 u129 u130 u131 u132 u133 u134 u135 u136 u137 u138 u139 u140 u141 u142 u143 u144 u145 u146 u147 u148 u149 u150 u151 u152 u153 u154 u155 u156 u157 u158 u159 u160 u161 u162 u163 u164 u165 u166 u167 u168 u169 u170 u171 u172 u173 u174 u175 u176 u177 u178 u179 u180 u181 u182 u183 u184 u185 u186 u187 u188 u189 u190 u191 u192 u193 u194 u195 u196 u197 u198 u199 u200 u201 u202 u203 u204 u205 u206 u207 u208 u209 u210 u211 u212 u213 u214 u215 u216 u217 u218 u219 u220 u221 u222 u223 u224 u225 u226 u227 u228 u229 u230 u231 u232 u233 u234 u235 u236 u237 u238 u239 u240 u241 u242 u243 u244 u245 u246 u247 u248 u249 u250 u251 jv cj w' hb' hsr => by
          obtain ⟨gv, ov, rfl, d0⟩ := ((HV1.out.below HW3.out.2).below hb').cell 0 q rfl
          obtain ⟨ga, oa, rfl, d1⟩ := hsr.cell k q HK.out
          have hlt := (List.getElem?_eq_some_iff.1 HK.out).1
          exact l5_hit B0 c1 cj k gv ov ga oa _ q w0 w' (by omega) (by have := hsr.le; omega) (by simpa using d0) d1 (HW3.out.1.next hb').below _ _ _ _ _ _ _ _ _ _ _ _ _ _ _ _ _ _ _ _ _ _ _ _ _ _ _ _ _ _ _ _ _ _ _ _ _ _ _ _ _ _ _ _ _ _ _ _ _ _ _ _ _ _ _ _ _ _ _ _ _ _ _ _ _ _ _ _ _ _ _ _ _ _ _ _ _ _ _ _ _ _ _ _ _ _ _ _ _ _ _ _ _ _ _ _ _ _ _ _ _ _ _ _ _ _ _ _ _ _ _ _ _ _ _ _ _ _ _ _ _ _ _ _ _ _ _ _ _ _ _ _ _ _ _ _ _ _ _ _ _ _ _ _ _ _ _ _ _ _ _ _ _ _ _ _ _ _ _ _ _ _ _ _ _ _ _ _ _ _ _ _ _ _ _ _ _ _ _ _ _ _ _ _ _ _ _ _ _ _ _ _ _ _ _ _ _ _ _ _ _ _ _ _ _ _ _ _ _ _ _ _ _ _ _ _ _ _ _ _ _ _ _ _ _ _ _ _ _ _ _ _ _ _ _ _ _ _ _ _ _ _ _ _ _ _ _ _) _ _ _ _ _ _ _ _ _ _ _ _ _ _ _ _ _ _ _ _ _ _ _ _ _ _ _ _ _ _ _ _ _ _ _ _ _ _ _ _ _ _ _ _ _ _ _ _ _ _ _ _ _ _ _ _ _ _ _ _ _ _ _ _ _ _ _ _ _ _ _ _ _ _ _ _ _ _ _ _ _ _ _ _ _ _ _ _ _ _ _ _ _ _ _ _ _ _ _ _ _ _ _ _ _ _ _ _ _ _ _ _ _ _ _ _ _ _ _ _ _ _ _ _ _ _ _ _ _ _ _ _ _ _ _ _ _ _ _ _ _ _ _ _ _ _ _ _ _ _ _ _ _ _ _ _ _ _ _ _ _ _ _ _ _ _ _ _ _ _ _ _ _ _ _ _ _ _ _ _ _ _ _ _ _ _ _ _ _ _ _ _ _ _ _ _ _ _ _ _ _ _ _ _ _ _ _ _ _ _ _ _ _ _ _ _ _ _ _ _ _ _ _ _ _ _ _ _ _ _ _ _ _ _ _ _ _ _ _ _ _
    · exact absurd h0 hix
end Go.Proofs.Qxb6618677a
