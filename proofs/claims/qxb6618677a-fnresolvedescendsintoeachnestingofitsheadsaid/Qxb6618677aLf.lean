/-
  The law on Resolve's head: its loop.
-/
import Derived.Test.Qxb6618677aLh
import Derived.Deep.RegionHeld3
namespace Go.Proofs.Qxb6618677a
open Go.RowKit

set_option maxRecDepth 100000 in
set_option maxHeartbeats 4000000 in
theorem l5_loop (T X h : ByteArray) (Pq : List ByteArray) (nm : ByteArray) (ns R : List Stif.Node) (ts : List Stif.Tok) (op : List Nat) (B0 g o c base s bd cn bt i0 x0 : Nat) (ao : Option Addr) (V : List ByteArray) (sm : Bool) (w0 w : World) (HP : Hid (LP T X ns R ts op s bd i0 x0)) (HW : Hid (LW T X (h :: Pq) nm ns R ts op B0 g o c base s bd cn bt i0 x0 ao w0 w)) (hPl : Pq.length ≤ 4096)
    (hV : V = allv X ts (named X (h :: Pq) nm false ts)) (hsm : sm = (decide (0 < (named X (h :: Pq) nm false ts).length) || decide (0 < (named X (h :: Pq) nm true ts).length))) (x1 x22 x23 : Value)
    (hC : ∀ (u2 u3 u4 u5 u6 u7 u8 u9 u10 u11 u12 u13 u14 u15 u16 u17 u18 u19 u20 u21 u24 u27 u28 u29 u30 u31 u32 u33 u34 u35 u36 u37 u38 u39 u40 u41 u42 u43 u44 u45 u46 u47 u48 u49 u50 u51 u52 u53 u54 u55 u56 u57 u58 u59 u60 u61 u62 u63 u64 u65 u66 u67 u68 u69 u70 u71 u72 u73 u74 u75 u76 u77 u78 u79 u80 u81 u82 u83 u84 u85 u86 u87 u88 u89 u90 u91 u92 u93 u94 u95 u96 u97 u98 u99 u100 u101 u102 u103 u104 u105 u106 u107 u108 u109 u110 u111 u112 u113 u114 u115 u116 u117 u118 u119 u120 u121 u122 u123 u124 u125 u126 u127 u128 u129 u130 u131 u132 u133 u134 u135 u136 u137 u138 u139 u140 u141 u142 u143 u144 u145 u146 u147 u148 u149 u150 u151 u152 u153 u154 u155 u156 u157 u158 u159 u160 u161 u162 u163 u164 u165 u166 u167 u168 u169 u170 u171 u172 u173 u174 u175 u176 u177 u178 u179 u180 u181 u182 u183 u184 u185 u186 u187 u188 u189 u190 u191 u192 u193 u194 u195 u196 u197 u198 u199 u200 u201 u202 u203 u204 u205 u206 u207 u208 u209 u210 u211 u212 u213 u214 u215 u216 u217 u218 u219 u220 u221 u222 u223 u224 u225 u226 u227 u228 u229 u230 u231 u232 u233 u234 u235 u236 u237 u238 u239 u240 u241 u242 u243 u244 u245 u246 u247 u248 u249 u250 u251 : Value) (jv : Option Addr) (cj : Nat) (w' : World), Below w.heap.size w w' → SR w' jv V.length V → Code.wp Try.prog (ctail 20 (Try.f7.body.getD .skip)) (bodyPost Try.prog Try.f7 fun e w' => e = .returned (.bool true) ∧ Below B0 w0 w') { tmps := #[.slice (some ⟨g, o, none⟩) (Pq.length + 1 + 1) c, x1, u2, u3, u4, u5, u6, u7, u8, u9, u10, u11, u12, u13, u14, u15, u16, u17, u18, u19, u20, u21, x22, x23, u24, .slice jv V.length cj, .bool sm, u27, u28, u29, u30, u31, u32, u33, u34, u35, u36, u37, u38, u39, u40, u41, u42, u43, u44, u45, u46, u47, u48, u49, u50, u51, u52, u53, u54, u55, u56, u57, u58, u59, u60, u61, u62, u63, u64, u65, u66, u67, u68, u69, u70, u71, u72, u73, u74, u75, u76, u77, u78, u79, u80, u81, u82, u83, u84, u85, u86, u87, u88, u89, u90, u91, u92, u93, u94, u95, u96, u97, u98, u99, u100, u101, u102, u103, u104, u105, u106, u107, u108, u109, u110, u111, u112, u113, u114, u115, u116, u117, u118, u119, u120, u121, u122, u123, u124, u125, u126, u127, u128, u129, u130, u131, u132, u133, u134, u135, u136, u137, u138, u139, u140, u141, u142, u143, u144, u145, u146, u147, u148, u149, u150, u151, u152, u153, u154, u155, u156, u157, u158, u159, u160, u161, u162, u163, u164, u165, u166, u167, u168, u169, u170, u171, u172, u173, u174, u175, u176, u177, u178, u179, u180, u181, u182, u183, u184, u185, u186, u187, u188, u189, u190, u191, u192, u193, u194, u195, u196, u197, u198, u199, u200, u201, u202, u203, u204, u205, u206, u207, u208, u209, u210, u211, u212, u213, u214, u215, u216, u217, u218, u219, u220, u221, u222, u223, u224, u225, u226, u227, u228, u229, u230, u231, u232, u233, u234, u235, u236, u237, u238, u239, u240, u241, u242, u243, u244, u245, u246, u247, u248, u249, u250, u251], defers := [] } w') (u4 u5 u6 u7 u8 u9 u10 u11 u12 u13 u14 u15 u16 u18 u20 u21 u27 u28 u29 u30 u31 u32 u33 u34 u35 u36 u37 u38 u39 u40 u41 u42 u43 u44 u45 u46 u47 u48 u49 u50 u51 u52 u53 u54 u55 u56 u57 u58 u59 u60 u61 u62 u63 u64 u65 u66 u67 u68 u69 u70 u71 u72 u73 u74 u75 u76 u77 u78 u79 u80 u81 u82 u83 u84 u85 u86 u87 u88 u89 u90 u91 u92 u93 u94 u95 u96 u97 u98 u99 u100 u101 u102 u103 u104 u105 u106 u107 u108 u109 u110 u111 u112 u113 u114 u115 u116 u117 u118 u119 u120 u121 u122 u123 u124 u125 u126 u127 u128 u129 u130 u131 u132 u133 u134 u135 u136 u137 u138 u139 u140 u141 u142 u143 u144 u145 u146 u147 u148 u149 u150 u151 u152 u153 u154 u155 u156 u157 u158 u159 u160 u161 u162 u163 u164 u165 u166 u167 u168 u169 u170 u171 u172 u173 u174 u175 u176 u177 u178 u179 u180 u181 u182 u183 u184 u185 u186 u187 u188 u189 u190 u191 u192 u193 u194 u195 u196 u197 u198 u199 u200 u201 u202 u203 u204 u205 u206 u207 u208 u209 u210 u211 u212 u213 u214 u215 u216 u217 u218 u219 u220 u221 u222 u223 u224 u225 u226 u227 u228 u229 u230 u231 u232 u233 u234 u235 u236 u237 u238 u239 u240 u241 u242 u243 u244 u245 u246 u247 u248 u249 u250 u251 : Value) :
    Code.wp Try.prog (ctail 17 (Try.f7.body.getD .skip)) (bodyPost Try.prog Try.f7 fun e w' => e = .returned (.bool true) ∧ Below B0 w0 w') { tmps := #[.slice (some ⟨g, o, none⟩) (Pq.length + 1 + 1) c, x1, .string T, .string X, u4, u5, u6, u7, u8, u9, u10, u11, u12, u13, u14, u15, u16, .slice ao ns.length cn, u18, .int .i64 ((s : Int) - 1), u20, u21, x22, x23, .int .i64 ((s + R.length : Nat) : Int), .slice none 0 0, .bool false, u27, u28, u29, u30, u31, u32, u33, u34, u35, u36, u37, u38, u39, u40, u41, u42, u43, u44, u45, u46, u47, u48, u49, u50, u51, u52, u53, u54, u55, u56, u57, u58, u59, u60, u61, u62, u63, u64, u65, u66, u67, u68, u69, u70, u71, u72, u73, u74, u75, u76, u77, u78, u79, u80, u81, u82, u83, u84, u85, u86, u87, u88, u89, u90, u91, u92, u93, u94, u95, u96, u97, u98, u99, u100, u101, u102, u103, u104, u105, u106, u107, u108, u109, u110, u111, u112, u113, u114, u115, u116, u117, u118, u119, u120, u121, u122, u123, u124, u125, u126, u127, u128, u129, u130, u131, u132, u133, u134, u135, u136, u137, u138, u139, u140, u141, u142, u143, u144, u145, u146, u147, u148, u149, u150, u151, u152, u153, u154, u155, u156, u157, u158, u159, u160, u161, u162, u163, u164, u165, u166, u167, u168, u169, u170, u171, u172, u173, u174, u175, u176, u177, u178, u179, u180, u181, u182, u183, u184, u185, u186, u187, u188, u189, u190, u191, u192, u193, u194, u195, u196, u197, u198, u199, u200, u201, u202, u203, u204, u205, u206, u207, u208, u209, u210, u211, u212, u213, u214, u215, u216, u217, u218, u219, u220, u221, u222, u223, u224, u225, u226, u227, u228, u229, u230, u231, u232, u233, u234, u235, u236, u237, u238, u239, u240, u241, u242, u243, u244, u245, u246, u247, u248, u249, u250, u251], defers := [] } w := by
  conv in ctail 17 _ => whnf
  have HC : Hid (∀ (u2 u3 u4 u5 u6 u7 u8 u9 u10 u11 u12 u13 u14 u15 u16 u17 u18 u19 u20 u21 u24 u27 u28 u29 u30 u31 u32 u33 u34 u35 u36 u37 u38 u39 u40 u41 u42 u43 u44 u45 u46 u47 u48 u49 u50 u51 u52 u53 u54 u55 u56 u57 u58 u59 u60 u61 u62 u63 u64 u65 u66 u67 u68 u69 u70 u71 u72 u73 u74 u75 u76 u77 u78 u79 u80 u81 u82 u83 u84 u85 u86 u87 u88 u89 u90 u91 u92 u93 u94 u95 u96 u97 u98 u99 u100 u101 u102 u103 u104 u105 u106 u107 u108 u109 u110 u111 u112 u113 u114 u115 u116 u117 u118 u119 u120 u121 u122 u123 u124 u125 u126 u127 u128 u129 u130 u131 u132 u133 u134 u135 u136 u137 u138 u139 u140 u141 u142 u143 u144 u145 u146 u147 u148 u149 u150 u151 u152 u153 u154 u155 u156 u157 u158 u159 u160 u161 u162 u163 u164 u165 u166 u167 u168 u169 u170 u171 u172 u173 u174 u175 u176 u177 u178 u179 u180 u181 u182 u183 u184 u185 u186 u187 u188 u189 u190 u191 u192 u193 u194 u195 u196 u197 u198 u199 u200 u201 u202 u203 u204 u205 u206 u207 u208 u209 u210 u211 u212 u213 u214 u215 u216 u217 u218 u219 u220 u221 u222 u223 u224 u225 u226 u227 u228 u229 u230 u231 u232 u233 u234 u235 u236 u237 u238 u239 u240 u241 u242 u243 u244 u245 u246 u247 u248 u249 u250 u251 : Value) (jv : Option Addr) (cj : Nat) (w' : World), Below w.heap.size w w' → SR w' jv V.length V → Code.wp Try.prog (ctail 20 (Try.f7.body.getD .skip)) (bodyPost Try.prog Try.f7 fun e w' => e = .returned (.bool true) ∧ Below B0 w0 w') { tmps := #[.slice (some ⟨g, o, none⟩) (Pq.length + 1 + 1) c, x1, u2, u3, u4, u5, u6, u7, u8, u9, u10, u11, u12, u13, u14, u15, u16, u17, u18, u19, u20, u21, x22, x23, u24, .slice jv V.length cj, .bool sm, u27, u28, u29, u30, u31, u32, u33, u34, u35, u36, u37, u38, u39, u40, u41, u42, u43, u44, u45, u46, u47, u48, u49, u50, u51, u52, u53, u54, u55, u56, u57, u58, u59, u60, u61, u62, u63, u64, u65, u66, u67, u68, u69, u70, u71, u72, u73, u74, u75, u76, u77, u78, u79, u80, u81, u82, u83, u84, u85, u86, u87, u88, u89, u90, u91, u92, u93, u94, u95, u96, u97, u98, u99, u100, u101, u102, u103, u104, u105, u106, u107, u108, u109, u110, u111, u112, u113, u114, u115, u116, u117, u118, u119, u120, u121, u122, u123, u124, u125, u126, u127, u128, u129, u130, u131, u132, u133, u134, u135, u136, u137, u138, u139, u140, u141, u142, u143, u144, u145, u146, u147, u148, u149, u150, u151, u152, u153, u154, u155, u156, u157, u158, u159, u160, u161, u162, u163, u164, u165, u166, u167, u168, u169, u170, u171, u172, u173, u174, u175, u176, u177, u178, u179, u180, u181, u182, u183, u184, u185, u186, u187, u188, u189, u190, u191, u192, u193, u194, u195, u196, u197, u198, u199, u200, u201, u202, u203, u204, u205, u206, u207, u208, u209, u210, u211, u212, u213, u214, u215, u216, u217, u218, u219, u220, u221, u222, u223, u224, u225, u226, u227, u228, u229, u230, u231, u232, u233, u234, u235, u236, u237, u238, u239, u240, u241, u242, u243, u244, u245, u246, u247, u248, u249, u250, u251], defers := [] } w') := hC
  have HH : Hid (V = allv X ts (named X (h :: Pq) nm false ts) ∧ sm = (decide (0 < (named X (h :: Pq) nm false ts).length) || decide (0 < (named X (h :: Pq) nm true ts).length)) ∧ sm = (decide (0 < (named X (h :: Pq) nm false ts).length) || decide (0 < (named X (h :: Pq) nm true ts).length))) := ⟨hV, hsm, hsm⟩
  clear hC hV hsm
  obtain ⟨hsl, _⟩ := HP.out.run.le
  have hlen := HP.out.len
  have hsi0 : (s : Int) ≤ 1048576 := by omega
  go_wp2_with fail
  go_loopg [25, 26, 27] R.length (fun gk jv bv iv wr => ∃ (i : Nat) (b : Bool) (L : List ByteArray) (v : Value), gk = R.length - i ∧ i ≤ R.length ∧ jv = v ∧ bv = .bool b ∧ iv = .int .i64 ((s + i : Nat) : Int) ∧ Hid (b = someI X h Pq nm ts i ∧ L = joinI X h Pq nm ts i ∧ wr.ownsRow w.heap.size 9 1 v L.length (L.map .string) ∧ Below w.heap.size w wr))
  case atStart => exact ⟨0, false, [], .slice none 0 0, by omega, by omega, rfl, rfl, by go_num, (someI_zero ..).symm, (joinI_zero ..).symm, World.ownsRow_nil _ _ _ _, Below.refl _ _⟩
  case round =>
    obtain ⟨i, b, L, v, hgk, hi, hv, rfl, rfl, HI⟩ := hrel
    replace hv := hv.symm
    subst hv
    by_cases hlt : i < R.length
    · obtain ⟨nd, hnd⟩ : ∃ d, R[i]? = some d := ⟨_, List.getElem?_eq_getElem hlt⟩
      obtain ⟨p, hp⟩ : ∃ p, (Stif.runN 0 ts)[i]? = some p := ⟨_, List.getElem?_eq_getElem (by have := HP.out.rl; omega)⟩
      obtain ⟨gn, rfl, hnc, hcm, hbg, hgl⟩ := row_some HW.out.row (by omega)
      have hrow := ownsRow_below HW.out.row HI.out.2.2.2 (Nat.le_refl _)
      have hnn := HP.out.run.get hnd
      obtain ⟨c0, c1, c2, c3, c4, c5, c6, c7⟩ := nodeAt hrow hnn
      have hmm := HP.out.meets i nd p hnd hp
      have htx := HP.out.txt nd (List.mem_of_getElem? hnn)
      have hX := HP.out.hX
      have hws := HI.out.2.2.2.size
      have hgl' : gn < wr.heap.size := by omega
      have hpr := path_rest HW.out.path
      have hl0 : g < wr.heap.size := Nat.lt_of_lt_of_le HW.out.path.lt hws
      have z0 : wr.cell? ⟨g, o, none⟩ = some (.string h) := by rw [HI.out.2.2.2.cell HW.out.path.lt]; exact hpr.2.1
      have hpc : Pq.length + 1 + 1 ≤ c := hpr.2.2.1
      have htop := HP.out.top hnd hp
      have HMM : Hid (Stif.Meets bd nd p ∧ (Stif.runN 0 ts)[i]? = some p ∧ ns[s + i]? = some nd) := ⟨hmm, hp, hnn⟩
      have hsi : ((s : Int) + i) < ns.length := by omega
      have hltb : decide (((s + i : Nat) : Int) < ((s : Int) + R.length)) = true := by simp; omega
      clear hmm hrow hnn hnd hp hws hpr
      have skip : topH X h p = false → ∀ W', Below wr.heap.size wr W' → Hid (b = someI X h Pq nm ts (i + 1) ∧ L = joinI X h Pq nm ts (i + 1) ∧ W'.ownsRow w.heap.size 9 1 v L.length (L.map .string) ∧ Below w.heap.size w W') := fun h1 W' hb => by
        obtain ⟨k1, k2, k3, k4⟩ := HI.out
        obtain ⟨e1, e2⟩ := join_skip (Pq := Pq) (nm := nm) HMM.out.2.1 h1
        rw [e1, e2]
        exact ⟨k1, k2, ownsRow_below k3 hb (Nat.le_refl _), k4.trans (hb.mono k4.size)⟩
      have HS : Hid (topH X h p = false → ∀ W', Below wr.heap.size wr W' → Hid (b = someI X h Pq nm ts (i + 1) ∧ L = joinI X h Pq nm ts (i + 1) ∧ W'.ownsRow w.heap.size 9 1 v L.length (L.map .string) ∧ Below w.heap.size w W')) := skip
      clear skip
      cases hcp : (p.1 == 0) with
      | false =>
        rw [hcp] at htop
        simp only [Bool.not_false] at htop
        have HCP : Hid ((p.1 == 0) = false) := hcp
        clear hcp
        go_wp2
        go_quiet (fail)
        go_wp2
        go_roundg (R.length - (i + 1))
        case measure => omega
        case rel => exact ⟨i + 1, b, L, v, rfl, by omega, rfl, rfl, by go_num, HS.out (by rw [topH_eq, HCP.out]; rfl) _ (below_drewN ((Below.refl _ _).alloc (Nat.le_refl _) _) _)⟩
      | true =>
      rw [hcp] at htop
      simp only [Bool.not_true] at htop
      have HCP : Hid ((p.1 == 0) = true) := hcp
      clear hcp
      by_cases hk2 : nd.kind = 2
      case neg =>
        have hkb : ((nd.kind : Int) != 2) = true := by simp; omega
        have HK : Hid (nd.kind ≠ 2) := hk2
        clear hk2
        go_wp2
        go_quiet (fail)
        go_wp2
        go_roundg (R.length - (i + 1))
        case measure => omega
        case rel => exact ⟨i + 1, b, L, v, rfl, by omega, rfl, rfl, by go_num, HS.out (by have h1 := HMM.out.1.kind; have h2 := HK.out; rw [h1] at h2; rw [topH_eq, show (p.2.kind == 2) = false by simpa using h2]; simp) _ (below_drewN ((Below.refl _ _).alloc (Nat.le_refl _) _) _)⟩
      have hkb : ((nd.kind : Int) != 2) = false := by simp; omega
      have HK : Hid (nd.kind = 2) := hk2
      clear hk2
      cases hnm : ((X.extract nd.txt (nd.txt + nd.n)).toList == h.toList) with
      | false =>
        have HNM : Hid (((X.extract nd.txt (nd.txt + nd.n)).toList == h.toList) = false) := hnm
        go_wp2
        go_quiet (fail)
        go_wp2
        go_roundg (R.length - (i + 1))
        case measure => omega
        case rel => exact ⟨i + 1, b, L, v, rfl, by omega, rfl, rfl, by go_num, HS.out (by have h1 := HNM.out; rw [HMM.out.1.txt, HMM.out.1.n] at h1; rw [topH_eq, h1]; simp) _ (below_drewN ((Below.refl _ _).alloc (Nat.le_refl _) _) _)⟩
      | true =>
      have HNM : Hid (((X.extract nd.txt (nd.txt + nd.n)).toList == h.toList) = true) := hnm
      go_wp2
      go_quiet (fail)
      go_wp2_with fail
      refine (newFields_any _ _ _ _ _ _).mono ?_
      rintro e w4 ⟨rfl, rfl⟩
      dsimp only
      go_upto_region 36 with fail
      have hW : ((wr.alloc (ndObj nd)).drewN nq).heap.size = wr.heap.size + 1 := by simp
      have hyy : ((nd.txt : Int) + nd.n) = ((nd.txt + nd.n : Nat) : Int) := by omega
      obtain ⟨hb3, htr3, hbx3⟩ := laid (w := (wr.alloc (ndObj nd)).drewN nq) (T := T) (X := X) (tok := nd.next) (txt := (nd.txt : Int) + nd.n) (skip := 0) (bx := .pointer (some ⟨wr.heap.size + 1 + 1, 0, none⟩)) (by rw [hW]) _ rfl
      rw [hW] at htr3 hbx3
      have hb4 : Below wr.heap.size wr ((wr.alloc (ndObj nd)).drewN nq) := below_drewN ((Below.refl _ _).alloc (Nat.le_refl _) _) _
      have HX0 := And.intro (hb4.trans (hb3.mono hb4.size)) (And.intro htr3 hbx3)
      clear hb3 htr3 hbx3 hb4
      change Code.wp Try.prog _ _ _ ((((((wr.alloc (ndObj nd)).drewN nq).alloc (.cells #[.pointer (some ⟨wr.heap.size + 1 + 1, 0, none⟩), .int .i64 nd.next, .int .i64 ((nd.txt : Int) + nd.n), .int .i64 0] 35)).alloc (.cells #[.string T, .string X, .slice none 0 0] 74)).alloc (.cells #[.pointer (some ⟨wr.heap.size + 1 + 1, 0, none⟩), .int .i64 nd.next, .int .i64 ((nd.txt : Int) + nd.n), .int .i64 0] 35)))
      generalize ((((((wr.alloc (ndObj nd)).drewN nq).alloc (.cells #[.pointer (some ⟨wr.heap.size + 1 + 1, 0, none⟩), .int .i64 nd.next, .int .i64 ((nd.txt : Int) + nd.n), .int .i64 0] 35)).alloc (.cells #[.string T, .string X, .slice none 0 0] 74)).alloc (.cells #[.pointer (some ⟨wr.heap.size + 1 + 1, 0, none⟩), .int .i64 nd.next, .int .i64 ((nd.txt : Int) + nd.n), .int .i64 0] 35))) = V5 at HX0 ⊢
      rw [hyy] at HX0
      have hin := HP.out.inner HMM.out.2.1
      rw [← HMM.out.1.next, ← HMM.out.1.txt, ← HMM.out.1.n] at hin
      generalize nd.txt + nd.n = y at HX0 hin
      obtain ⟨hin1, ⟨kk, hin2⟩, hin3⟩ := hin
      have HIN : Hid (Stif.chain T X.size nd.next y (tailOf ts p.2) T.size X.size ∧ Stif.bal kk (tailOf ts p.2) ∧ NoNV (tailOf ts p.2)) := ⟨hin1, hin2, hin3⟩
      generalize wr.heap.size + 1 + 1 + 1 = b29 at HX0 ⊢
      generalize wr.heap.size + 1 + 1 = b2 at HX0 ⊢
      have HTR : Hid (∀ W', Below V5.heap.size V5 W' → IsTree W' b2 T X) := fun W' hb => ⟨(hb.block _ (Array.getElem?_eq_some_iff.1 HX0.2.1.blk).1).trans HX0.2.1.blk⟩
      have HY : Hid (∀ W', Below V5.heap.size V5 W' → W'.heap[b29]? = some (.cells #[.pointer (some ⟨b2, 0, none⟩), .int .i64 nd.next, .int .i64 ((y : Nat) : Int), .int .i64 0] 35)) := fun W' hb => (hb.block _ (Array.getElem?_eq_some_iff.1 HX0.2.2).1).trans HX0.2.2
      have HPR : Hid (∀ W', Below V5.heap.size V5 W' → StrRow W' (.slice (some ⟨g, o + 1, none⟩) (Pq.length + 1) (c - 1)) g (Pq ++ [nm])) := fun W' hb => (((path_rest HW.out.path).1.below HI.out.2.2.2).below HX0.1).below hb
      have HBV : Hid (Below wr.heap.size wr V5) := HX0.1
      have y0 : V5.cell? ⟨b29, 0, none⟩ = some (.pointer (some ⟨b2, 0, none⟩)) := cell_at HX0.2.2 rfl
      have y1 : V5.cell? ⟨b29, 1, none⟩ = some (.int .i64 nd.next) := cell_at HX0.2.2 rfl
      have y2 : V5.cell? ⟨b29, 2, none⟩ = some (.int .i64 (y : Int)) := cell_at HX0.2.2 rfl
      have y3 : V5.cell? ⟨b29, 3, none⟩ = some (.int .i64 0) := cell_at HX0.2.2 rfl
      have hn5 := World.new_ne V5 _ y0
      have hc1 : ¬ (c = 1) := by omega
      have hone : (1 : Int) ≤ (Pq.length : Int) + 1 + 1 := by omega
      clear HX0 hyy hW c0 c1 c2 c3 c4 c5 c6 c7 z0 hin1 hin2 hin3
      have hsi27 : ∃ si : Int, Hid (((s + i : Nat) : Int) = si) := ⟨_, rfl⟩
      obtain ⟨si, HSI⟩ := hsi27
      rw [HSI.out]
      go_cut [30, 31] from 131 to 186 (fun v30 v31 wx => ∃ (b30 : Nat) (nA okA : Bool) (q1 : Option Addr) (cq g1 : Nat), v30 = .pointer (some ⟨b30, 0, none⟩) ∧ v31 = .bool okA ∧ Hid (nA = decide ((named X Pq nm false (tailOf ts p.2)).length = 0) ∧ okA = hany X Pq nm ts p ∧ Once V5 wx b30 (.slice q1 Pq.length cq) g1 Pq (.string nm) (.bool nA) (.pointer (some ⟨b2, 0, none⟩)) (.int .i64 nd.next) (.int .i64 (y : Int)) (.int .i64 0) (.slice q1 Pq.length cq) (.int .i64 0)))
      case first =>
        go_region_held3 (fun w' => w'.cell? ⟨b29, 0, none⟩ = some (.pointer (some ⟨b2, 0, none⟩)) ∧ w'.cell? ⟨b29, 1, none⟩ = some (.int .i64 nd.next) ∧ w'.cell? ⟨b29, 2, none⟩ = some (.int .i64 (y : Int)) ∧ w'.cell? ⟨b29, 3, none⟩ = some (.int .i64 0)) (go_keep)
          (first | (go_at_call 21; (try rw [if_neg hc1]); refine (resolve_any b2 g (o + 1) (c - 1) T X Pq nm 0 (tailOf ts p.2) nd.next y kk _ HP.out.hT HP.out.hX ?_ ?_ (by omega) HIN.out.1 HIN.out.2.1).mono ?_; exact HTR.out _ (by (first | with_reducible exact Below.refl _ _ | with_reducible exact (Below.refl _ _).alloc (Nat.le_refl _) _ | with_reducible exact (Below.refl _ _).drew | exact ((Below.refl _ _).alloc (Nat.le_refl _) _).drew)); exact HPR.out _ (by (first | with_reducible exact Below.refl _ _ | with_reducible exact (Below.refl _ _).alloc (Nat.le_refl _) _ | with_reducible exact (Below.refl _ _).drew | exact ((Below.refl _ _).alloc (Nat.le_refl _) _).drew)); rintro e w7 hres; obtain ⟨hb7, nA, okA, pv, g1, rfl, hpv, hg1, hnA, hokA⟩ := res_zero2 hres; clear hres; obtain ⟨q1, cq, hq1, hsp⟩ := SR.of_str hpv (by omega); subst hq1; clear hsp; have hbw : Below V5.heap.size V5 w7 := (by first | with_reducible exact bw1 hb7 | with_reducible exact bw2 hb7 | with_reducible exact bw3 hb7 | with_reducible exact bw4 hb7 | with_reducible exact bw5 hb7); have hyb := HY.out w7 hbw; have yy0 : w7.cell? ⟨b29, 0, none⟩ = some (.pointer (some ⟨b2, 0, none⟩)) := cell_at hyb rfl; have yy1 : w7.cell? ⟨b29, 1, none⟩ = some (.int .i64 nd.next) := cell_at hyb rfl; have yy2 : w7.cell? ⟨b29, 2, none⟩ = some (.int .i64 (y : Int)) := cell_at hyb rfl; have yy3 : w7.cell? ⟨b29, 3, none⟩ = some (.int .i64 0) := cell_at hyb rfl; clear hyb; have hn7 := World.new_ne w7 _ yy0; have HR : Hid (nA = decide ((named X Pq nm false (tailOf ts p.2)).length = 0) ∧ okA = hany X Pq nm ts p ∧ Below V5.heap.size V5 w7 ∧ StrRow w7 (.slice q1 Pq.length cq) g1 Pq) := ⟨hnA, hokA, hbw, hpv⟩; (try (have hk := blk_ahead hb7; have HG1 : Hid (V5.heap.size < g1) := (by simp at hg1; exact hg1); have u0 : w7.cell? ⟨V5.heap.size, 0, none⟩ = some (.string ⟨#[]⟩) := cell_at hk rfl; have u1 : w7.cell? ⟨V5.heap.size, 1, none⟩ = some (.bool false) := cell_at hk rfl; have u2 : w7.cell? ⟨V5.heap.size, 2, none⟩ = some (.pointer none) := cell_at hk rfl; have u3 : w7.cell? ⟨V5.heap.size, 3, none⟩ = some (.int .i64 0) := cell_at hk rfl; have u4 : w7.cell? ⟨V5.heap.size, 4, none⟩ = some (.int .i64 0) := cell_at hk rfl; have u5 : w7.cell? ⟨V5.heap.size, 5, none⟩ = some (.int .i64 0) := cell_at hk rfl; have u6 : w7.cell? ⟨V5.heap.size, 6, none⟩ = some (.slice none 0 0) := cell_at hk rfl; have u7 : w7.cell? ⟨V5.heap.size, 7, none⟩ = some (.int .i64 0) := cell_at hk rfl; have t0 : w7.frozen? ⟨V5.heap.size, 0, none⟩ = false := frozen_k hk 0; have t1 : w7.frozen? ⟨V5.heap.size, 1, none⟩ = false := frozen_k hk 1; have t2 : w7.frozen? ⟨V5.heap.size, 2, none⟩ = false := frozen_k hk 2; have t3 : w7.frozen? ⟨V5.heap.size, 3, none⟩ = false := frozen_k hk 3; have t4 : w7.frozen? ⟨V5.heap.size, 4, none⟩ = false := frozen_k hk 4; have t5 : w7.frozen? ⟨V5.heap.size, 5, none⟩ = false := frozen_k hk 5; have t6 : w7.frozen? ⟨V5.heap.size, 6, none⟩ = false := frozen_k hk 6; have t7 : w7.frozen? ⟨V5.heap.size, 7, none⟩ = false := frozen_k hk 7; clear hk)); clear hb7 hg1 hnA hokA hbw hpv; dsimp only))
        all_goals (go_wp2; go_meet; first | (have hgg := HG1.out; exact ⟨_, nA, okA, q1, cq, g1, rfl, rfl, HR.out.1, HR.out.2.1, once_set HR.out.2.2.1 (Nat.le_refl _) HR.out.2.2.2 (Nat.ne_of_gt hgg) (fun i hi => match i, hi with | 0, _ => ⟨_, u0⟩ | 1, _ => ⟨_, u1⟩ | 2, _ => ⟨_, u2⟩ | 3, _ => ⟨_, u3⟩ | 4, _ => ⟨_, u4⟩ | 5, _ => ⟨_, u5⟩ | 6, _ => ⟨_, u6⟩ | 7, _ => ⟨_, u7⟩ | n + 8, hi => absurd hi (by omega))⟩) | exact ⟨_, nA, okA, q1, cq, g1, rfl, rfl, HR.out.1, HR.out.2.1, once_alloc HR.out.2.2.1 HR.out.2.2.2⟩)
      case rest =>
        obtain ⟨b30, nA, okA, q1, cq, g1, rfl, rfl, HO⟩ := hcut
        rename_i K hK
        refine hK _ _ ?_
        clear hn5 y0 y1 y2 y3
        have e0 := HO.out.2.2.k0
        have e1 := HO.out.2.2.k1
        have e2 := HO.out.2.2.k2
        have e3 := HO.out.2.2.k3
        have e4 := HO.out.2.2.k4
        have e5 := HO.out.2.2.k5
        have e6 := HO.out.2.2.k6
        have e7 := HO.out.2.2.k7
        have HTOP : Hid (topH X h p = true) := by
          have h1 := HNM.out
          rw [HMM.out.1.txt, HMM.out.1.n] at h1
          have h2 := HK.out
          rw [HMM.out.1.kind] at h2
          rw [topH_eq, HCP.out, h1, h2]
          rfl
        have hsib : (0 : Int) ≤ si ∧ si ≤ 2097152 := by rw [← HSI.out]; omega
        obtain ⟨hsib1, hsib2⟩ := hsib
        obtain ⟨i9, hi9, hz9, hs9, hbt9⟩ := info_parts Try.info9
        cases okA with
        | false =>
          go_wp2_with fail
          refine (zzvalues_any b2 g1 T X Pq nm nA (.slice q1 Pq.length cq) 0 (tailOf ts p.2) nd.next y kk _ HP.out.hT HP.out.hX (HTR.out _ HO.out.2.2.below) HO.out.2.2.row HIN.out.1 HIN.out.2.1).mono ?_
          rintro e w8 ⟨hb8, v8, rfl, hrow8⟩
          rw [vals_zero HIN.out.1 HIN.out.2.2 Pq nm nA HO.out.1] at hrow8
          change w8.ownsRow _ 9 1 v8 (hvals X Pq nm ts p).length ((hvals X Pq nm ts p).map .string) at hrow8
          have hbx := HBV.out.trans ((HO.out.2.2.below.trans (hb8.mono HO.out.2.2.below.size)).mono HBV.out.size)
          have hb9 : Below w.heap.size w w8 := HI.out.2.2.2.trans (hbx.mono HI.out.2.2.2.size)
          have hL : w8.ownsRow w.heap.size 9 1 v L.length (L.map .string) := ownsRow_below HI.out.2.2.1 hbx (Nat.le_refl _)
          have hjl : L.length + (hvals X Pq nm ts p).length ≤ 1099511627776 := by
            have := join_le HP.out.hT HP.out.chain h nm Pq (i + 1)
            rw [(join_take HMM.out.2.1 HTOP.out).1, List.length_append, ← HI.out.2.1] at this
            exact this
          have hsz : w.heap.size ≤ w8.heap.size := hb9.size
          clear hbx e0 e1 e2 e3 e4 e5 e6 e7
          dsimp only
          go_wp2_with (at_builtin; go_must (refine wpList_append_rows rfl _ _ 45 rfl w.heap.size 9 i9 _ 16 Try.underlying45 hi9 hz9 hs9 hbt9 rfl v _ _ rfl hL _ v8 _ _ rfl hrow8 (by intro u hu; obtain ⟨x, _, rfl⟩ := List.mem_map.1 hu; rfl) (by unfold maxLen; omega) (by omega) hsz ?_); intro v2 w9 hown hgrow)
          have HX : Hid (w9.ownsRow w.heap.size 9 1 v2 (L ++ hvals X Pq nm ts p).length ((L ++ hvals X Pq nm ts p).map .string) ∧ Below w.heap.size w w9) := ⟨by rw [List.length_append, List.map_append]; exact hown, hb9.grown hgrow hb9.size (fun q hq => (hL.lt q hq).1)⟩
          clear hown hgrow hL hb9 hrow8 hsz hjl hb8
          go_wp2
          go_roundg (R.length - (i + 1))
          case measure => omega
          case rel =>
            refine ⟨i + 1, b, L ++ hvals X Pq nm ts p, v2, rfl, by omega, rfl, rfl, by rw [← HSI.out]; go_num, ?_⟩
            obtain ⟨k1, k2, k3, k4⟩ := HI.out
            obtain ⟨e1, e2⟩ := join_take (Pq := Pq) (nm := nm) HMM.out.2.1 HTOP.out
            exact ⟨by rw [e2, ← k1, ← HO.out.2.1]; simp, by rw [e1, ← k2], HX.out.1, HX.out.2⟩
        | true =>
          go_wp2_with fail
          refine (zzvalues_any b2 g1 T X Pq nm nA (.slice q1 Pq.length cq) 0 (tailOf ts p.2) nd.next y kk _ HP.out.hT HP.out.hX (HTR.out _ HO.out.2.2.below) HO.out.2.2.row HIN.out.1 HIN.out.2.1).mono ?_
          rintro e w8 ⟨hb8, v8, rfl, hrow8⟩
          rw [vals_zero HIN.out.1 HIN.out.2.2 Pq nm nA HO.out.1] at hrow8
          change w8.ownsRow _ 9 1 v8 (hvals X Pq nm ts p).length ((hvals X Pq nm ts p).map .string) at hrow8
          have hbx := HBV.out.trans ((HO.out.2.2.below.trans (hb8.mono HO.out.2.2.below.size)).mono HBV.out.size)
          have hb9 : Below w.heap.size w w8 := HI.out.2.2.2.trans (hbx.mono HI.out.2.2.2.size)
          have hL : w8.ownsRow w.heap.size 9 1 v L.length (L.map .string) := ownsRow_below HI.out.2.2.1 hbx (Nat.le_refl _)
          have hjl : L.length + (hvals X Pq nm ts p).length ≤ 1099511627776 := by
            have := join_le HP.out.hT HP.out.chain h nm Pq (i + 1)
            rw [(join_take HMM.out.2.1 HTOP.out).1, List.length_append, ← HI.out.2.1] at this
            exact this
          have hsz : w.heap.size ≤ w8.heap.size := hb9.size
          clear hbx e0 e1 e2 e3 e4 e5 e6 e7
          dsimp only
          go_wp2_with (at_builtin; go_must (refine wpList_append_rows rfl _ _ 45 rfl w.heap.size 9 i9 _ 16 Try.underlying45 hi9 hz9 hs9 hbt9 rfl v _ _ rfl hL _ v8 _ _ rfl hrow8 (by intro u hu; obtain ⟨x, _, rfl⟩ := List.mem_map.1 hu; rfl) (by unfold maxLen; omega) (by omega) hsz ?_); intro v2 w9 hown hgrow)
          have HX : Hid (w9.ownsRow w.heap.size 9 1 v2 (L ++ hvals X Pq nm ts p).length ((L ++ hvals X Pq nm ts p).map .string) ∧ Below w.heap.size w w9) := ⟨by rw [List.length_append, List.map_append]; exact hown, hb9.grown hgrow hb9.size (fun q hq => (hL.lt q hq).1)⟩
          clear hown hgrow hL hb9 hrow8 hsz hjl hb8
          go_wp2
          go_roundg (R.length - (i + 1))
          case measure => omega
          case rel =>
            refine ⟨i + 1, true, L ++ hvals X Pq nm ts p, v2, rfl, by omega, rfl, rfl, by rw [← HSI.out]; go_num, ?_⟩
            obtain ⟨k1, k2, k3, k4⟩ := HI.out
            obtain ⟨e1, e2⟩ := join_take (Pq := Pq) (nm := nm) HMM.out.2.1 HTOP.out
            exact ⟨by rw [e2, ← k1, ← HO.out.2.1]; simp, by rw [e1, ← k2], HX.out.1, HX.out.2⟩
    · obtain rfl : i = R.length := by omega
      have hltb : decide (((s + R.length : Nat) : Int) < ((s : Int) + R.length)) = false := by simp
      have hiL : (Stif.runN 0 ts).length ≤ R.length := by rw [HP.out.rl]; exact Nat.le_refl _
      obtain ⟨hb', hL', hrow', hbw'⟩ := HI.out
      rw [join_all HP.out.chain h nm Pq hiL, ← HH.out.1] at hL'
      rw [some_all HP.out.chain h nm Pq hiL, ← HH.out.2.1] at hb'
      subst hb' hL'
      obtain ⟨jv, cj, rfl, hjv⟩ := SR.of_owns hrow' (by rw [HH.out.1]; exact vlen HP.out (h :: Pq) nm false)
      have HS0 : Hid (SR wr jv L.length L) := hjv
      have HBW : Hid (Below w.heap.size w wr) := hbw'
      have HW1 := HW.out.next hbw'
      have HWr : Hid (LW T X (h :: Pq) nm ns R ts op B0 g o c base s bd cn bt i0 x0 ao w0 wr) := HW1
      clear HW1 hjv hrow' hbw' HI hiL
      go_wp2_with fail
      refine (namedByPath_any _ ns R base s bd T X (h :: Pq) nm g o c i0 x0 ts op _ wr HWr.out.path (by simp; omega) HWr.out.row HP.out.len HP.out.hT HP.out.hX HP.out.run HP.out.dep HP.out.txt HP.out.rl HP.out.meets HP.out.chain HP.out.o1 HP.out.o2 HP.out.o3).mono ?_
      rintro e w1 ⟨hb1, v3, rfl, hrow3⟩
      dsimp only
      rw [← HH.out.1] at hrow3
      obtain ⟨v3, c3, rfl, hr3⟩ := SR.of_owns hrow3 HS0.out.le
      have HR3 : Hid (SR w1 v3 L.length L) := hr3
      have HB1 : Hid (Below wr.heap.size wr w1) := hb1
      generalize hna : (named X (h :: Pq) nm false ts).length = na at HH ⊢
      generalize hnb : (named X (h :: Pq) nm true ts).length = nb at HH ⊢
      clear hr3 hrow3 hb1 hnb hna
      by_cases ha : 0 < na
      · have hab : decide ((0 : Int) < (na : Int)) = true := by simp; omega
        obtain rfl : b = true := by rw [HH.out.2.2]; simp <;> omega
        go_wp2_with fail
        refine (same_eq jv v3 L.length cj c3 L _ (HS0.out.below HB1.out) HR3.out).mono ?_
        rintro e w' ⟨rfl, m1, rfl⟩
        dsimp only
        go_upto_if 209 with fail
        go_cut [] from 188 to 209 (fun wx => ∃ m, wx = w1.drewN m)
        case first =>
          go_wp2
          go_meet
          exact ⟨_, rfl⟩
        case rest =>
          obtain ⟨m, rfl⟩ := hcut
          rename_i K hK
          refine hK _ _ ?_
          exact HC.out _ _ _ _ _ _ _ _ _ _ _ _ _ _ _ _ _ _ _ _ _ _ _ _ _ _ _ _ _ _ _ _ _ _ _ _ _ _ _ _ _ _ _ _ _ _ _ _ _ _ _ _ _ _ _ _ _ _ _ _ _ _ _ _ _ _ _ _ _ _ _ _ _ _ _ _ _ _ _ _ _ _ _ _ _ _ _ _ _ _ _ _ _ _ _ _ _ _ _ _ _ _ _ _ _ _ _ _ _ _ _ _ _ _ _ _ _ _ _ _ _ _ _ _ _ _ _ _ _ _ _ _ _ _ _ _ _ _ _ _ _ _ _ _ _ _ _ _ _ _ _ _ _ _ _ _ _ _ _ _ _ _ _ _ _ _ _ _ _ _ _ _ _ _ _ _ _ _ _ _ _ _ _ _ _ _ _ _ _ _ _ _ _ _ _ _ _ _ _ _ _ _ _ _ _ _ _ _ _ _ _ _ _ _ _ _ _ _ _ _ _ _ _ _ _ _ _ _ _ _ _ _ _ _ _ _ _ _ _ _ _ _ _ _ _ _ jv cj (w1.drewN m) (HBW.out.trans ((below_drewN HB1.out m).mono HBW.out.size)) ((HS0.out.below HB1.out).below (below_drewN (Below.refl _ _) m))
      · obtain rfl : na = 0 := by omega
        by_cases hb : 0 < nb
        · have hbb : decide ((0 : Int) < (nb : Int)) = true := by simp; omega
          obtain rfl : b = true := by rw [HH.out.2.2]; simp <;> omega
          go_wp2_with fail
          refine (same_eq jv v3 L.length cj c3 L _ (HS0.out.below HB1.out) HR3.out).mono ?_
          rintro e w' ⟨rfl, m1, rfl⟩
          dsimp only
          go_upto_if 209 with fail
          go_cut [] from 188 to 209 (fun wx => ∃ m, wx = w1.drewN m)
          case first =>
            go_wp2
            go_meet
            exact ⟨_, rfl⟩
          case rest =>
            obtain ⟨m, rfl⟩ := hcut
            rename_i K hK
            refine hK _ _ ?_
            exact HC.out _ _ _ _ _ _ _ _ _ _ _ _ _ _ _ _ _ _ _ _ _ _ _ _ _ _ _ _ _ _ _ _ _ _ _ _ _ _ _ _ _ _ _ _ _ _ _ _ _ _ _ _ _ _ _ _ _ _ _ _ _ _ _ _ _ _ _ _ _ _ _ _ _ _ _ _ _ _ _ _ _ _ _ _ _ _ _ _ _ _ _ _ _ _ _ _ _ _ _ _ _ _ _ _ _ _ _ _ _ _ _ _ _ _ _ _ _ _ _ _ _ _ _ _ _ _ _ _ _ _ _ _ _ _ _ _ _ _ _ _ _ _ _ _ _ _ _ _ _ _ _ _ _ _ _ _ _ _ _ _ _ _ _ _ _ _ _ _ _ _ _ _ _ _ _ _ _ _ _ _ _ _ _ _ _ _ _ _ _ _ _ _ _ _ _ _ _ _ _ _ _ _ _ _ _ _ _ _ _ _ _ _ _ _ _ _ _ _ _ _ _ _ _ _ _ _ _ _ _ _ _ _ _ _ _ _ _ _ _ _ _ _ _ _ _ _ jv cj (w1.drewN m) (HBW.out.trans ((below_drewN HB1.out m).mono HBW.out.size)) ((HS0.out.below HB1.out).below (below_drewN (Below.refl _ _) m))
        · obtain rfl : nb = 0 := by omega
          obtain rfl : b = false := by rw [HH.out.2.2]; simp <;> omega
          go_wp2_with fail
          refine (same_eq jv v3 L.length cj c3 L _ (HS0.out.below HB1.out) HR3.out).mono ?_
          rintro e w' ⟨rfl, m1, rfl⟩
          dsimp only
          go_upto_if 209 with fail
          go_cut [] from 188 to 209 (fun wx => ∃ m, wx = w1.drewN m)
          case first =>
            go_wp2
            go_meet
            exact ⟨_, rfl⟩
          case rest =>
            obtain ⟨m, rfl⟩ := hcut
            rename_i K hK
            refine hK _ _ ?_
            exact HC.out _ _ _ _ _ _ _ _ _ _ _ _ _ _ _ _ _ _ _ _ _ _ _ _ _ _ _ _ _ _ _ _ _ _ _ _ _ _ _ _ _ _ _ _ _ _ _ _ _ _ _ _ _ _ _ _ _ _ _ _ _ _ _ _ _ _ _ _ _ _ _ _ _ _ _ _ _ _ _ _ _ _ _ _ _ _ _ _ _ _ _ _ _ _ _ _ _ _ _ _ _ _ _ _ _ _ _ _ _ _ _ _ _ _ _ _ _ _ _ _ _ _ _ _ _ _ _ _ _ _ _ _ _ _ _ _ _ _ _ _ _ _ _ _ _ _ _ _ _ _ _ _ _ _ _ _ _ _ _ _ _ _ _ _ _ _ _ _ _ _ _ _ _ _ _ _ _ _ _ _ _ _ _ _ _ _ _ _ _ _ _ _ _ _ _ _ _ _ _ _ _ _ _ _ _ _ _ _ _ _ _ _ _ _ _ _ _ _ _ _ _ _ _ _ _ _ _ _ _ _ _ _ _ _ _ _ _ _ _ _ _ _ _ _ _ _ jv cj (w1.drewN m) (HBW.out.trans ((below_drewN HB1.out m).mono HBW.out.size)) ((HS0.out.below HB1.out).below (below_drewN (Below.refl _ _) m))
end Go.Proofs.Qxb6618677a
