/-
  The law on Resolve's index: the two Resolves.
-/
import Derived.Test.Qxb6618677aLb
import Derived.Test.Qxb6618677aRe
namespace Go.Proofs.Qxb6618677a
open Go.RowKit

/-- What run_front says, and the nodes of the run as the parser makes them. -/
theorem run_front3 {T X : ByteArray} {L : List Stif.Tok} {st : Stif.St} {tok txt b : Int} (hch : Stif.chain T X.size 0 0 L T.size X.size) (hrun : Stif.run Stif.init L = some st) (hop : st.op = [])
    (hs : (tok = 0 ∧ txt = 0 ∧ b = -1) ∨ ∃ (i : Nat) (d : Stif.Node), st.nodes[i]? = some d ∧ d.kind = 2 ∧ (d.next : Int) = tok ∧ (d.txt : Int) + d.n = txt ∧ b = i) :
    ∃ (ts : List Stif.Tok) (i0 x0 s bd : Nat) (R : List Stif.Node) (op : List Nat), tok = i0 ∧ txt = x0 ∧ Stif.chain T X.size i0 x0 ts T.size X.size ∧ Stif.bal bd ts ∧ RunIs st.nodes b s bd R ∧ R.length = (Stif.runN 0 ts).length ∧ (∀ (i : Nat) nd p, R[i]? = some nd → (Stif.runN 0 ts)[i]? = some p → Stif.Meets bd nd p) ∧
      op.length = bd ∧ Stif.parentOf op = b ∧ st.nodes.drop s = Stif.nodesOf op s ts ∧ ∃ A, L = A ++ ts := by
  have hk3 := Stif.chain_kind hch
  have hn := Stif.nodes_of_run hk3 hrun
  have hb := (Stif.run_bal hk3 hrun hop).1
  rcases hs with ⟨rfl, rfl, rfl⟩ | ⟨i, d, hd, hk2, rfl, rfl, rfl⟩
  · obtain ⟨N, h1, h2, h3⟩ := Stif.run_meets L [] 0 0 0 rfl hb
    have h4 : (Stif.nodesOf [] 0 L).takeWhile (fun d => decide (0 ≤ d.depth)) = Stif.nodesOf [] 0 L := takeWhile_self (fun _ => by simp)
    exact ⟨L, 0, 0, 0, 0, N, [], rfl, rfl, hch, hb, ⟨by rw [hn]; exact h1, .inl ⟨rfl, rfl, rfl, by rw [hn, ← h1, h4]⟩⟩, h2, h3, rfl, rfl, by rw [hn]; rfl, [], rfl⟩
  · rw [hn] at hd
    obtain ⟨A, t, B, o, hL, _, hdt, hdrop, hbal⟩ := Stif.node_split hd
    have e2 : t.kind = 2 := by rw [hdt] at hk2; exact hk2
    have hb2 := hbal hb
    rw [Stif.bal, if_pos e2] at hb2
    rw [if_pos e2] at hdrop
    obtain ⟨N, h1, h2, h3⟩ := Stif.run_meets B ((0 + i) :: o) (0 + i + 1) 0 (o.length + 1) (by simp) (by simpa using hb2)
    have hc2 : ∃ j y, Stif.chain T X.size 0 0 A j y ∧ Stif.chain T X.size j y (t :: B) T.size X.size := Stif.chain_append (by rw [← hL]; exact hch)
    obtain ⟨j, y, _, hc3⟩ := hc2
    have ht := Stif.tokAt_some hc3.1
    refine ⟨B, t.next, t.txt + t.n, i + 1, o.length + 1, N, (0 + i) :: o, by rw [hdt]; rfl, by rw [hdt]; simp [Stif.mkNode], ?_, hb2, ⟨?_, .inr ⟨i, d, rfl, rfl, by rw [hn]; exact hd, by rw [hdt]; rfl⟩⟩, h2, h3, by simp, ?_, ?_, A ++ [t], by rw [hL]; simp⟩
    · rw [ht.2.2.1]; exact hc3.2.2
    · rw [hn, hdrop]; exact h1
    · show ((0 + i : Nat) : Int) = (i : Int); rw [Nat.zero_add]
    · rw [hn, hdrop, show 0 + i + 1 = i + 1 by omega]


/-- What the law's front leaves. -/
structure LW (T X : ByteArray) (Pa : List ByteArray) (nm : ByteArray) (ns R : List Stif.Node) (ts : List Stif.Tok) (op : List Nat) (B0 g o c base s bd cn bt i0 x0 : Nat) (ao : Option Addr) (w0 w : World) : Prop where
  path : StrRow w (.slice (some ⟨g, o, none⟩) (Pa.length + 1) c) g (Pa ++ [nm])
  row : w.ownsRow base 44 8 (.slice ao ns.length cn) ns.length (rowOf ns)
  tree : IsTree w bt T X
  below : Below B0 w0 w
  size : B0 ≤ w.heap.size
theorem LW.next {T X : ByteArray} {Pa : List ByteArray} {nm : ByteArray} {ns R : List Stif.Node} {ts : List Stif.Tok} {op : List Nat} {B0 g o c base s bd cn bt i0 x0 : Nat} {ao : Option Addr} {w0 w w' : World} (h : LW T X Pa nm ns R ts op B0 g o c base s bd cn bt i0 x0 ao w0 w) (hb : Below w.heap.size w w') : LW T X Pa nm ns R ts op B0 g o c base s bd cn bt i0 x0 ao w0 w' :=
  ⟨h.path.below hb, ownsRow_below h.row hb (Nat.le_refl _), ⟨(hb.block _ (Array.getElem?_eq_some_iff.1 h.tree.blk).1).trans h.tree.blk⟩, h.below.trans (hb.mono h.size), Nat.le_trans h.size hb.size⟩
/-- The plain facts of the run. -/
structure LP (T X : ByteArray) (ns R : List Stif.Node) (ts : List Stif.Tok) (op : List Nat) (s bd i0 x0 : Nat) : Prop where
  len : ns.length ≤ 1048576
  hT : T.size ≤ 1048576
  hX : X.size ≤ 1048576
  run : RunIs ns ((s : Int) - 1) s bd R
  dep : ∀ d ∈ ns, d.depth ≤ 1048576
  txt : ∀ d ∈ ns, d.txt + d.n ≤ X.size
  rl : R.length = (Stif.runN 0 ts).length
  meets : ∀ (i : Nat) nd p, R[i]? = some nd → (Stif.runN 0 ts)[i]? = some p → Stif.Meets bd nd p
  chain : Stif.chain T X.size i0 x0 ts T.size X.size
  bal : Stif.bal bd ts
  o1 : op.length = bd
  o2 : Stif.parentOf op = (s : Int) - 1
  o3 : ns.drop s = Stif.nodesOf op s ts
  nonv : NoNV ts

theorem vlen {T X : ByteArray} {ns R : List Stif.Node} {ts : List Stif.Tok} {op : List Nat} {s bd i0 x0 : Nat} (h : LP T X ns R ts op s bd i0 x0) (Pa : List ByteArray) (nm : ByteArray) (nest : Bool) : (allv X ts (named X Pa nm nest ts)).length ≤ 4398046511104 := by
  have := allv_len h.hT h.chain (G := named X Pa nm nest ts) (into := pathInto X Pa) List.filter_sublist
  omega
theorem picks_len (ix : Int) (V : List ByteArray) : (picks ix V).length ≤ V.length := by
  unfold picks
  split
  · exact Nat.le_refl _
  · split
    · rw [List.length_take, List.length_drop]; omega
    · simp
/-- The values of Index 0, whichever is named. -/
theorem vals0 {T X : ByteArray} {ns R : List Stif.Node} {ts : List Stif.Tok} {op : List Nat} {s bd i0 x0 : Nat} (h : LP T X ns R ts op s bd i0 x0) (Pa : List ByteArray) (nm : ByteArray) (nest : Bool) (hn : nest = true → named X Pa nm false ts = []) : picks 0 (allv X ts (named X Pa nm nest ts)) = allv X ts (named X Pa nm false ts) := by
  rw [picks_zero]
  cases nest with
  | false => rfl
  | true => rw [nest_novals h.chain h.nonv, hn rfl]; rfl

theorem picks_none {ix : Int} {V : List ByteArray} (h0 : ix ≠ 0) (h : picks ix V = []) : ix < 1 ∨ (V.length : Int) < ix := by
  by_cases h1 : 1 ≤ ix
  · right
    unfold picks at h
    rw [if_neg h0, if_pos h1] at h
    have hl := congrArg List.length h
    rw [List.length_take, List.length_drop] at hl
    simp at hl
    omega
  · left; omega
theorem picks_some {ix : Int} {V : List ByteArray} (h0 : ix ≠ 0) (h : picks ix V ≠ []) : ∃ (k : Nat) (q : ByteArray), ix = (k : Int) + 1 ∧ picks ix V = [q] ∧ V[k]? = some q := by
  have h1 : 1 ≤ ix := by
    by_cases h1 : 1 ≤ ix
    · exact h1
    · exact absurd (picks_miss h0 (by omega)) h
  have h2 : ix ≤ (V.length : Int) := by
    by_cases h2 : ix ≤ (V.length : Int)
    · exact h2
    · exact absurd (picks_miss h0 (by omega)) h
  obtain ⟨k, rfl⟩ : ∃ k : Nat, ix = (k : Int) + 1 := ⟨ix.toNat - 1, by omega⟩
  obtain ⟨q, hq⟩ : ∃ q, V[k]? = some q := ⟨_, List.getElem?_eq_getElem (by omega)⟩
  refine ⟨k, q, rfl, ?_, hq⟩
  unfold picks
  rw [if_neg h0, if_pos h1, show ((k : Int) + 1).toNat - 1 = k by omega]
  have hlt := (List.getElem?_eq_some_iff.1 hq).1
  rw [List.drop_eq_getElem_cons hlt]
  have := (List.getElem?_eq_some_iff.1 hq).2
  rw [this]
  rfl
/-- Index 0: the pairs where there are any, else the nestings. -/
theorem res_zero {X : ByteArray} {bt i0 x0 : Nat} {ts : List Stif.Tok} {P : List ByteArray} {nm : ByteArray} {w w' : World} {e : Ending} (h : ((0 : Int) ≠ 0 ∧ (named X P nm false ts = [] ∨ picks 0 (allv X ts (named X P nm false ts)) = []) ∧ e = .returned (.tuple #[.agg #[.string ByteArray.empty, .bool false, .pointer none, .int .i64 0, .int .i64 0, .int .i64 0, .slice none 0 0, .int .i64 0], .bool false])) ∨
   ∃ pv g', StrRow w' pv g' P ∧ w.heap.size ≤ g' ∧
     ((named X P nm false ts ≠ [] ∧ ((0 : Int) = 0 ∨ picks 0 (allv X ts (named X P nm false ts)) ≠ []) ∧ e = .returned (.tuple #[.agg #[.string nm, .bool false, .pointer (some ⟨bt, 0, none⟩), .int .i64 i0, .int .i64 x0, .int .i64 0, pv, .int .i64 0], .bool true])) ∨
      ((0 : Int) = 0 ∧ named X P nm false ts = [] ∧ e = .returned (.tuple #[.agg #[.string nm, .bool true, .pointer (some ⟨bt, 0, none⟩), .int .i64 i0, .int .i64 x0, .int .i64 0, pv, .int .i64 0], .bool (!(named X P nm true ts).isEmpty)])))) :
    ∃ (nA okA : Bool) (pv : Value) (g' : Nat), e = .returned (.tuple #[.agg #[.string nm, .bool nA, .pointer (some ⟨bt, 0, none⟩), .int .i64 i0, .int .i64 x0, .int .i64 0, pv, .int .i64 0], .bool okA]) ∧ StrRow w' pv g' P ∧
      nA = decide ((named X P nm false ts).length = 0) ∧ okA = (decide (0 < (named X P nm false ts).length) || decide (0 < (named X P nm true ts).length)) := by
  rcases h with ⟨h, _⟩ | ⟨pv, g', h1, _, ⟨h2, _, h3⟩ | ⟨_, h2, h3⟩⟩
  · exact absurd rfl h
  · have hl : 0 < (named X P nm false ts).length := List.length_pos_iff.2 h2
    exact ⟨false, true, pv, g', h3, h1, by simp; omega, by simp [hl]⟩
  · refine ⟨true, _, pv, g', h3, h1, by simp [h2], ?_⟩
    rw [h2]
    cases named X P nm true ts <;> simp

/-- The law's world, with the boxes and the slices of strings that it has laid. -/
structure FA (T X : ByteArray) (Pa : List ByteArray) (nm : ByteArray) (ns R : List Stif.Node) (ts : List Stif.Tok) (op : List Nat) (B0 g o c base s bd cn bt i0 x0 : Nat) (ao : Option Addr) (w0 : World) (bl : List (Nat × Obj)) (sl : List (Option Addr × Nat × List ByteArray)) (w : World) : Prop where
  lw : LW T X Pa nm ns R ts op B0 g o c base s bd cn bt i0 x0 ao w0 w
  boxes : ∀ p ∈ bl, w.heap[p.1]? = some p.2
  srs : ∀ q ∈ sl, SR w q.1 q.2.1 q.2.2
theorem FA.next {T X : ByteArray} {Pa : List ByteArray} {nm : ByteArray} {ns R : List Stif.Node} {ts : List Stif.Tok} {op : List Nat} {B0 g o c base s bd cn bt i0 x0 : Nat} {ao : Option Addr} {w0 : World} {bl : List (Nat × Obj)} {sl : List (Option Addr × Nat × List ByteArray)} {w w' : World} (h : FA T X Pa nm ns R ts op B0 g o c base s bd cn bt i0 x0 ao w0 bl sl w) (hb : Below w.heap.size w w') : FA T X Pa nm ns R ts op B0 g o c base s bd cn bt i0 x0 ao w0 bl sl w' :=
  ⟨h.lw.next hb, fun p hp => (hb.block _ (Array.getElem?_eq_some_iff.1 (h.boxes p hp)).1).trans (h.boxes p hp), fun q hq => (h.srs q hq).below hb⟩
theorem FA.box {T X : ByteArray} {Pa : List ByteArray} {nm : ByteArray} {ns R : List Stif.Node} {ts : List Stif.Tok} {op : List Nat} {B0 g o c base s bd cn bt i0 x0 : Nat} {ao : Option Addr} {w0 : World} {bl : List (Nat × Obj)} {sl : List (Option Addr × Nat × List ByteArray)} {w : World} (h : FA T X Pa nm ns R ts op B0 g o c base s bd cn bt i0 x0 ao w0 bl sl w) (ob : Obj) : FA T X Pa nm ns R ts op B0 g o c base s bd cn bt i0 x0 ao w0 ((w.heap.size, ob) :: bl) sl (w.alloc ob) := by
  have h' := h.next ((Below.refl _ w).alloc (Nat.le_refl _) ob)
  refine ⟨h'.lw, fun p hp => ?_, h'.srs⟩
  rcases List.mem_cons.1 hp with rfl | hp
  · exact World.alloc_heap_new w ob
  · exact h'.boxes p hp
theorem FA.sr {T X : ByteArray} {Pa : List ByteArray} {nm : ByteArray} {ns R : List Stif.Node} {ts : List Stif.Tok} {op : List Nat} {B0 g o c base s bd cn bt i0 x0 : Nat} {ao : Option Addr} {w0 : World} {bl : List (Nat × Obj)} {sl : List (Option Addr × Nat × List ByteArray)} {w : World} (h : FA T X Pa nm ns R ts op B0 g o c base s bd cn bt i0 x0 ao w0 bl sl w) {a : Option Addr} {n : Nat} {A : List ByteArray} (hs : SR w a n A) : FA T X Pa nm ns R ts op B0 g o c base s bd cn bt i0 x0 ao w0 bl ((a, n, A) :: sl) w :=
  ⟨h.lw, h.boxes, fun q hq => by
    rcases List.mem_cons.1 hq with rfl | hq
    · exact hs
    · exact h.srs q hq⟩
theorem FA.str {T X : ByteArray} {Pa : List ByteArray} {nm : ByteArray} {ns R : List Stif.Node} {ts : List Stif.Tok} {op : List Nat} {B0 g o c base s bd cn bt i0 x0 : Nat} {ao : Option Addr} {w0 : World} {bl : List (Nat × Obj)} {sl : List (Option Addr × Nat × List ByteArray)} {w : World} (h : FA T X Pa nm ns R ts op B0 g o c base s bd cn bt i0 x0 ao w0 bl sl w) : Below B0 w0 w := h.lw.below

set_option maxRecDepth 100000 in
set_option maxHeartbeats 4000000 in
theorem l6_res (T X : ByteArray) (Pa : List ByteArray) (nm : ByteArray) (ns R : List Stif.Node) (ts : List Stif.Tok) (op : List Nat) (B0 g o c base s bd cn bt i0 x0 b20 : Nat) (ao : Option Addr) (ix : Int) (w0 w : World) (HP : Hid (LP T X ns R ts op s bd i0 x0)) (HW : Hid (LW T X Pa nm ns R ts op B0 g o c base s bd cn bt i0 x0 ao w0 w)) (hPl : Pa.length ≤ 4096)
    (hb20 : w.heap[b20]? = some (.cells #[.pointer (some ⟨bt, 0, none⟩), .int .i64 i0, .int .i64 x0, .int .i64 0] 35 (0, 0))) (u2 u4 u5 u6 u7 u8 u9 u10 u11 u12 u13 u14 u15 u16 u18 u21 u22 u23 u24 u25 u26 u27 u28 u29 u30 u31 u32 u33 u34 u35 u36 u37 u38 u39 u40 u41 u42 u43 u44 u45 u46 u47 u48 u49 u50 u51 u52 u53 u54 u55 u56 u57 u58 u59 u60 u61 u62 u63 u64 u65 u66 u67 u68 u69 u70 u71 u72 u73 u74 u75 u76 u77 u78 u79 u80 u81 u82 u83 u84 u85 u86 u87 u88 u89 u90 u91 u92 u93 u94 u95 u96 u97 u98 u99 u100 u101 u102 u103 u104 u105 u106 u107 u108 u109 u110 u111 u112 u113 u114 u115 u116 u117 u118 u119 u120 u121 u122 u123 u124 u125 u126 u127 u128 u129 u130 u131 u132 u133 u134 u135 u136 u137 u138 u139 u140 u141 u142 u143 u144 u145 u146 u147 u148 u149 u150 u151 u152 u153 u154 u155 u156 u157 u158 u159 u160 u161 u162 u163 u164 u165 u166 u167 u168 u169 u170 u171 u172 u173 u174 u175 u176 u177 u178 u179 u180 u181 u182 u183 u184 u185 u186 u187 u188 u189 u190 u191 u192 u193 u194 u195 u196 u197 u198 u199 u200 u201 u202 u203 u204 u205 u206 u207 u208 u209 u210 u211 u212 u213 u214 u215 u216 u217 u218 u219 u220 u221 u222 u223 u224 u225 u226 u227 u228 u229 u230 u231 u232 u233 u234 u235 u236 u237 u238 u239 u240 u241 u242 u243 u244 u245 u246 u247 u248 u249 u250 u251 u252 u253 u254 u255 u256 u257 u258 u259 u260 u261 u262 u263 u264 u265 u266 u267 u268 u269 u270 u271 u272 u273 u274 u275 u276 u277 u278 u279 u280 u281 u282 u283 u284 u285 u286 u287 u288 u289 u290 u291 u292 u293 u294 u295 u296 u297 u298 u299 u300 u301 u302 u303 u304 u305 u306 u307 u308 u309 u310 u311 u312 u313 u314 u315 u316 u317 u318 u319 u320 u321 u322 u323 u324 u325 u326 u327 u328 u329 u330 u331 u332 u333 u334 u335 u336 u337 u338 u339 u340 u341 u342 u343 u344 u345 u346 u347 u348 u349 u350 u351 u352 u353 u354 u355 u356 u357 u358 u359 u360 u361 u362 u363 u364 u365 u366 u367 u368 u369 u370 u371 u372 u373 u374 u375 u376 u377 u378 u379 u380 u381 u382 u383 u384 u385 u386 u387 u388 u389 u390 u391 u392 u393 u394 u395 u396 u397 : Value) :
    Code.wp Try.prog (ctail 11 (Try.f6.body.getD .skip)) (bodyPost Try.prog Try.f6 fun e w' => e = .returned (.bool true) ∧ Below B0 w0 w') { tmps := #[.slice (some ⟨g, o, none⟩) (Pa.length + 1) c, .int .i64 ix, u2, .string X, u4, u5, u6, u7, u8, u9, u10, u11, u12, u13, u14, u15, u16, .slice ao ns.length cn, u18, .int .i64 ((s : Int) - 1), .pointer (some ⟨b20, 0, none⟩), u21, u22, u23, u24, u25, u26, u27, u28, u29, u30, u31, u32, u33, u34, u35, u36, u37, u38, u39, u40, u41, u42, u43, u44, u45, u46, u47, u48, u49, u50, u51, u52, u53, u54, u55, u56, u57, u58, u59, u60, u61, u62, u63, u64, u65, u66, u67, u68, u69, u70, u71, u72, u73, u74, u75, u76, u77, u78, u79, u80, u81, u82, u83, u84, u85, u86, u87, u88, u89, u90, u91, u92, u93, u94, u95, u96, u97, u98, u99, u100, u101, u102, u103, u104, u105, u106, u107, u108, u109, u110, u111, u112, u113, u114, u115, u116, u117, u118, u119, u120, u121, u122, u123, u124, u125, u126, u127, u128, u129, u130, u131, u132, u133, u134, u135, u136, u137, u138, u139, u140, u141, u142, u143, u144, u145, u146, u147, u148, u149, u150, u151, u152, u153, u154, u155, u156, u157, u158, u159, u160, u161, u162, u163, u164, u165, u166, u167, u168, u169, u170, u171, u172, u173, u174, u175, u176, u177, u178, u179, u180, u181, u182, u183, u184, u185, u186, u187, u188, u189, u190, u191, u192, u193, u194, u195, u196, u197, u198, u199, u200, u201, u202, u203, u204, u205, u206, u207, u208, u209, u210, u211, u212, u213, u214, u215, u216, u217, u218, u219, u220, u221, u222, u223, u224, u225, u226, u227, u228, u229, u230, u231, u232, u233, u234, u235, u236, u237, u238, u239, u240, u241, u242, u243, u244, u245, u246, u247, u248, u249, u250, u251, u252, u253, u254, u255, u256, u257, u258, u259, u260, u261, u262, u263, u264, u265, u266, u267, u268, u269, u270, u271, u272, u273, u274, u275, u276, u277, u278, u279, u280, u281, u282, u283, u284, u285, u286, u287, u288, u289, u290, u291, u292, u293, u294, u295, u296, u297, u298, u299, u300, u301, u302, u303, u304, u305, u306, u307, u308, u309, u310, u311, u312, u313, u314, u315, u316, u317, u318, u319, u320, u321, u322, u323, u324, u325, u326, u327, u328, u329, u330, u331, u332, u333, u334, u335, u336, u337, u338, u339, u340, u341, u342, u343, u344, u345, u346, u347, u348, u349, u350, u351, u352, u353, u354, u355, u356, u357, u358, u359, u360, u361, u362, u363, u364, u365, u366, u367, u368, u369, u370, u371, u372, u373, u374, u375, u376, u377, u378, u379, u380, u381, u382, u383, u384, u385, u386, u387, u388, u389, u390, u391, u392, u393, u394, u395, u396, u397], defers := [] } w := by
  conv in ctail 11 _ => whnf
  have HB20 : Hid (w.heap[b20]? = some (.cells #[.pointer (some ⟨bt, 0, none⟩), .int .i64 i0, .int .i64 x0, .int .i64 0] 35 (0, 0))) := hb20
  have l20 : b20 < w.heap.size := (Array.getElem?_eq_some_iff.1 hb20).1
  obtain ⟨f0, f1, f2, f3⟩ := box4 hb20
  clear hb20
  have hpl : (Pa.length : Int) ≤ 4096 := by omega
  go_wp2_with fail
  refine (resolve_any bt g o c T X Pa nm 0 ts i0 x0 bd w HP.out.hT HP.out.hX HW.out.tree HW.out.path (by omega) HP.out.chain HP.out.bal).mono ?_
  rintro e w1 ⟨hb1, hres⟩
  obtain ⟨nA, okA, pv1, g1, rfl, hpv1, hnA, hokA⟩ := res_zero hres
  obtain ⟨q1, c1, hq1, hsp1⟩ := SR.of_str hpv1 (by omega)
  subst hq1
  have HF1 : Hid (FA T X Pa nm ns R ts op B0 g o c base s bd cn bt i0 x0 ao w0 [(b20, .cells #[.pointer (some ⟨bt, 0, none⟩), .int .i64 i0, .int .i64 x0, .int .i64 0] 35 (0, 0))] [(q1, Pa.length, Pa)] w1) := ((FA.mk (bl := [(b20, .cells #[.pointer (some ⟨bt, 0, none⟩), .int .i64 i0, .int .i64 x0, .int .i64 0] 35 (0, 0))]) (sl := []) HW.out (fun p hp => by cases List.mem_singleton.1 hp; exact HB20.out) (fun q hq => by cases hq)).next hb1).sr hsp1
  have HA : Hid (nA = decide ((named X Pa nm false ts).length = 0) ∧ okA = (decide (0 < (named X Pa nm false ts).length) || decide (0 < (named X Pa nm true ts).length)) ∧ StrRow w1 (.slice q1 Pa.length c1) g1 Pa) := ⟨hnA, hokA, hpv1⟩
  clear hres hnA hokA hpv1 hsp1 hb1 f0 f1 f2 f3 HB20 HW l20
  dsimp only
  go_wp2_with fail
  have HF2 : Hid (FA T X Pa nm ns R ts op B0 g o c base s bd cn bt i0 x0 ao w0 [(w1.heap.size, .cells #[.string nm, .bool nA, .pointer (some ⟨bt, 0, none⟩), .int .i64 i0, .int .i64 x0, .int .i64 0, (.slice q1 Pa.length c1), .int .i64 0] 48), (b20, .cells #[.pointer (some ⟨bt, 0, none⟩), .int .i64 i0, .int .i64 x0, .int .i64 0] 35 (0, 0))] [(q1, Pa.length, Pa)] (w1.alloc (.cells #[.string nm, .bool nA, .pointer (some ⟨bt, 0, none⟩), .int .i64 i0, .int .i64 x0, .int .i64 0, (.slice q1 Pa.length c1), .int .i64 0] 48))) := HF1.out.box _
  have hs2 : StrRow (w1.alloc (.cells #[.string nm, .bool nA, .pointer (some ⟨bt, 0, none⟩), .int .i64 i0, .int .i64 x0, .int .i64 0, (.slice q1 Pa.length c1), .int .i64 0] 48)) (.slice q1 Pa.length c1) g1 Pa := HA.out.2.2.below ((Below.refl _ _).alloc (Nat.le_refl _) _)
  refine (zzvalues_any bt g1 T X Pa nm nA (.slice q1 Pa.length c1) 0 ts i0 x0 bd _ HP.out.hT HP.out.hX HF2.out.lw.tree hs2 HP.out.chain HP.out.bal).mono ?_
  rintro e w2 ⟨hb2, v2, rfl, hrow2⟩
  rw [vals0 HP.out Pa nm nA (fun h => by have := HA.out.1; rw [h] at this; simpa using this.symm)] at hrow2
  obtain ⟨va, ca, rfl, hva⟩ := SR.of_owns hrow2 (vlen HP.out Pa nm false)
  have HF3 : Hid (FA T X Pa nm ns R ts op B0 g o c base s bd cn bt i0 x0 ao w0 [(w1.heap.size, .cells #[.string nm, .bool nA, .pointer (some ⟨bt, 0, none⟩), .int .i64 i0, .int .i64 x0, .int .i64 0, (.slice q1 Pa.length c1), .int .i64 0] 48), (b20, .cells #[.pointer (some ⟨bt, 0, none⟩), .int .i64 i0, .int .i64 x0, .int .i64 0] 35 (0, 0))] [(va, (allv X ts (named X Pa nm false ts)).length, allv X ts (named X Pa nm false ts)), (q1, Pa.length, Pa)] w2) := (HF2.out.next hb2).sr hva
  clear hb2 hrow2 hva hs2 HF2 HF1
  generalize w1.heap.size = b21 at HF3 ⊢
  have HV0 : Hid (allv X ts (named X Pa nm false ts) = allv X ts (named X Pa nm false ts)) := rfl
  generalize hVV : allv X ts (named X Pa nm false ts) = V at HF3 ⊢
  have HV : Hid (allv X ts (named X Pa nm false ts) = V) := hVV
  clear hVV HV0
  have hb21 : w2.heap[b21]? = some (.cells #[.string nm, .bool nA, .pointer (some ⟨bt, 0, none⟩), .int .i64 i0, .int .i64 x0, .int .i64 0, (.slice q1 Pa.length c1), .int .i64 0] 48) := HF3.out.boxes (b21, .cells #[.string nm, .bool nA, .pointer (some ⟨bt, 0, none⟩), .int .i64 i0, .int .i64 x0, .int .i64 0, (.slice q1 Pa.length c1), .int .i64 0] 48) (by simp)
  have y0 : w2.cell? ⟨b21, 0, none⟩ = some (.string nm) := cell_at hb21 rfl
  have y1 : w2.cell? ⟨b21, 1, none⟩ = some (.bool nA) := cell_at hb21 rfl
  have y2 : w2.cell? ⟨b21, 2, none⟩ = some (.pointer (some ⟨bt, 0, none⟩)) := cell_at hb21 rfl
  have y3 : w2.cell? ⟨b21, 3, none⟩ = some (.int .i64 i0) := cell_at hb21 rfl
  have y4 : w2.cell? ⟨b21, 4, none⟩ = some (.int .i64 x0) := cell_at hb21 rfl
  have y5 : w2.cell? ⟨b21, 5, none⟩ = some (.int .i64 0) := cell_at hb21 rfl
  have y6 : w2.cell? ⟨b21, 6, none⟩ = some (.slice q1 Pa.length c1) := cell_at hb21 rfl
  have y7 : w2.cell? ⟨b21, 7, none⟩ = some (.int .i64 0) := cell_at hb21 rfl
  dsimp only
  go_wp2_with fail
  refine (namedParts_any nm nA _ _ _ _ _ _ _ _ _).mono ?_
  rintro e w3 ⟨rfl, hb3⟩
  have HF4 : Hid (FA T X Pa nm ns R ts op B0 g o c base s bd cn bt i0 x0 ao w0 [(w3.heap.size, .cells #[.pointer (some ⟨bt, 0, none⟩), .int .i64 i0, .int .i64 x0, .int .i64 0] 35), (b21, .cells #[.string nm, .bool nA, .pointer (some ⟨bt, 0, none⟩), .int .i64 i0, .int .i64 x0, .int .i64 0, (.slice q1 Pa.length c1), .int .i64 0] 48), (b20, .cells #[.pointer (some ⟨bt, 0, none⟩), .int .i64 i0, .int .i64 x0, .int .i64 0] 35 (0, 0))] [(va, V.length, V), (q1, Pa.length, Pa)] (w3.alloc (.cells #[.pointer (some ⟨bt, 0, none⟩), .int .i64 i0, .int .i64 x0, .int .i64 0] 35))) := (HF3.out.next hb3).box _
  have hb20b : w3.heap[b20]? = some (.cells #[.pointer (some ⟨bt, 0, none⟩), .int .i64 i0, .int .i64 x0, .int .i64 0] 35 (0, 0)) := (HF3.out.next hb3).boxes (b20, .cells #[.pointer (some ⟨bt, 0, none⟩), .int .i64 i0, .int .i64 x0, .int .i64 0] 35 (0, 0)) (by simp)
  have l20 : b20 < w3.heap.size := (Array.getElem?_eq_some_iff.1 hb20b).1
  obtain ⟨f0, f1, f2, f3⟩ := box4 hb20b
  clear hb3 HF3 y0 y1 y2 y3 y4 y5 y6 y7 hb21 hb20b
  dsimp only
  go_wp2_with fail
  generalize w3.heap.size = b24 at HF4 l20 ⊢
  generalize w3.alloc (.cells #[.pointer (some ⟨bt, 0, none⟩), .int .i64 i0, .int .i64 x0, .int .i64 0] 35) = W4 at HF4 ⊢
  clear f0 f1 f2 f3 l20
  refine (resolve_any bt g o c T X Pa nm ix ts i0 x0 bd W4 HP.out.hT HP.out.hX HF4.out.lw.tree HF4.out.lw.path (by omega) HP.out.chain HP.out.bal).mono ?_
  rintro e w5 ⟨hb5, hres⟩
  have HG1 : Hid (FA T X Pa nm ns R ts op B0 g o c base s bd cn bt i0 x0 ao w0 [(b24, .cells #[.pointer (some ⟨bt, 0, none⟩), .int .i64 i0, .int .i64 x0, .int .i64 0] 35), (b21, .cells #[.string nm, .bool nA, .pointer (some ⟨bt, 0, none⟩), .int .i64 i0, .int .i64 x0, .int .i64 0, (.slice q1 Pa.length c1), .int .i64 0] 48), (b20, .cells #[.pointer (some ⟨bt, 0, none⟩), .int .i64 i0, .int .i64 x0, .int .i64 0] 35 (0, 0))] [(va, V.length, V), (q1, Pa.length, Pa)] w5) := HF4.out.next hb5
  clear HF4 hb5
  by_cases hix : ix = 0
  · subst hix
    obtain ⟨nB, okB, pv2, g2, rfl, hpv2, hnB, hokB⟩ := res_zero hres
    clear hres
    have en : nA = nB := by rw [hnB, HA.out.1]
    subst en
    have eo : okA = okB := by rw [hokB, HA.out.2.1]
    subst eo
    obtain ⟨q2, c2, hq2, hsp2⟩ := SR.of_str hpv2 (by omega)
    subst hq2
    have HG1' := HG1.out.sr hsp2
    have HS2 : Hid (StrRow w5 (.slice q2 Pa.length c2) g2 Pa) := hpv2
    clear HG1 hpv2 hsp2 hnB hokB
    have HG1 : Hid (FA T X Pa nm ns R ts op B0 g o c base s bd cn bt i0 x0 ao w0 [(b24, .cells #[.pointer (some ⟨bt, 0, none⟩), .int .i64 i0, .int .i64 x0, .int .i64 0] 35), (b21, .cells #[.string nm, .bool nA, .pointer (some ⟨bt, 0, none⟩), .int .i64 i0, .int .i64 x0, .int .i64 0, (.slice q1 Pa.length c1), .int .i64 0] 48), (b20, .cells #[.pointer (some ⟨bt, 0, none⟩), .int .i64 i0, .int .i64 x0, .int .i64 0] 35 (0, 0))] [(q2, Pa.length, Pa), (va, V.length, V), (q1, Pa.length, Pa)] w5) := HG1'
    clear HG1'
    dsimp only
    go_wp2_with fail
    have HG2 : Hid (FA T X Pa nm ns R ts op B0 g o c base s bd cn bt i0 x0 ao w0 ((w5.heap.size, .cells #[.string nm, .bool nA, .pointer (some ⟨bt, 0, none⟩), .int .i64 i0, .int .i64 x0, .int .i64 0, (.slice q2 Pa.length c2), .int .i64 0] 48) :: [(b24, .cells #[.pointer (some ⟨bt, 0, none⟩), .int .i64 i0, .int .i64 x0, .int .i64 0] 35), (b21, .cells #[.string nm, .bool nA, .pointer (some ⟨bt, 0, none⟩), .int .i64 i0, .int .i64 x0, .int .i64 0, (.slice q1 Pa.length c1), .int .i64 0] 48), (b20, .cells #[.pointer (some ⟨bt, 0, none⟩), .int .i64 i0, .int .i64 x0, .int .i64 0] 35 (0, 0))]) [(q2, Pa.length, Pa), (va, V.length, V), (q1, Pa.length, Pa)] (w5.alloc (.cells #[.string nm, .bool nA, .pointer (some ⟨bt, 0, none⟩), .int .i64 i0, .int .i64 x0, .int .i64 0, (.slice q2 Pa.length c2), .int .i64 0] 48))) := HG1.out.box _
    refine (zzvalues_any bt g2 T X Pa nm nA (.slice q2 Pa.length c2) 0 ts i0 x0 bd _ HP.out.hT HP.out.hX HG2.out.lw.tree (HS2.out.below ((Below.refl _ _).alloc (Nat.le_refl _) _)) HP.out.chain HP.out.bal).mono ?_
    rintro e w6 ⟨hb6, v6, rfl, hrow6⟩
    rw [vals0 HP.out Pa nm nA (fun h => by have := HA.out.1; rw [h] at this; simpa using this.symm), HV.out] at hrow6
    obtain ⟨v1, cv1, rfl, hv1⟩ := SR.of_owns hrow6 (HV.out ▸ vlen HP.out Pa nm false)
    have HG3 : Hid (FA T X Pa nm ns R ts op B0 g o c base s bd cn bt i0 x0 ao w0 ((w5.heap.size, .cells #[.string nm, .bool nA, .pointer (some ⟨bt, 0, none⟩), .int .i64 i0, .int .i64 x0, .int .i64 0, (.slice q2 Pa.length c2), .int .i64 0] 48) :: [(b24, .cells #[.pointer (some ⟨bt, 0, none⟩), .int .i64 i0, .int .i64 x0, .int .i64 0] 35), (b21, .cells #[.string nm, .bool nA, .pointer (some ⟨bt, 0, none⟩), .int .i64 i0, .int .i64 x0, .int .i64 0, (.slice q1 Pa.length c1), .int .i64 0] 48), (b20, .cells #[.pointer (some ⟨bt, 0, none⟩), .int .i64 i0, .int .i64 x0, .int .i64 0] 35 (0, 0))]) ((v1, V.length, V) :: [(q2, Pa.length, Pa), (va, V.length, V), (q1, Pa.length, Pa)]) w6) := (HG2.out.next hb6).sr hv1
    clear hb6 hrow6 hv1 HG2 HG1
    generalize w5.heap.size = b27 at HG3 ⊢
    have hb27 : w6.heap[b27]? = some (.cells #[.string nm, .bool nA, .pointer (some ⟨bt, 0, none⟩), .int .i64 i0, .int .i64 x0, .int .i64 0, (.slice q2 Pa.length c2), .int .i64 0] 48) := HG3.out.boxes (b27, .cells #[.string nm, .bool nA, .pointer (some ⟨bt, 0, none⟩), .int .i64 i0, .int .i64 x0, .int .i64 0, (.slice q2 Pa.length c2), .int .i64 0] 48) (by simp)
    have y0 : w6.cell? ⟨b27, 0, none⟩ = some (.string nm) := cell_at hb27 rfl
    have y1 : w6.cell? ⟨b27, 1, none⟩ = some (.bool nA) := cell_at hb27 rfl
    have y2 : w6.cell? ⟨b27, 2, none⟩ = some (.pointer (some ⟨bt, 0, none⟩)) := cell_at hb27 rfl
    have y3 : w6.cell? ⟨b27, 3, none⟩ = some (.int .i64 i0) := cell_at hb27 rfl
    have y4 : w6.cell? ⟨b27, 4, none⟩ = some (.int .i64 x0) := cell_at hb27 rfl
    have y5 : w6.cell? ⟨b27, 5, none⟩ = some (.int .i64 0) := cell_at hb27 rfl
    have y6 : w6.cell? ⟨b27, 6, none⟩ = some (.slice q2 Pa.length c2) := cell_at hb27 rfl
    have y7 : w6.cell? ⟨b27, 7, none⟩ = some (.int .i64 0) := cell_at hb27 rfl
    dsimp only
    go_wp2_with fail
    refine (namedParts_any _ _ _ _ _ _ _ _ _ _ _).mono ?_
    rintro e w7 ⟨rfl, hb7⟩
    have HG4 : Hid (FA T X Pa nm ns R ts op B0 g o c base s bd cn bt i0 x0 ao w0 ((w7.heap.size, .cells #[.pointer (some ⟨bt, 0, none⟩), .int .i64 i0, .int .i64 x0, .int .i64 0] 35) :: (b27, .cells #[.string nm, .bool nA, .pointer (some ⟨bt, 0, none⟩), .int .i64 i0, .int .i64 x0, .int .i64 0, (.slice q2 Pa.length c2), .int .i64 0] 48) :: [(b24, .cells #[.pointer (some ⟨bt, 0, none⟩), .int .i64 i0, .int .i64 x0, .int .i64 0] 35), (b21, .cells #[.string nm, .bool nA, .pointer (some ⟨bt, 0, none⟩), .int .i64 i0, .int .i64 x0, .int .i64 0, (.slice q1 Pa.length c1), .int .i64 0] 48), (b20, .cells #[.pointer (some ⟨bt, 0, none⟩), .int .i64 i0, .int .i64 x0, .int .i64 0] 35 (0, 0))]) ((v1, V.length, V) :: [(q2, Pa.length, Pa), (va, V.length, V), (q1, Pa.length, Pa)]) (w7.alloc (.cells #[.pointer (some ⟨bt, 0, none⟩), .int .i64 i0, .int .i64 x0, .int .i64 0] 35))) := (HG3.out.next hb7).box _
    clear hb7 HG3 hb27 y0 y1 y2 y3 y4 y5 y6 y7
    dsimp only
    go_upto_region 29 with fail
    generalize w7.heap.size = b30 at HG4 ⊢
    generalize w7.alloc (.cells #[.pointer (some ⟨bt, 0, none⟩), .int .i64 i0, .int .i64 x0, .int .i64 0] 35) = W8 at HG4 ⊢
    go_upto_if 149 with fail
    go_cut [] from 147 to 149 (fun wx => wx = W8)
    case first =>
      have hne : ((Pa.length : Int) + 1 == 0) = false := by rw [beq_eq_false_iff_ne]; omega
      go_wp2
      go_meet
      rfl
    case rest =>
      obtain rfl := hcut
      rename_i K hK
      refine hK _ _ ?_
      have hb20 := HG4.out.boxes (b20, .cells #[.pointer (some ⟨bt, 0, none⟩), .int .i64 i0, .int .i64 x0, .int .i64 0] 35 (0, 0)) (by simp)
      have hb21 := HG4.out.boxes (b21, .cells #[.string nm, .bool nA, .pointer (some ⟨bt, 0, none⟩), .int .i64 i0, .int .i64 x0, .int .i64 0, (.slice q1 Pa.length c1), .int .i64 0] 48) (by simp)
      have hb24 := HG4.out.boxes (b24, .cells #[.pointer (some ⟨bt, 0, none⟩), .int .i64 i0, .int .i64 x0, .int .i64 0] 35) (by simp)
      exact l6_mid B0 g o c b20 b21 b24 bt i0 x0 ca c1 base s bd cn Pa nm nA okA va q1 ao _ T X ns R ts op i0 x0 (named X Pa nm false ts).length V w0 _ HG4.out.lw.path (by omega) HG4.out.lw.row HP.out.len HP.out.hT HP.out.hX HP.out.run HP.out.dep HP.out.txt HP.out.rl HP.out.meets HP.out.chain HP.out.o1 HP.out.o2 HP.out.o3 rfl HV.out.symm HA.out.2.1 HA.out.1
        (cell_at hb21 rfl) (cell_at hb21 rfl) (cell_at hb20 rfl) (cell_at hb20 rfl) (cell_at hb20 rfl) (cell_at hb20 rfl) (cell_at hb24 rfl) (cell_at hb24 rfl) (cell_at hb24 rfl) (cell_at hb24 rfl) ⟨HG4.out.srs (va, V.length, V) (by simp), HG4.out.srs (q1, Pa.length, Pa) (by simp), HG4.out.lw.below⟩
        (.pointer (some ⟨b27, 0, none⟩)) (.bool okA) (.slice v1 V.length cv1) (.pointer (some ⟨b30, 0, none⟩)) (.slice q2 Pa.length c2) (.int .i64 0) (fun u2 u3 u4 u5 u6 u7 u8 u9 u10 u11 u12 u13 u14 u15 u16 u17 u18 u19 u35 u36 u37 u38 u39 u40 u41 u42 u43 u44 u45 u46 u47 u48 u49 u50 u51 u52 u53 u54 u55 u56 u57 u58 u59 u60 u61 u62 u63 u64 u65 u66 u67 u68 u69 u70 u71 u72 u73 u74 u75 u76 u77 u78 u79 u80 u81 u82 u83 u84 u85 u86 u87 u88 u89 u90 u91 u92 u93 u94 u95 u96 u97 u98 u99 u100 u101 u102 u103 u104 u105 u106 u107 u108 u109 u110 u111 u112 u113 u114 u115 u116 u117 u118 u119 u120 u121 u122 u123 u124 u125 u126 u127 u128 u129 u130 u131 u132 u133 u134 u135 u136 u137 u138 u139 u140 u141 u142 u143 u144 u145 u146 u147 u148 u149 u150 u151 u152 u153 u154 u155 u156 u157 u158 u159 u160 u161 u162 u163 u164 u165 u166 u167 u168 u169 u170 u171 u172 u173 u174 u175 u176 u177 u178 u179 u180 u181 u182 u183 u184 u185 u186 u187 u188 u189 u190 u191 u192 u193 u194 u195 u196 u197 u198 u199 u200 u201 u202 u203 u204 u205 u206 u207 u208 u209 u210 u211 u212 u213 u214 u215 u216 u217 u218 u219 u220 u221 u222 u223 u224 u225 u226 u227 u228 u229 u230 u231 u232 u233 u234 u235 u236 u237 u238 u239 u240 u241 u242 u243 u244 u245 u246 u247 u248 u249 u250 u251 u252 u253 u254 u255 u256 u257 u258 u259 u260 u261 u262 u263 u264 u265 u266 u267 u268 u269 u270 u271 u272 u273 u274 u275 u276 u277 u278 u279 u280 u281 u282 u283 u284 u285 u286 u287 u288 u289 u290 u291 u292 u293 u294 u295 u296 u297 u298 u299 u300 u301 u302 u303 u304 u305 u306 u307 u308 u309 u310 u311 u312 u313 u314 u315 u316 u317 u318 u319 u320 u321 u322 u323 u324 u325 u326 u327 u328 u329 u330 u331 u332 u333 u334 u335 u336 u337 u338 u339 u340 u341 u342 u343 u344 u345 u346 u347 u348 u349 u350 u351 u352 u353 u354 u355 u356 u357 u358 u359 u360 u361 u362 u363 u364 u365 u366 u367 u368 u369 u370 u371 u372 u373 u374 u375 u376 u377 u378 u379 u380 u381 u382 u383 u384 u385 u386 u387 u388 u389 u390 u391 u392 u393 u394 u395 u396 u397 w' hb' => by
          have HG5 := HG4.out.next hb'
          have hb20 := HG5.boxes (b20, .cells #[.pointer (some ⟨bt, 0, none⟩), .int .i64 i0, .int .i64 x0, .int .i64 0] 35 (0, 0)) (by simp)
          have hb21 := HG5.boxes (b21, .cells #[.string nm, .bool nA, .pointer (some ⟨bt, 0, none⟩), .int .i64 i0, .int .i64 x0, .int .i64 0, (.slice q1 Pa.length c1), .int .i64 0] 48) (by simp)
          have hb27 := HG5.boxes (b27, .cells #[.string nm, .bool nA, .pointer (some ⟨bt, 0, none⟩), .int .i64 i0, .int .i64 x0, .int .i64 0, (.slice q2 Pa.length c2), .int .i64 0] 48) (by simp)
          have hb30 := HG5.boxes (b30, .cells #[.pointer (some ⟨bt, 0, none⟩), .int .i64 i0, .int .i64 x0, .int .i64 0] 35) (by simp)
          exact l6_zero B0 g o c b20 b21 b24 b27 b30 bt i0 x0 _ ca c1 cv1 c2 Pa V nm nA okA va q1 v1 q2 w0 w' (cell_at hb21 rfl) (cell_at hb21 rfl) (cell_at hb27 rfl) (cell_at hb27 rfl) (cell_at hb20 rfl) (cell_at hb20 rfl) (cell_at hb20 rfl) (cell_at hb20 rfl) (cell_at hb30 rfl) (cell_at hb30 rfl) (cell_at hb30 rfl) (cell_at hb30 rfl) ⟨HG5.srs (va, V.length, V) (by simp), HG5.srs (v1, V.length, V) (by simp), HG5.srs (q1, Pa.length, Pa) (by simp), HG5.srs (q2, Pa.length, Pa) (by simp), HG5.lw.below⟩ u2 u3 u4 u5 u6 u7 u8 u9 u10 u11 u12 u13 u14 u15 u16 u17 u18 u19 u35 u36 u37 u38 u39 u40 u41 u42 u43 u44 u45 u46 u47 u48 u49 u50 u51 u52 u53 u54 u55 u56 u57 u58 u59 u60 u61 u62 u63 u64 u65 u66 u67 u68 u69 u70 u71 u72 u73 u74 u75 u76 u77 u78 u79 u80 u81 u82 u83 u84 u85 u86 u87 u88 u89 u90 u91 u92 u93 u94 u95 u96 u97 u98 u99 u100 u101 u102 u103 u104 u105 u106 u107 u108 u109 u110 u111 u112 u113 u114 u115 u116 u117 u118 u119 u120 u121 u122 u123 u124 u125 u126 u127 u128 u129 u130 u131 u132 u133 u134 u135 u136 u137 u138 u139 u140 u141 u142 u143 u144 u145 u146 u147 u148 u149 u150 u151 u152 u153 u154 u155 u156 u157 u158 u159 u160 u161 u162 u163 u164 u165 u166 u167 u168 u169 u170 u171 u172 u173 u174 u175 u176 u177 u178 u179 u180 u181 u182 u183 u184 u185 u186 u187 u188 u189 u190 u191 u192 u193 u194 u195 u196 u197 u198 u199 u200 u201 u202 u203 u204 u205 u206 u207 u208 u209 u210 u211 u212 u213 u214 u215 u216 u217 u218 u219 u220 u221 u222 u223 u224 u225 u226 u227 u228 u229 u230 u231 u232 u233 u234 u235 u236 u237 u238 u239 u240 u241 u242 u243 u244 u245 u246 u247 u248 u249 u250 u251 u252 u253 u254 u255 u256 u257 u258 u259 u260 u261 u262 u263 u264 u265 u266 u267 u268 u269 u270 u271 u272 u273 u274 u275 u276 u277 u278 u279 u280 u281 u282 u283 u284 u285 u286 u287 u288 u289 u290 u291 u292 u293 u294 u295 u296 u297 u298 u299 u300 u301 u302 u303 u304 u305 u306 u307 u308 u309 u310 u311 u312 u313 u314 u315 u316 u317 u318 u319 u320 u321 u322 u323 u324 u325 u326 u327 u328 u329 u330 u331 u332 u333 u334 u335 u336 u337 u338 u339 u340 u341 u342 u343 u344 u345 u346 u347 u348 u349 u350 u351 u352 u353 u354 u355 u356 u357 u358 u359 u360 u361 u362 u363 u364 u365 u366 u367 u368 u369 u370 u371 u372 u373 u374 u375 u376 u377 u378 u379 u380 u381 u382 u383 u384 u385 u386 u387 u388 u389 u390 u391 u392 u393 u394 u395 u396 u397) _ _ _ _ _ _ _ _ _ _ _ _ _ _ _ _ _ _ _ _ _ _ _ _ _ _ _ _ _ _ _ _ _ _ _ _ _ _ _ _ _ _ _ _ _ _ _ _ _ _ _ _ _ _ _ _ _ _ _ _ _ _ _ _ _ _ _ _ _ _ _ _ _ _ _ _ _ _ _ _ _ _ _ _ _ _ _ _ _ _ _ _ _ _ _ _ _ _ _ _ _ _ _ _ _ _ _ _ _ _ _ _ _ _ _ _ _ _ _ _ _ _ _ _ _ _ _ _ _ _ _ _ _ _ _ _ _ _ _ _ _ _ _ _ _ _ _ _ _ _ _ _ _ _ _ _ _ _ _ _ _ _ _ _ _ _ _ _ _ _ _ _ _ _ _ _ _ _ _ _ _ _ _ _ _ _ _ _ _ _ _ _ _ _ _ _ _ _ _ _ _ _ _ _ _ _ _ _ _ _ _ _ _ _ _ _ _ _ _ _ _ _ _ _ _ _ _ _ _ _ _ _ _ _ _ _ _ _ _ _ _ _ _ _ _ _ _ _ _ _ _ _ _ _ _ _ _ _ _ _ _ _ _ _ _ _ _ _ _ _ _ _ _ _ _ _ _ _ _ _ _ _ _ _ _ _ _ _ _ _ _ _ _ _ _ _ _ _ _ _ _ _ _ _ _ _ _ _ _ _ _ _ _ _ _ _ _ _ _ _ _ _ _ _ _ _ _ _ _ _ _ _ _ _ _ _ _ _ _ _ _ _ _ _ _ _ _ _ _ _ _ _ _ _ _ _ _ _ _ _ _ _ _ _ _ _ _ _ _ _ _ _ _ _ _ _ _ _ _ _
  · rcases hres with ⟨_, hz, rfl⟩ | ⟨pv2, g2, hpv2, _, ⟨hF, hpk, rfl⟩ | ⟨h0, _⟩⟩
    · have HI : Hid (ix ≠ 0) := hix
      have HM : Hid ((named X Pa nm false ts).length = 0 ∨ ix < 1 ∨ (V.length : Int) < ix) := by
        rcases hz with hz | hz
        · exact .inl (by rw [hz]; rfl)
        · exact .inr (picks_none hix (HV.out ▸ hz))
      clear hix hz
      dsimp only
      go_wp2_with fail
      have HG2 : Hid (FA T X Pa nm ns R ts op B0 g o c base s bd cn bt i0 x0 ao w0 ((w5.heap.size, .cells #[.string ByteArray.empty, .bool false, .pointer none, .int .i64 0, .int .i64 0, .int .i64 0, .slice none 0 0, .int .i64 0] 48) :: [(b24, .cells #[.pointer (some ⟨bt, 0, none⟩), .int .i64 i0, .int .i64 x0, .int .i64 0] 35), (b21, .cells #[.string nm, .bool nA, .pointer (some ⟨bt, 0, none⟩), .int .i64 i0, .int .i64 x0, .int .i64 0, (.slice q1 Pa.length c1), .int .i64 0] 48), (b20, .cells #[.pointer (some ⟨bt, 0, none⟩), .int .i64 i0, .int .i64 x0, .int .i64 0] 35 (0, 0))]) [(va, V.length, V), (q1, Pa.length, Pa)] (w5.alloc (.cells #[.string ByteArray.empty, .bool false, .pointer none, .int .i64 0, .int .i64 0, .int .i64 0, .slice none 0 0, .int .i64 0] 48))) := HG1.out.box _
      refine (zzvalues_nil _).mono ?_
      rintro e w6 ⟨hb6, rfl⟩
      have HG3 : Hid (FA T X Pa nm ns R ts op B0 g o c base s bd cn bt i0 x0 ao w0 ((w5.heap.size, .cells #[.string ByteArray.empty, .bool false, .pointer none, .int .i64 0, .int .i64 0, .int .i64 0, .slice none 0 0, .int .i64 0] 48) :: [(b24, .cells #[.pointer (some ⟨bt, 0, none⟩), .int .i64 i0, .int .i64 x0, .int .i64 0] 35), (b21, .cells #[.string nm, .bool nA, .pointer (some ⟨bt, 0, none⟩), .int .i64 i0, .int .i64 x0, .int .i64 0, (.slice q1 Pa.length c1), .int .i64 0] 48), (b20, .cells #[.pointer (some ⟨bt, 0, none⟩), .int .i64 i0, .int .i64 x0, .int .i64 0] 35 (0, 0))]) [(va, V.length, V), (q1, Pa.length, Pa)] w6) := HG2.out.next hb6
      clear hb6 HG2 HG1
      generalize w5.heap.size = b27 at HG3 ⊢
      have hb27 : w6.heap[b27]? = some (.cells #[.string ByteArray.empty, .bool false, .pointer none, .int .i64 0, .int .i64 0, .int .i64 0, .slice none 0 0, .int .i64 0] 48) := HG3.out.boxes (b27, .cells #[.string ByteArray.empty, .bool false, .pointer none, .int .i64 0, .int .i64 0, .int .i64 0, .slice none 0 0, .int .i64 0] 48) (by simp)
      have y0 : w6.cell? ⟨b27, 0, none⟩ = some (.string ByteArray.empty) := cell_at hb27 rfl
      have y1 : w6.cell? ⟨b27, 1, none⟩ = some (.bool false) := cell_at hb27 rfl
      have y2 : w6.cell? ⟨b27, 2, none⟩ = some (.pointer none) := cell_at hb27 rfl
      have y3 : w6.cell? ⟨b27, 3, none⟩ = some (.int .i64 0) := cell_at hb27 rfl
      have y4 : w6.cell? ⟨b27, 4, none⟩ = some (.int .i64 0) := cell_at hb27 rfl
      have y5 : w6.cell? ⟨b27, 5, none⟩ = some (.int .i64 0) := cell_at hb27 rfl
      have y6 : w6.cell? ⟨b27, 6, none⟩ = some (.slice none 0 0) := cell_at hb27 rfl
      have y7 : w6.cell? ⟨b27, 7, none⟩ = some (.int .i64 0) := cell_at hb27 rfl
      dsimp only
      go_wp2_with fail
      refine (namedParts_any _ _ _ _ _ _ _ _ _ _ _).mono ?_
      rintro e w7 ⟨rfl, hb7⟩
      have HG4 : Hid (FA T X Pa nm ns R ts op B0 g o c base s bd cn bt i0 x0 ao w0 ((w7.heap.size, .cells #[.pointer none, .int .i64 0, .int .i64 0, .int .i64 0] 35) :: (b27, .cells #[.string ByteArray.empty, .bool false, .pointer none, .int .i64 0, .int .i64 0, .int .i64 0, .slice none 0 0, .int .i64 0] 48) :: [(b24, .cells #[.pointer (some ⟨bt, 0, none⟩), .int .i64 i0, .int .i64 x0, .int .i64 0] 35), (b21, .cells #[.string nm, .bool nA, .pointer (some ⟨bt, 0, none⟩), .int .i64 i0, .int .i64 x0, .int .i64 0, (.slice q1 Pa.length c1), .int .i64 0] 48), (b20, .cells #[.pointer (some ⟨bt, 0, none⟩), .int .i64 i0, .int .i64 x0, .int .i64 0] 35 (0, 0))]) [(va, V.length, V), (q1, Pa.length, Pa)] (w7.alloc (.cells #[.pointer none, .int .i64 0, .int .i64 0, .int .i64 0] 35))) := (HG3.out.next hb7).box _
      clear hb7 HG3 hb27 y0 y1 y2 y3 y4 y5 y6 y7
      dsimp only
      go_upto_region 29 with fail
      generalize w7.heap.size = b30 at HG4 ⊢
      generalize w7.alloc (.cells #[.pointer none, .int .i64 0, .int .i64 0, .int .i64 0] 35) = W8 at HG4 ⊢
      go_upto_if 149 with fail
      go_cut [] from 147 to 149 (fun wx => wx = W8)
      case first =>
        have hne : ((Pa.length : Int) + 1 == 0) = false := by rw [beq_eq_false_iff_ne]; omega
        go_wp2
        go_meet
        rfl
      case rest =>
        obtain rfl := hcut
        rename_i K hK
        refine hK _ _ ?_
        have hb20 := HG4.out.boxes (b20, .cells #[.pointer (some ⟨bt, 0, none⟩), .int .i64 i0, .int .i64 x0, .int .i64 0] 35 (0, 0)) (by simp)
        have hb21 := HG4.out.boxes (b21, .cells #[.string nm, .bool nA, .pointer (some ⟨bt, 0, none⟩), .int .i64 i0, .int .i64 x0, .int .i64 0, (.slice q1 Pa.length c1), .int .i64 0] 48) (by simp)
        have hb24 := HG4.out.boxes (b24, .cells #[.pointer (some ⟨bt, 0, none⟩), .int .i64 i0, .int .i64 x0, .int .i64 0] 35) (by simp)
        exact l6_mid B0 g o c b20 b21 b24 bt i0 x0 ca c1 base s bd cn Pa nm nA okA va q1 ao _ T X ns R ts op i0 x0 (named X Pa nm false ts).length V w0 _ HG4.out.lw.path (by omega) HG4.out.lw.row HP.out.len HP.out.hT HP.out.hX HP.out.run HP.out.dep HP.out.txt HP.out.rl HP.out.meets HP.out.chain HP.out.o1 HP.out.o2 HP.out.o3 rfl HV.out.symm HA.out.2.1 HA.out.1
          (cell_at hb21 rfl) (cell_at hb21 rfl) (cell_at hb20 rfl) (cell_at hb20 rfl) (cell_at hb20 rfl) (cell_at hb20 rfl) (cell_at hb24 rfl) (cell_at hb24 rfl) (cell_at hb24 rfl) (cell_at hb24 rfl) ⟨HG4.out.srs (va, V.length, V) (by simp), HG4.out.srs (q1, Pa.length, Pa) (by simp), HG4.out.lw.below⟩
          (.pointer (some ⟨b27, 0, none⟩)) (.bool false) (.slice none 0 0) (.pointer (some ⟨b30, 0, none⟩)) (.slice none 0 0) (.int .i64 0) (fun u2 u3 u4 u5 u6 u7 u8 u9 u10 u11 u12 u13 u14 u15 u16 u17 u18 u19 u35 u36 u37 u38 u39 u40 u41 u42 u43 u44 u45 u46 u47 u48 u49 u50 u51 u52 u53 u54 u55 u56 u57 u58 u59 u60 u61 u62 u63 u64 u65 u66 u67 u68 u69 u70 u71 u72 u73 u74 u75 u76 u77 u78 u79 u80 u81 u82 u83 u84 u85 u86 u87 u88 u89 u90 u91 u92 u93 u94 u95 u96 u97 u98 u99 u100 u101 u102 u103 u104 u105 u106 u107 u108 u109 u110 u111 u112 u113 u114 u115 u116 u117 u118 u119 u120 u121 u122 u123 u124 u125 u126 u127 u128 u129 u130 u131 u132 u133 u134 u135 u136 u137 u138 u139 u140 u141 u142 u143 u144 u145 u146 u147 u148 u149 u150 u151 u152 u153 u154 u155 u156 u157 u158 u159 u160 u161 u162 u163 u164 u165 u166 u167 u168 u169 u170 u171 u172 u173 u174 u175 u176 u177 u178 u179 u180 u181 u182 u183 u184 u185 u186 u187 u188 u189 u190 u191 u192 u193 u194 u195 u196 u197 u198 u199 u200 u201 u202 u203 u204 u205 u206 u207 u208 u209 u210 u211 u212 u213 u214 u215 u216 u217 u218 u219 u220 u221 u222 u223 u224 u225 u226 u227 u228 u229 u230 u231 u232 u233 u234 u235 u236 u237 u238 u239 u240 u241 u242 u243 u244 u245 u246 u247 u248 u249 u250 u251 u252 u253 u254 u255 u256 u257 u258 u259 u260 u261 u262 u263 u264 u265 u266 u267 u268 u269 u270 u271 u272 u273 u274 u275 u276 u277 u278 u279 u280 u281 u282 u283 u284 u285 u286 u287 u288 u289 u290 u291 u292 u293 u294 u295 u296 u297 u298 u299 u300 u301 u302 u303 u304 u305 u306 u307 u308 u309 u310 u311 u312 u313 u314 u315 u316 u317 u318 u319 u320 u321 u322 u323 u324 u325 u326 u327 u328 u329 u330 u331 u332 u333 u334 u335 u336 u337 u338 u339 u340 u341 u342 u343 u344 u345 u346 u347 u348 u349 u350 u351 u352 u353 u354 u355 u356 u357 u358 u359 u360 u361 u362 u363 u364 u365 u366 u367 u368 u369 u370 u371 u372 u373 u374 u375 u376 u377 u378 u379 u380 u381 u382 u383 u384 u385 u386 u387 u388 u389 u390 u391 u392 u393 u394 u395 u396 u397 w' hb' => by
            have HG5 := HG4.out.next hb'
            have hb20 := HG5.boxes (b20, .cells #[.pointer (some ⟨bt, 0, none⟩), .int .i64 i0, .int .i64 x0, .int .i64 0] 35 (0, 0)) (by simp)
            have hb21 := HG5.boxes (b21, .cells #[.string nm, .bool nA, .pointer (some ⟨bt, 0, none⟩), .int .i64 i0, .int .i64 x0, .int .i64 0, (.slice q1 Pa.length c1), .int .i64 0] 48) (by simp)
            have hb27 := HG5.boxes (b27, .cells #[.string ByteArray.empty, .bool false, .pointer none, .int .i64 0, .int .i64 0, .int .i64 0, .slice none 0 0, .int .i64 0] 48) (by simp)
            have hb30 := HG5.boxes (b30, .cells #[.pointer none, .int .i64 0, .int .i64 0, .int .i64 0] 35) (by simp)
            exact l6_miss B0 g o c b20 b21 b24 b27 b30 _ ca c1 Pa V okA va q1 ix w0 w' HI.out HM.out (cell_at hb27 rfl) (cell_at hb27 rfl) (cell_at hb30 rfl) (cell_at hb30 rfl) (cell_at hb30 rfl) (cell_at hb30 rfl) HG5.lw.below u2 u3 u4 u5 u6 u7 u8 u9 u10 u11 u12 u13 u14 u15 u16 u17 u18 u19 u35 u36 u37 u38 u39 u40 u41 u42 u43 u44 u45 u46 u47 u48 u49 u50 u51 u52 u53 u54 u55 u56 u57 u58 u59 u60 u61 u62 u63 u64 u65 u66 u67 u68 u69 u70 u71 u72 u73 u74 u75 u76 u77 u78 u79 u80 u81 u82 u83 u84 u85 u86 u87 u88 u89 u90 u91 u92 u93 u94 u95 u96 u97 u98 u99 u100 u101 u102 u103 u104 u105 u106 u107 u108 u109 u110 u111 u112 u113 u114 u115 u116 u117 u118 u119 u120 u121 u122 u123 u124 u125 u126 u127 u128 u129 u130 u131 u132 u133 u134 u135 u136 u137 u138 u139 u140 u141 u142 u143 u144 u145 u146 u147 u148 u149 u150 u151 u152 u153 u154 u155 u156 u157 u158 u159 u160 u161 u162 u163 u164 u165 u166 u167 u168 u169 u170 u171 u172 u173 u174 u175 u176 u177 u178 u179 u180 u181 u182 u183 u184 u185 u186 u187 u188 u189 u190 u191 u192 u193 u194 u195 u196 u197 u198 u199 u200 u201 u202 u203 u204 u205 u206 u207 u208 u209 u210 u211 u212 u213 u214 u215 u216 u217 u218 u219 u220 u221 u222 u223 u224 u225 u226 u227 u228 u229 u230 u231 u232 u233 u234 u235 u236 u237 u238 u239 u240 u241 u242 u243 u244 u245 u246 u247 u248 u249 u250 u251 u252 u253 u254 u255 u256 u257 u258 u259 u260 u261 u262 u263 u264 u265 u266 u267 u268 u269 u270 u271 u272 u273 u274 u275 u276 u277 u278 u279 u280 u281 u282 u283 u284 u285 u286 u287 u288 u289 u290 u291 u292 u293 u294 u295 u296 u297 u298 u299 u300 u301 u302 u303 u304 u305 u306 u307 u308 u309 u310 u311 u312 u313 u314 u315 u316 u317 u318 u319 u320 u321 u322 u323 u324 u325 u326 u327 u328 u329 u330 u331 u332 u333 u334 u335 u336 u337 u338 u339 u340 u341 u342 u343 u344 u345 u346 u347 u348 u349 u350 u351 u352 u353 u354 u355 u356 u357 u358 u359 u360 u361 u362 u363 u364 u365 u366 u367 u368 u369 u370 u371 u372 u373 u374 u375 u376 u377 u378 u379 u380 u381 u382 u383 u384 u385 u386 u387 u388 u389 u390 u391 u392 u393 u394 u395 u396 u397) _ _ _ _ _ _ _ _ _ _ _ _ _ _ _ _ _ _ _ _ _ _ _ _ _ _ _ _ _ _ _ _ _ _ _ _ _ _ _ _ _ _ _ _ _ _ _ _ _ _ _ _ _ _ _ _ _ _ _ _ _ _ _ _ _ _ _ _ _ _ _ _ _ _ _ _ _ _ _ _ _ _ _ _ _ _ _ _ _ _ _ _ _ _ _ _ _ _ _ _ _ _ _ _ _ _ _ _ _ _ _ _ _ _ _ _ _ _ _ _ _ _ _ _ _ _ _ _ _ _ _ _ _ _ _ _ _ _ _ _ _ _ _ _ _ _ _ _ _ _ _ _ _ _ _ _ _ _ _ _ _ _ _ _ _ _ _ _ _ _ _ _ _ _ _ _ _ _ _ _ _ _ _ _ _ _ _ _ _ _ _ _ _ _ _ _ _ _ _ _ _ _ _ _ _ _ _ _ _ _ _ _ _ _ _ _ _ _ _ _ _ _ _ _ _ _ _ _ _ _ _ _ _ _ _ _ _ _ _ _ _ _ _ _ _ _ _ _ _ _ _ _ _ _ _ _ _ _ _ _ _ _ _ _ _ _ _ _ _ _ _ _ _ _ _ _ _ _ _ _ _ _ _ _ _ _ _ _ _ _ _ _ _ _ _ _ _ _ _ _ _ _ _ _ _ _ _ _ _ _ _ _ _ _ _ _ _ _ _ _ _ _ _ _ _ _ _ _ _ _ _ _ _ _ _ _ _ _ _ _ _ _ _ _ _ _ _ _ _ _ _ _ _ _ _ _ _ _ _ _ _ _ _ _ _ _ _ _ _ _ _ _ _ _ _ _ _ _ _ _
    · have hpk' : picks ix V ≠ [] := by
        rcases hpk with h | h
        · exact absurd h hix
        · rw [HV.out] at h; exact h
      obtain ⟨k, q, rfl, hk1, hk2⟩ := picks_some hix hpk'
      have HK : Hid (((k : Int) + 1 ≠ 0) ∧ picks ((k : Int) + 1) V = [q] ∧ V[k]? = some q ∧ 0 < (named X Pa nm false ts).length) := ⟨hix, hk1, hk2, List.length_pos_iff.2 hF⟩
      clear hix hpk hpk' hk1 hk2 hF
      obtain ⟨q2, c2, hq2, hsp2⟩ := SR.of_str hpv2 (by omega)
      subst hq2
      have HG1' := HG1.out.sr hsp2
      have HS2 : Hid (StrRow w5 (.slice q2 Pa.length c2) g2 Pa) := hpv2
      clear HG1 hpv2 hsp2
      have HG1 : Hid (FA T X Pa nm ns R ts op B0 g o c base s bd cn bt i0 x0 ao w0 [(b24, .cells #[.pointer (some ⟨bt, 0, none⟩), .int .i64 i0, .int .i64 x0, .int .i64 0] 35), (b21, .cells #[.string nm, .bool nA, .pointer (some ⟨bt, 0, none⟩), .int .i64 i0, .int .i64 x0, .int .i64 0, (.slice q1 Pa.length c1), .int .i64 0] 48), (b20, .cells #[.pointer (some ⟨bt, 0, none⟩), .int .i64 i0, .int .i64 x0, .int .i64 0] 35 (0, 0))] [(q2, Pa.length, Pa), (va, V.length, V), (q1, Pa.length, Pa)] w5) := HG1'
      clear HG1'
      dsimp only
      go_wp2_with fail
      have HG2 : Hid (FA T X Pa nm ns R ts op B0 g o c base s bd cn bt i0 x0 ao w0 ((w5.heap.size, .cells #[.string nm, .bool false, .pointer (some ⟨bt, 0, none⟩), .int .i64 i0, .int .i64 x0, .int .i64 0, (.slice q2 Pa.length c2), .int .i64 ((k : Int) + 1)] 48) :: [(b24, .cells #[.pointer (some ⟨bt, 0, none⟩), .int .i64 i0, .int .i64 x0, .int .i64 0] 35), (b21, .cells #[.string nm, .bool nA, .pointer (some ⟨bt, 0, none⟩), .int .i64 i0, .int .i64 x0, .int .i64 0, (.slice q1 Pa.length c1), .int .i64 0] 48), (b20, .cells #[.pointer (some ⟨bt, 0, none⟩), .int .i64 i0, .int .i64 x0, .int .i64 0] 35 (0, 0))]) [(q2, Pa.length, Pa), (va, V.length, V), (q1, Pa.length, Pa)] (w5.alloc (.cells #[.string nm, .bool false, .pointer (some ⟨bt, 0, none⟩), .int .i64 i0, .int .i64 x0, .int .i64 0, (.slice q2 Pa.length c2), .int .i64 ((k : Int) + 1)] 48))) := HG1.out.box _
      refine (zzvalues_any bt g2 T X Pa nm false (.slice q2 Pa.length c2) ((k : Int) + 1) ts i0 x0 bd _ HP.out.hT HP.out.hX HG2.out.lw.tree (HS2.out.below ((Below.refl _ _).alloc (Nat.le_refl _) _)) HP.out.chain HP.out.bal).mono ?_
      rintro e w6 ⟨hb6, v6, rfl, hrow6⟩
      rw [HV.out, HK.out.2.1] at hrow6
      obtain ⟨gv, cv1, rfl⟩ := ownsRow_succ (k := 0) hrow6
      have hsv : SR w6 (some ⟨gv, 0, none⟩) 1 [q] := ⟨rfl, by simp, fun i u hu => by
        cases i with
        | zero =>
          simp at hu
          subst hu
          refine ⟨gv, 0, rfl, ?_⟩
          have := hrow6.cellAt 0 (by simp)
          simpa using this
        | succ i => simp at hu⟩
      have HG3 : Hid (FA T X Pa nm ns R ts op B0 g o c base s bd cn bt i0 x0 ao w0 ((w5.heap.size, .cells #[.string nm, .bool false, .pointer (some ⟨bt, 0, none⟩), .int .i64 i0, .int .i64 x0, .int .i64 0, (.slice q2 Pa.length c2), .int .i64 ((k : Int) + 1)] 48) :: [(b24, .cells #[.pointer (some ⟨bt, 0, none⟩), .int .i64 i0, .int .i64 x0, .int .i64 0] 35), (b21, .cells #[.string nm, .bool nA, .pointer (some ⟨bt, 0, none⟩), .int .i64 i0, .int .i64 x0, .int .i64 0, (.slice q1 Pa.length c1), .int .i64 0] 48), (b20, .cells #[.pointer (some ⟨bt, 0, none⟩), .int .i64 i0, .int .i64 x0, .int .i64 0] 35 (0, 0))]) ((some ⟨gv, 0, none⟩, 1, [q]) :: [(q2, Pa.length, Pa), (va, V.length, V), (q1, Pa.length, Pa)]) w6) := (HG2.out.next hb6).sr hsv
      clear hb6 hrow6 hsv HG2 HG1
      generalize w5.heap.size = b27 at HG3 ⊢
      have hb27 : w6.heap[b27]? = some (.cells #[.string nm, .bool false, .pointer (some ⟨bt, 0, none⟩), .int .i64 i0, .int .i64 x0, .int .i64 0, (.slice q2 Pa.length c2), .int .i64 ((k : Int) + 1)] 48) := HG3.out.boxes (b27, .cells #[.string nm, .bool false, .pointer (some ⟨bt, 0, none⟩), .int .i64 i0, .int .i64 x0, .int .i64 0, (.slice q2 Pa.length c2), .int .i64 ((k : Int) + 1)] 48) (by simp)
      have y0 : w6.cell? ⟨b27, 0, none⟩ = some (.string nm) := cell_at hb27 rfl
      have y1 : w6.cell? ⟨b27, 1, none⟩ = some (.bool false) := cell_at hb27 rfl
      have y2 : w6.cell? ⟨b27, 2, none⟩ = some (.pointer (some ⟨bt, 0, none⟩)) := cell_at hb27 rfl
      have y3 : w6.cell? ⟨b27, 3, none⟩ = some (.int .i64 i0) := cell_at hb27 rfl
      have y4 : w6.cell? ⟨b27, 4, none⟩ = some (.int .i64 x0) := cell_at hb27 rfl
      have y5 : w6.cell? ⟨b27, 5, none⟩ = some (.int .i64 0) := cell_at hb27 rfl
      have y6 : w6.cell? ⟨b27, 6, none⟩ = some (.slice q2 Pa.length c2) := cell_at hb27 rfl
      have y7 : w6.cell? ⟨b27, 7, none⟩ = some (.int .i64 ((k : Int) + 1)) := cell_at hb27 rfl
      dsimp only
      go_wp2_with fail
      refine (namedParts_any _ _ _ _ _ _ _ _ _ _ _).mono ?_
      rintro e w7 ⟨rfl, hb7⟩
      have HG4 : Hid (FA T X Pa nm ns R ts op B0 g o c base s bd cn bt i0 x0 ao w0 ((w7.heap.size, .cells #[.pointer (some ⟨bt, 0, none⟩), .int .i64 i0, .int .i64 x0, .int .i64 0] 35) :: (b27, .cells #[.string nm, .bool false, .pointer (some ⟨bt, 0, none⟩), .int .i64 i0, .int .i64 x0, .int .i64 0, (.slice q2 Pa.length c2), .int .i64 ((k : Int) + 1)] 48) :: [(b24, .cells #[.pointer (some ⟨bt, 0, none⟩), .int .i64 i0, .int .i64 x0, .int .i64 0] 35), (b21, .cells #[.string nm, .bool nA, .pointer (some ⟨bt, 0, none⟩), .int .i64 i0, .int .i64 x0, .int .i64 0, (.slice q1 Pa.length c1), .int .i64 0] 48), (b20, .cells #[.pointer (some ⟨bt, 0, none⟩), .int .i64 i0, .int .i64 x0, .int .i64 0] 35 (0, 0))]) ((some ⟨gv, 0, none⟩, 1, [q]) :: [(q2, Pa.length, Pa), (va, V.length, V), (q1, Pa.length, Pa)]) (w7.alloc (.cells #[.pointer (some ⟨bt, 0, none⟩), .int .i64 i0, .int .i64 x0, .int .i64 0] 35))) := (HG3.out.next hb7).box _
      clear hb7 HG3 hb27 y0 y1 y2 y3 y4 y5 y6 y7
      dsimp only
      go_upto_region 29 with fail
      generalize w7.heap.size = b30 at HG4 ⊢
      generalize w7.alloc (.cells #[.pointer (some ⟨bt, 0, none⟩), .int .i64 i0, .int .i64 x0, .int .i64 0] 35) = W8 at HG4 ⊢
      go_upto_if 149 with fail
      go_cut [] from 147 to 149 (fun wx => wx = W8)
      case first =>
        have hne : ((Pa.length : Int) + 1 == 0) = false := by rw [beq_eq_false_iff_ne]; omega
        go_wp2
        go_meet
        rfl
      case rest =>
        obtain rfl := hcut
        rename_i K hK
        refine hK _ _ ?_
        have hb20 := HG4.out.boxes (b20, .cells #[.pointer (some ⟨bt, 0, none⟩), .int .i64 i0, .int .i64 x0, .int .i64 0] 35 (0, 0)) (by simp)
        have hb21 := HG4.out.boxes (b21, .cells #[.string nm, .bool nA, .pointer (some ⟨bt, 0, none⟩), .int .i64 i0, .int .i64 x0, .int .i64 0, (.slice q1 Pa.length c1), .int .i64 0] 48) (by simp)
        have hb24 := HG4.out.boxes (b24, .cells #[.pointer (some ⟨bt, 0, none⟩), .int .i64 i0, .int .i64 x0, .int .i64 0] 35) (by simp)
        exact l6_mid B0 g o c b20 b21 b24 bt i0 x0 ca c1 base s bd cn Pa nm nA okA va q1 ao _ T X ns R ts op i0 x0 (named X Pa nm false ts).length V w0 _ HG4.out.lw.path (by omega) HG4.out.lw.row HP.out.len HP.out.hT HP.out.hX HP.out.run HP.out.dep HP.out.txt HP.out.rl HP.out.meets HP.out.chain HP.out.o1 HP.out.o2 HP.out.o3 rfl HV.out.symm HA.out.2.1 HA.out.1
          (cell_at hb21 rfl) (cell_at hb21 rfl) (cell_at hb20 rfl) (cell_at hb20 rfl) (cell_at hb20 rfl) (cell_at hb20 rfl) (cell_at hb24 rfl) (cell_at hb24 rfl) (cell_at hb24 rfl) (cell_at hb24 rfl) ⟨HG4.out.srs (va, V.length, V) (by simp), HG4.out.srs (q1, Pa.length, Pa) (by simp), HG4.out.lw.below⟩
          (.pointer (some ⟨b27, 0, none⟩)) (.bool true) (.slice (some ⟨gv, 0, none⟩) 1 cv1) (.pointer (some ⟨b30, 0, none⟩)) (.slice q2 Pa.length c2) (.int .i64 ((k : Int) + 1)) (fun u2 u3 u4 u5 u6 u7 u8 u9 u10 u11 u12 u13 u14 u15 u16 u17 u18 u19 u35 u36 u37 u38 u39 u40 u41 u42 u43 u44 u45 u46 u47 u48 u49 u50 u51 u52 u53 u54 u55 u56 u57 u58 u59 u60 u61 u62 u63 u64 u65 u66 u67 u68 u69 u70 u71 u72 u73 u74 u75 u76 u77 u78 u79 u80 u81 u82 u83 u84 u85 u86 u87 u88 u89 u90 u91 u92 u93 u94 u95 u96 u97 u98 u99 u100 u101 u102 u103 u104 u105 u106 u107 u108 u109 u110 u111 u112 u113 u114 u115 u116 u117 u118 u119 u120 u121 u122 u123 u124 u125 u126 u127 u128 u129 u130 u131 u132 u133 u134 u135 u136 u137 u138 u139 u140 u141 u142 u143 u144 u145 u146 u147 u148 u149 u150 u151 u152 u153 u154 u155 u156 u157 u158 u159 u160 u161 u162 u163 u164 u165 u166 u167 u168 u169 u170 u171 u172 u173 u174 u175 u176 u177 u178 u179 u180 u181 u182 u183 u184 u185 u186 u187 u188 u189 u190 u191 u192 u193 u194 u195 u196 u197 u198 u199 u200 u201 u202 u203 u204 u205 u206 u207 u208 u209 u210 u211 u212 u213 u214 u215 u216 u217 u218 u219 u220 u221 u222 u223 u224 u225 u226 u227 u228 u229 u230 u231 u232 u233 u234 u235 u236 u237 u238 u239 u240 u241 u242 u243 u244 u245 u246 u247 u248 u249 u250 u251 u252 u253 u254 u255 u256 u257 u258 u259 u260 u261 u262 u263 u264 u265 u266 u267 u268 u269 u270 u271 u272 u273 u274 u275 u276 u277 u278 u279 u280 u281 u282 u283 u284 u285 u286 u287 u288 u289 u290 u291 u292 u293 u294 u295 u296 u297 u298 u299 u300 u301 u302 u303 u304 u305 u306 u307 u308 u309 u310 u311 u312 u313 u314 u315 u316 u317 u318 u319 u320 u321 u322 u323 u324 u325 u326 u327 u328 u329 u330 u331 u332 u333 u334 u335 u336 u337 u338 u339 u340 u341 u342 u343 u344 u345 u346 u347 u348 u349 u350 u351 u352 u353 u354 u355 u356 u357 u358 u359 u360 u361 u362 u363 u364 u365 u366 u367 u368 u369 u370 u371 u372 u373 u374 u375 u376 u377 u378 u379 u380 u381 u382 u383 u384 u385 u386 u387 u388 u389 u390 u391 u392 u393 u394 u395 u396 u397 w' hb' => by
            have HG5 := HG4.out.next hb'
            have hb20 := HG5.boxes (b20, .cells #[.pointer (some ⟨bt, 0, none⟩), .int .i64 i0, .int .i64 x0, .int .i64 0] 35 (0, 0)) (by simp)
            have hb21 := HG5.boxes (b21, .cells #[.string nm, .bool nA, .pointer (some ⟨bt, 0, none⟩), .int .i64 i0, .int .i64 x0, .int .i64 0, (.slice q1 Pa.length c1), .int .i64 0] 48) (by simp)
            have hb27 := HG5.boxes (b27, .cells #[.string nm, .bool false, .pointer (some ⟨bt, 0, none⟩), .int .i64 i0, .int .i64 x0, .int .i64 0, (.slice q2 Pa.length c2), .int .i64 ((k : Int) + 1)] 48) (by simp)
            have hb30 := HG5.boxes (b30, .cells #[.pointer (some ⟨bt, 0, none⟩), .int .i64 i0, .int .i64 x0, .int .i64 0] 35) (by simp)
            obtain ⟨gq, oq, hgq, hcq⟩ := (HG5.srs (some ⟨gv, 0, none⟩, 1, [q]) (by simp)).cell 0 q rfl
            simp at hgq
            obtain ⟨rfl, rfl⟩ := hgq
            obtain ⟨ga, oa, hga, hcv⟩ := (HG5.srs (va, V.length, V) (by simp)).cell k q HK.out.2.2.1
            simp only at hga
            have hpath := HG5.lw.path
            obtain ⟨o', c', hv', hle', _, hcp⟩ := hpath.ex
            simp at hv' hle'
            obtain ⟨rfl, rfl⟩ := hv'
            have hps : SR w' (some ⟨g, o, none⟩) Pa.length Pa := ⟨rfl, by omega, fun i u hu => ⟨g, o, rfl, hcp i u (by rw [List.getElem?_append_left (List.getElem?_eq_some_iff.1 hu).1]; exact hu)⟩⟩
            subst hga
            exact l6_hit B0 g o c b20 b21 b24 b27 b30 bt i0 x0 _ ca c1 cv1 c2 ga oa gv Pa V nm q okA q1 q2 k w0 w' HK.out.2.2.2 (by have := (List.getElem?_eq_some_iff.1 HK.out.2.2.1).1; omega) (by omega) (by have hle : V.length ≤ 4398046511104 := (HG5.srs (some ⟨ga, oa, none⟩, V.length, V) (by simp)).le; omega) (by omega) (cell_at hb27 rfl) (cell_at hb27 rfl) (by simpa using hcq) hcv (hcp Pa.length nm (by simp)) (cell_at hb20 rfl) (cell_at hb20 rfl) (cell_at hb20 rfl) (cell_at hb20 rfl) (cell_at hb30 rfl) (cell_at hb30 rfl) (cell_at hb30 rfl) (cell_at hb30 rfl) ⟨HG5.srs (q2, Pa.length, Pa) (by simp), hps, HG5.lw.below⟩ u2 u3 u4 u5 u6 u7 u8 u9 u10 u11 u12 u13 u14 u15 u16 u17 u18 u19 u35 u36 u37 u38 u39 u40 u41 u42 u43 u44 u45 u46 u47 u48 u49 u50 u51 u52 u53 u54 u55 u56 u57 u58 u59 u60 u61 u62 u63 u64 u65 u66 u67 u68 u69 u70 u71 u72 u73 u74 u75 u76 u77 u78 u79 u80 u81 u82 u83 u84 u85 u86 u87 u88 u89 u90 u91 u92 u93 u94 u95 u96 u97 u98 u99 u100 u101 u102 u103 u104 u105 u106 u107 u108 u109 u110 u111 u112 u113 u114 u115 u116 u117 u118 u119 u120 u121 u122 u123 u124 u125 u126 u127 u128 u129 u130 u131 u132 u133 u134 u135 u136 u137 u138 u139 u140 u141 u142 u143 u144 u145 u146 u147 u148 u149 u150 u151 u152 u153 u154 u155 u156 u157 u158 u159 u160 u161 u162 u163 u164 u165 u166 u167 u168 u169 u170 u171 u172 u173 u174 u175 u176 u177 u178 u179 u180 u181 u182 u183 u184 u185 u186 u187 u188 u189 u190 u191 u192 u193 u194 u195 u196 u197 u198 u199 u200 u201 u202 u203 u204 u205 u206 u207 u208 u209 u210 u211 u212 u213 u214 u215 u216 u217 u218 u219 u220 u221 u222 u223 u224 u225 u226 u227 u228 u229 u230 u231 u232 u233 u234 u235 u236 u237 u238 u239 u240 u241 u242 u243 u244 u245 u246 u247 u248 u249 u250 u251 u252 u253 u254 u255 u256 u257 u258 u259 u260 u261 u262 u263 u264 u265 u266 u267 u268 u269 u270 u271 u272 u273 u274 u275 u276 u277 u278 u279 u280 u281 u282 u283 u284 u285 u286 u287 u288 u289 u290 u291 u292 u293 u294 u295 u296 u297 u298 u299 u300 u301 u302 u303 u304 u305 u306 u307 u308 u309 u310 u311 u312 u313 u314 u315 u316 u317 u318 u319 u320 u321 u322 u323 u324 u325 u326 u327 u328 u329 u330 u331 u332 u333 u334 u335 u336 u337 u338 u339 u340 u341 u342 u343 u344 u345 u346 u347 u348 u349 u350 u351 u352 u353 u354 u355 u356 u357 u358 u359 u360 u361 u362 u363 u364 u365 u366 u367 u368 u369 u370 u371 u372 u373 u374 u375 u376 u377 u378 u379 u380 u381 u382 u383 u384 u385 u386 u387 u388 u389 u390 u391 u392 u393 u394 u395 u396 u397) _ _ _ _ _ _ _ _ _ _ _ _ _ _ _ _ _ _ _ _ _ _ _ _ _ _ _ _ _ _ _ _ _ _ _ _ _ _ _ _ _ _ _ _ _ _ _ _ _ _ _ _ _ _ _ _ _ _ _ _ _ _ _ _ _ _ _ _ _ _ _ _ _ _ _ _ _ _ _ _ _ _ _ _ _ _ _ _ _ _ _ _ _ _ _ _ _ _ _ _ _ _ _ _ _ _ _ _ _ _ _ _ _ _ _ _ _ _ _ _ _ _ _ _ _ _ _ _ _ _ _ _ _ _ _ _ _ _ _ _ _ _ _ _ _ _ _ _ _ _ _ _ _ _ _ _ _ _ _ _ _ _ _ _ _ _ _ _ _ _ _ _ _ _ _ _ _ _ _ _ _ _ _ _ _ _ _ _ _ _ _ _ _ _ _ _ _ _ _ _ _ _ _ _ _ _ _ _ _ _ _ _ _ _ _ _ _ _ _ _ _ _ _ _ _ _ _ _ _ _ _ _ _ _ _ _ _ _ _ _ _ _ _ _ _ _ _ _ _ _ _ _ _ _ _ _ _ _ _ _ _ _ _ _ _ _ _ _ _ _ _ _ _ _ _ _ _ _ _ _ _ _ _ _ _ _ _ _ _ _ _ _ _ _ _ _ _ _ _ _ _ _ _ _ _ _ _ _ _ _ _ _ _ _ _ _ _ _ _ _ _ _ _ _ _ _ _ _ _ _ _ _ _ _ _ _ _ _ _ _ _ _ _ _ _ _ _ _ _ _ _ _ _ _ _ _ _ _ _ _ _ _ _ _ _ _ _ _ _ _ _ _ _ _ _ _ _ _ _ _
    · exact absurd h0 hix
end Go.Proofs.Qxb6618677a
