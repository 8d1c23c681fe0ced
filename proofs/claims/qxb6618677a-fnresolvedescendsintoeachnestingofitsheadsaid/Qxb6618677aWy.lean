/-
  FnWalkYieldsTheFieldsItReaches: the walk.
-/
import Derived.Test.Qxb6618677aRe
import Derived.Test.Qxb6618677aWs1
import Derived.Test.Qxb6618677aWs1
namespace Go.Proofs.Qxb6618677a
open Go.RowKit

theorem nodesOf_depth : ∀ (L : List Stif.Tok) (op : List Nat) (k : Nat), ∀ d ∈ Stif.nodesOf op k L, d.depth ≤ op.length + L.length
  | [], _, _, d, h => by simp [Stif.nodesOf] at h
  | a :: L, op, k, d, h => by
    unfold Stif.nodesOf at h
    simp only [List.length_cons]
    split at h
    · have := nodesOf_depth L op.tail k d h
      simp at this; omega
    · split at h
      · rcases List.mem_cons.1 h with rfl | h
        · show op.length ≤ _; omega
        · have := nodesOf_depth L (k :: op) (k + 1) d h
          simp at this; omega
      · rcases List.mem_cons.1 h with rfl | h
        · show op.length ≤ _; omega
        · have := nodesOf_depth L op (k + 1) d h
          omega
theorem nodes_depth {T X : ByteArray} {L : List Stif.Tok} {st : Stif.St} (hch : Stif.chain T X.size 0 0 L T.size X.size) (hrun : Stif.run Stif.init L = some st) : ∀ d ∈ st.nodes, d.depth ≤ T.size := by
  intro d hd
  rw [Stif.nodes_of_run (Stif.chain_kind hch) hrun] at hd
  have h1 := nodesOf_depth L [] 0 d hd
  have h2 := (Stif.chain_le hch).1
  simp at h1; omega

/-- The tokens of a run, each with whether the walk comes to it. -/
def pairs (into : Nat → Stif.Tok → Bool) (ts : List Stif.Tok) : List ((Nat × Stif.Tok) × Bool) := (Stif.runN 0 ts).zip (Stif.reachN into 0 0 ts)
def ksel (into : Nat → Stif.Tok → Bool) (ts : List Stif.Tok) (i : Nat) : Nat := (((pairs into ts).take i).filter Stif.sel).length
theorem pairs_length (into : Nat → Stif.Tok → Bool) (ts : List Stif.Tok) : (pairs into ts).length = (Stif.runN 0 ts).length := by
  unfold pairs
  rw [List.length_zip, Stif.reachN_length]
  simp
theorem pairs_at {into : Nat → Stif.Tok → Bool} {ts : List Stif.Tok} {s i : Nat} {p : Nat × Stif.Tok} (hp : (Stif.runN 0 ts)[i]? = some p) : (pairs into ts)[i]? = some (p, rAof into ts s (s + i)) := by
  have hi := (List.getElem?_eq_some_iff.1 hp).1
  have hl := Stif.reachN_length into ts 0 0
  obtain ⟨r, hr⟩ : ∃ r, (Stif.reachN into 0 0 ts)[i]? = some r := ⟨_, List.getElem?_eq_getElem (by rw [hl]; exact hi)⟩
  have : rAof into ts s (s + i) = r := by unfold rAof; rw [show s + i - s = i by omega, hr]; rfl
  rw [this]
  unfold pairs
  rw [List.getElem?_zip_eq_some]
  exact ⟨hp, hr⟩
theorem ksel_le (into : Nat → Stif.Tok → Bool) (ts : List Stif.Tok) (i : Nat) : ksel into ts i ≤ i := by
  have h1 : ksel into ts i ≤ ((pairs into ts).take i).length := List.length_filter_le ..
  simp at h1; omega
theorem ksel_step {into : Nat → Stif.Tok → Bool} {ts : List Stif.Tok} {s i : Nat} {p : Nat × Stif.Tok} (hp : (Stif.runN 0 ts)[i]? = some p) : ksel into ts (i + 1) = ksel into ts i + (if rAof into ts s (s + i) && Stif.isField p then 1 else 0) :=
  Stif.filter_count Stif.sel _ i _ (pairs_at hp)
theorem ksel_at {into : Nat → Stif.Tok → Bool} {ts : List Stif.Tok} {s i : Nat} {p : Nat × Stif.Tok} (hk : ∀ t ∈ ts, t.kind ≤ 3) (hp : (Stif.runN 0 ts)[i]? = some p) (hs : (rAof into ts s (s + i) && Stif.isField p) = true) : (Stif.flds into 0 0 ts)[ksel into ts i]? = some p := by
  rw [Stif.flds_reach into ts 0 0 hk, List.getElem?_map]
  have := Stif.filter_at Stif.sel (pairs into ts) i _ (pairs_at (s := s) hp) hs
  unfold ksel
  rw [show (Stif.runN (0 + 0) ts).zip (Stif.reachN into 0 0 ts) = pairs into ts from rfl, this]
  rfl
theorem ksel_end {into : Nat → Stif.Tok → Bool} {ts : List Stif.Tok} (hk : ∀ t ∈ ts, t.kind ≤ 3) : ksel into ts (Stif.runN 0 ts).length = (Stif.flds into 0 0 ts).length := by
  rw [Stif.flds_reach into ts 0 0 hk, List.length_map, ksel, List.take_of_length_le (by rw [pairs_length]; exact Nat.le_refl _)]
  rfl

set_option maxRecDepth 100000 in
set_option maxHeartbeats 1000000 in
theorem bytes11 (T X av : ByteArray) (a2 a3 a4 a5 a7 : Int) (w : World) :
    Calls Try.prog 11 #[.string T, .string X, .int .i64 a2, .int .i64 a3, .int .i64 a4, .int .i64 a5, .string av, .int .i64 a7] w fun e w' => w' = w ∧ (e = .returned (.bool false) ∨ e = .returned (.bool true) ∧ T.size + X.size + av.size ≤ 1048576) := by
  go_enter Try.func11, Try.ntmps11
  go_wp2
  all_goals go_ret
  all_goals first | exact ⟨rfl, .inl rfl⟩ | exact ⟨rfl, .inr ⟨rfl, by omega⟩⟩

theorem rowCellE {w : World} {e : TypeId} {base g c : Nat} {F : List (Nat × Stif.Tok)} {f : Nat × Stif.Tok → Value} (h : w.ownsRow base e 1 (.slice (some ⟨g, 0, none⟩) F.length c) F.length (F.map f)) {i : Nat} {p : Nat × Stif.Tok} (hp : F[i]? = some p) : w.cell? ⟨g, i, none⟩ = some (f p) := by
  rw [h.cellAt i (by have := (List.getElem?_eq_some_iff.1 hp).1; omega)]
  simp [hp]

/-- What the comparing loop stands on. -/
structure YWorld (w : World) (ns : List Stif.Node) (F : List (Nat × Stif.Tok)) (base B s n g : Nat) (v d1 t1 x1 s1 f1 : Value) (rA : Nat → Bool) : Prop where
  nod : w.ownsRow base 44 8 v ns.length (rowOf ns)
  yld : Yield w B d1 t1 x1 s1 f1 F
  row : w.rowIs g 4 ns.length (rowF s n rA)
theorem YWorld.below {w w' : World} {ns : List Stif.Node} {F : List (Nat × Stif.Tok)} {base B s n g : Nat} {v d1 t1 x1 s1 f1 : Value} {rA : Nat → Bool} (h : YWorld w ns F base B s n g v d1 t1 x1 s1 f1 rA) (hb : Below w.heap.size w w') : YWorld w' ns F base B s n g v d1 t1 x1 s1 f1 rA :=
  ⟨ownsRow_below h.nod hb (Nat.le_refl _), h.yld.below hb (Nat.le_refl _), h.row.of_block (hb.block g h.row.lt)⟩

set_option maxRecDepth 100000 in
set_option maxHeartbeats 4000000 in
theorem wy_end (ns R : List Stif.Node) (ts : List Stif.Tok) (into : Nat → Stif.Tok → Bool) (F3 : List (Nat × Stif.Tok)) (lim : Int) (base B B0 s bd g : Nat) (w0 w : World) (ao a1 a2 a3 a4 a5 : Option Addr) (c c1 c2 c3 c4 c5 : Nat)
    (HB : Hid (Below B0 w0 w)) (hB0 : B0 ≤ w.heap.size) (hnl : ns.length ≤ 1048576) (hsl : s + R.length ≤ ns.length) (hbd : ∀ d ∈ ns, d.depth ≤ 1048576) (hk3 : ∀ t ∈ ts, t.kind ≤ 3)
    (HST : Hid (RunIs ns ((s : Int) - 1) s bd R ∧ R.length = (Stif.runN 0 ts).length ∧ (∀ (i : Nat) nd p, R[i]? = some nd → (Stif.runN 0 ts)[i]? = some p → Stif.Meets bd nd p)))
    (HF3 : Hid (F3 = (Stif.flds into 0 0 ts).take (max lim 1).toNat))
    (HY : Hid (YWorld w ns F3 base B s R.length g (.slice ao ns.length c) (.slice a1 F3.length c1) (.slice a2 F3.length c2) (.slice a3 F3.length c3) (.slice a4 F3.length c4) (.slice a5 F3.length c5) (rAof into ts s)))
    (u0 u1 u2 u3 u5 u6 u7 u8 u9 u10 u11 u12 u13 u14 u15 u16 u18 u20 u30 u31 u32 u33 u34 u35 u36 u37 u38 u39 u40 u41 u42 u43 u44 u45 u46 u47 u48 u49 u50 u51 u52 u53 u54 u55 u56 u57 u58 u59 u60 u61 u62 u63 u64 u65 u66 u67 u68 u69 u70 u71 u72 u73 u74 u75 u76 u77 u78 u79 u80 u81 u82 u83 u84 u85 u86 u87 u88 u89 u90 u91 u92 u93 u94 u95 u96 u97 u98 u99 u100 u101 u102 u103 u104 u105 u106 u107 u108 u109 u110 u111 u112 u113 u114 u115 u116 u117 u118 u119 u120 u121 u122 u123 u124 u125 u126 u127 u128 u129 u130 u131 u132 u133 u134 u135 u136 u137 u138 u139 u140 u141 u142 u143 u144 u145 u146 u147 u148 u149 u150 u151 u152 u153 u154 u155 u156 u157 u158 u159 u160 u161 u162 u163 u164 u165 u166 u167 u168 u169 u170 u171 u172 u173 u174 u175 u176 u177 u178 u179 u180 u181 u182 u183 u184 u185 u186 u187 u188 u189 u190 u191 u192 u193 u194 u195 u196 u197 u198 u199 u200 u201 u202 u203 u204 u205 u206 u207 u208 u209 u210 u211 u212 u213 u214 u215 u216 u217 u218 u219 u220 u221 u222 u223 u224 u225 u226 u227 u228 u229 u230 u231 u232 u233 u234 u235 u236 u237 u238 : Value) :
    Code.wp Try.prog (ctail 15 (Try.f4.body.getD .skip)) (bodyPost Try.prog Try.f4 fun e w' => e = .returned (.bool true) ∧ Below B0 w0 w') { tmps := #[u0, u1, u2, u3, .int .i64 0, u5, u6, u7, u8, u9, u10, u11, u12, u13, u14, u15, u16, .slice ao ns.length c, u18, .int .i64 ((s : Int) - 1), u20, .slice a1 F3.length c1, .slice a2 F3.length c2, .slice a3 F3.length c3, .slice a4 F3.length c4, .slice a5 F3.length c5, .slice (some ⟨g, 0, none⟩) ns.length ns.length, .int .i64 ((s : Int) + (R.length : Int)), .int .i64 (bd : Int), .int .i64 (max lim 1), u30, u31, u32, u33, u34, u35, u36, u37, u38, u39, u40, u41, u42, u43, u44, u45, u46, u47, u48, u49, u50, u51, u52, u53, u54, u55, u56, u57, u58, u59, u60, u61, u62, u63, u64, u65, u66, u67, u68, u69, u70, u71, u72, u73, u74, u75, u76, u77, u78, u79, u80, u81, u82, u83, u84, u85, u86, u87, u88, u89, u90, u91, u92, u93, u94, u95, u96, u97, u98, u99, u100, u101, u102, u103, u104, u105, u106, u107, u108, u109, u110, u111, u112, u113, u114, u115, u116, u117, u118, u119, u120, u121, u122, u123, u124, u125, u126, u127, u128, u129, u130, u131, u132, u133, u134, u135, u136, u137, u138, u139, u140, u141, u142, u143, u144, u145, u146, u147, u148, u149, u150, u151, u152, u153, u154, u155, u156, u157, u158, u159, u160, u161, u162, u163, u164, u165, u166, u167, u168, u169, u170, u171, u172, u173, u174, u175, u176, u177, u178, u179, u180, u181, u182, u183, u184, u185, u186, u187, u188, u189, u190, u191, u192, u193, u194, u195, u196, u197, u198, u199, u200, u201, u202, u203, u204, u205, u206, u207, u208, u209, u210, u211, u212, u213, u214, u215, u216, u217, u218, u219, u220, u221, u222, u223, u224, u225, u226, u227, u228, u229, u230, u231, u232, u233, u234, u235, u236, u237, u238], defers := [] } w := by
  conv in ctail _ _ => whnf
  have HK3 : Hid ((∀ t ∈ ts, t.kind ≤ 3) ∧ ∀ d ∈ ns, d.depth ≤ 1048576) := ⟨hk3, hbd⟩
  clear hk3 hbd
  have hF3l : F3.length = min (max lim 1).toNat (Stif.flds into 0 0 ts).length := by rw [HF3.out, List.length_take]
  have HFL : Hid (F3.length = min (max lim 1).toNat (Stif.flds into 0 0 ts).length) := hF3l
  clear hF3l
  go_wp2
  go_loopg [30, 31] R.length (fun gk kv iv wr => ∃ i kk : Nat, gk = R.length - i ∧ i ≤ R.length ∧ kv = .int .i64 (kk : Int) ∧ iv = .int .i64 ((s + i : Nat) : Int) ∧ Hid (kk = ksel into ts i ∧ (kk : Int) ≤ max lim 1) ∧ Hid (Below w.heap.size w wr))
  case atStart => exact ⟨0, 0, by omega, by omega, rfl, by go_num, ⟨by simp [ksel], by omega⟩, Below.refl _ _⟩
  case round =>
    obtain ⟨i, kk, hgk, hi, rfl, rfl, HKK, HW⟩ := hrel
    have hkl := ksel_le into ts i
    have hkk1 : kk ≤ i := by rw [HKK.out.1]; exact hkl
    clear hkl
    by_cases hlt : i < R.length
    · obtain ⟨nd, hnd⟩ : ∃ d, R[i]? = some d := ⟨_, List.getElem?_eq_getElem hlt⟩
      obtain ⟨p, hp⟩ : ∃ p, (Stif.runN 0 ts)[i]? = some p := ⟨_, List.getElem?_eq_getElem (by rw [← HST.out.2.1]; exact hlt)⟩
      have hyw := HY.out.below HW.out
      obtain ⟨g0, rfl, hnc, hcm, hbg, hgl⟩ := row_some hyw.nod (by omega)
      have hnn := HST.out.1.get hnd
      obtain ⟨c0', c1', c2', c3', c4', c5', c6', c7'⟩ := nodeAt hyw.nod hnn
      have hmm := HST.out.2.2 i nd p hnd hp
      have hdep := HK3.out.2 nd (List.mem_of_getElem? hnn)
      have HMM : Hid (Stif.Meets bd nd p) := hmm
      have HP : Hid ((Stif.runN 0 ts)[i]? = some p) := hp
      have hgr : g < wr.heap.size := hyw.row.lt
      have q1 : wr.cell? ⟨g, s + i, none⟩ = some (.bool (rAof into ts s (s + i))) := by rw [hyw.row.cell (i := s + i) (by omega), rowF_in (by omega) (by omega)]
      have HYW : Hid (YWorld wr ns F3 base B s R.length g (.slice (some ⟨g0, 0, none⟩) ns.length c) (.slice a1 F3.length c1) (.slice a2 F3.length c2) (.slice a3 F3.length c3) (.slice a4 F3.length c4) (.slice a5 F3.length c5) (rAof into ts s)) := hyw
      clear hnd hp hnn hmm hyw
      have hstep := ksel_step (into := into) (s := s) HP.out
      have HS : Hid (ksel into ts (i + 1) = ksel into ts i + (if rAof into ts s (s + i) && Stif.isField p then 1 else 0)) := hstep
      have hfi : Stif.isField p = !(nd.kind == 1) := by rw [HMM.out.kind]; rfl
      have HFI : Hid (Stif.isField p = !(nd.kind == 1)) := hfi
      clear hstep hfi
      by_cases hk1 : nd.kind = 1
      · have hkb : ((nd.kind : Int) == 1) = true := by simp [hk1]
        have H1 : Hid (nd.kind = 1) := hk1
        clear hk1
        go_wp2
        go_roundg (R.length - (i + 1))
        case measure => omega
        case rel => exact ⟨i + 1, kk, rfl, by omega, rfl, by go_num, ⟨by rw [HS.out, HFI.out, H1.out, HKK.out.1]; simp, HKK.out.2⟩, HW.out.alloc HW.out.size _⟩
      · have hkb : ((nd.kind : Int) == 1) = false := by simp; omega
        have H1 : Hid (nd.kind ≠ 1) := hk1
        clear hk1
        cases hr : rAof into ts s (s + i)
        · have H2 : Hid (rAof into ts s (s + i) = false) := hr
          rw [hr] at q1
          clear hr
          go_wp2
          go_roundg (R.length - (i + 1))
          case measure => omega
          case rel => exact ⟨i + 1, kk, rfl, by omega, rfl, by go_num, ⟨by rw [HS.out, H2.out, HKK.out.1]; simp, HKK.out.2⟩, HW.out.alloc HW.out.size _⟩
        · have H2 : Hid (rAof into ts s (s + i) = true) := hr
          rw [hr] at q1
          clear hr
          have hse : (rAof into ts s (s + i) && Stif.isField p) = true := by rw [H2.out, HFI.out]; have := H1.out; simp [this]
          have hfk := ksel_at HK3.out.1 HP.out hse
          rw [← HKK.out.1] at hfk
          have HSE : Hid ((rAof into ts s (s + i) && Stif.isField p) = true) := hse
          have HFK : Hid ((Stif.flds into 0 0 ts)[kk]? = some p) := hfk
          have hkF := (List.getElem?_eq_some_iff.1 hfk).1
          clear hse hfk
          by_cases hkm : (kk : Int) = max lim 1
          · have hmb : ((kk : Int) == max lim 1) = true := by rw [beq_iff_eq]; exact hkm
            have hlen : F3.length = kk := by rw [HFL.out]; omega
            have HLN : Hid (F3.length = kk) := hlen
            have hq : ((F3.length : Int) == (kk : Int)) = true := by rw [beq_iff_eq]; omega
            clear hkm hlen
            go_wp2
            go_ret
            exact ⟨rfl, HB.out.trans ((HW.out.alloc HW.out.size _).mono hB0)⟩
          · have hmb : ((kk : Int) == max lim 1) = false := by rw [beq_eq_false_iff_ne]; exact hkm
            have hkm' : (kk : Int) < max lim 1 := by have := HKK.out.2; omega
            have hlen : kk < F3.length := by rw [HFL.out]; omega
            have hf3 : F3[kk]? = some p := by rw [HF3.out, List.getElem?_take, if_pos (by omega)]; exact HFK.out
            have HY1 := HYW.out.yld
            obtain ⟨g1, rfl, hnc1, hcm1, _, hgl1⟩ := row_some HY1.dep (by omega)
            obtain ⟨g2, rfl, hnc2, hcm2, _, hgl2⟩ := row_some HY1.tok (by omega)
            obtain ⟨g3, rfl, hnc3, hcm3, _, hgl3⟩ := row_some HY1.txt (by omega)
            obtain ⟨g4, rfl, hnc4, hcm4, _, hgl4⟩ := row_some HY1.skip (by omega)
            obtain ⟨g5, rfl, hnc5, hcm5, _, hgl5⟩ := row_some HY1.same (by omega)
            have e1 := rowCellE HY1.dep hf3
            have e2 := rowCellE HY1.tok hf3
            have e3 := rowCellE HY1.txt hf3
            have e4 := rowCellE HY1.skip hf3
            have e5 := rowCellE HY1.same hf3
            have z1 : ((p.1 : Int) != (nd.depth : Int) - (bd : Int)) = false := by have := HMM.out.depth; simp; omega
            have z2 : ((p.2.tok : Int) != (nd.tok : Int)) = false := by have := HMM.out.tok; simp; omega
            have z3 : ((p.2.txt : Int) != (nd.txt : Int)) = false := by have := HMM.out.txt; simp; omega
            have z4 : ((0 : Int) != 0) = false := rfl
            have hkm2 : (kk : Int) + 1 ≤ max lim 1 := by omega
            have HKM : Hid ((kk : Int) + 1 ≤ max lim 1) := hkm2
            have hbdd : (bd : Int) ≤ nd.depth := by have := HMM.out.depth; omega
            clear hkm hkm' hf3 HY1 hkm2
            go_wp2
            go_quiet (fail)
            go_wp2
            go_roundg (R.length - (i + 1))
            case measure => omega
            case rel => exact ⟨i + 1, kk + 1, rfl, by omega, by go_num, by go_num, ⟨by rw [HS.out, HSE.out, HKK.out.1]; simp, by have := HKM.out; omega⟩, below_drewN (HW.out.alloc HW.out.size _) _⟩
    obtain rfl : i = R.length := by omega
    have hke := ksel_end (into := into) HK3.out.1
    rw [← HST.out.2.1, ← HKK.out.1] at hke
    have hlen : F3.length = kk := by rw [HFL.out]; have := HKK.out.2; omega
    have hq : ((F3.length : Int) == (kk : Int)) = true := by rw [beq_iff_eq]; omega
    clear hgk hi hlt hke hlen
    go_wp2
    go_ret
    exact ⟨rfl, HB.out.trans (HW.out.mono hB0)⟩

set_option maxRecDepth 100000 in
set_option maxHeartbeats 4000000 in
theorem walkYields_any (T X : ByteArray) (tok txt skip md : Int) (av : ByteArray) (lim : Int) (w : World) :
    Calls Try.prog 4 #[.string T, .string X, .int .i64 tok, .int .i64 txt, .int .i64 skip, .int .i64 md, .string av, .int .i64 lim] w fun e w' => e = .returned (.bool true) ∧ Below w.heap.size w w' := by
  go_enter Try.func4, Try.ntmps4
  go_wp2_with (go_at_call 11; refine (bytes11 _ _ _ _ _ _ _ _ _).mono ?_)
  rintro e w ⟨rfl, rfl | ⟨rfl, hsz⟩⟩
  · go_wp2
    go_ret
    exact ⟨rfl, Below.refl _ _⟩
  have hT : T.size ≤ 1048576 := by omega
  have hX : X.size ≤ 1048576 := by omega
  have hV : av.size ≤ 1048576 := by omega
  go_wp2_with (go_at_call 12; refine (parse_any _ _ _ hT hX).mono ?_)
  rintro e w1 ⟨hb1, rfl | ⟨v, L, st, rfl, hch, hrun, hop, hrow⟩⟩
  · go_wp2
    go_ret
    exact ⟨rfl, hb1⟩
  obtain ⟨hnl, hns⟩ := nodes_facts hch hrun
  have hnd := nodes_depth hch hrun
  have HNS : Hid ((∀ d ∈ st.nodes, d.txt + d.n ≤ X.size) ∧ (∀ d ∈ st.nodes, d.depth ≤ T.size)) := ⟨hns, hnd⟩
  have HCH : Hid (Stif.chain T X.size 0 0 L T.size X.size ∧ Stif.run Stif.init L = some st ∧ st.op = []) := ⟨hch, hrun, hop⟩
  clear hch hrun hop hns hnd
  go_wp2_with (go_at_call 13; refine (start_any v st.nodes _ _ _ _ _ hrow (by omega) (fun d hd => by have := HNS.out.1 d hd; omega)).mono ?_)
  rintro e w2 ⟨hb2, ⟨b, rfl⟩ | ⟨b, rfl, rfl, hst⟩⟩
  · go_wp2
    go_ret
    exact ⟨rfl, hb1.trans (hb2.mono hb1.size)⟩
  obtain ⟨ts, i0, x0, s, bd, R, op, rfl, rfl, hcht, hbal, hR, hRl, hRm, hop1, hop2, hop3⟩ := run_front2 HCH.out.1 HCH.out.2.1 HCH.out.2.2 hst
  have hre := reach_of (intoOf X av md) hR hRl hop1 hop2 hop3
  obtain ⟨hsl, rfl⟩ := hR.le
  have HST : Hid (RunIs st.nodes ((s : Int) - 1) s bd R ∧ R.length = (Stif.runN 0 ts).length ∧ (∀ (i : Nat) nd p, R[i]? = some nd → (Stif.runN 0 ts)[i]? = some p → Stif.Meets bd nd p)) := ⟨hR, hRl, hRm⟩
  have HRE : Hid (Reach R (Stif.runN 0 ts) ((s : Int) - 1) s (intoOf X av md) (rAof (intoOf X av md) ts s) (eAof (intoOf X av md) ts s)) := hre
  have HT : Hid (Stif.chain T X.size i0 x0 ts T.size X.size ∧ Stif.bal bd ts) := ⟨hcht, hbal⟩
  clear hR hRl hRm hcht hbal hst hre hop1 hop2 hop3 op
  go_wp2_with (first | (go_at_call 14; refine (newFields_any _ _ _ _ _ _).mono ?_; rintro e w3 ⟨rfl, rfl⟩))
  have hFs := (flds_allF (av := av) (md := md) HT.out.1).length_le
  have hAl := allF_len HT.out.1
  generalize hw3 : World.alloc _ (Obj.cells #[Value.pointer (some ⟨w2.heap.size + 1, 0, none⟩), Value.int IntKind.i64 (i0 : Int), Value.int IntKind.i64 (x0 : Int), Value.int IntKind.i64 0] 35) = w3
  obtain ⟨hb3, htr3, hbx3⟩ := laid rfl w3 hw3.symm
  clear hw3
  refine (zzwalk_yield _ T X _ _ _ ts i0 x0 bd w3 hT hX htr3 HT.out.1 HT.out.2).mono ?_
  rintro e w4 ⟨hb4, d1, t1, x1, s1, f1, rfl, hY1⟩
  have hrow4 := ownsRow_below (ownsRow_below (ownsRow_below hrow hb2 (Nat.le_refl _)) hb3 (Nat.le_refl _)) hb4 (Nat.le_refl _)
  go_wp2_with (first | (go_at_call 16; refine (reach_any v st.nodes R (Stif.runN 0 ts) _ _ _ s bd X av md _ _ _ hrow4 (by omega) hX HST.out.1 (fun d hd => by have := HNS.out.2 d hd; omega) HNS.out.1 HST.out.2.1 HST.out.2.2 HRE.out).mono ?_))
  rintro e w5 ⟨hb5, g, rfl, hgb, hgrow⟩
  have hrow5 := ownsRow_below hrow4 hb5 (Nat.le_refl _)
  go_wp2_with (first | (go_at_call 17; refine (runEnd_run v st.nodes R _ s bd _ _ hrow5 (by omega) HST.out.1).mono ?_; rintro e w6 ⟨rfl, hb6⟩))
  have hrow6 := ownsRow_below hrow5 hb6 (Nat.le_refl _)
  refine (baseDepth_run v st.nodes R _ s bd _ _ hrow6 (by omega) HST.out.1 (fun d hd => by have := HNS.out.2 d hd; omega)).mono ?_
  rintro e w7 ⟨rfl, rfl⟩
  have s1' := hb1.size
  have s2' := hb2.size
  have s3' := hb3.size
  have s4' := hb4.size
  have s5' := hb5.size
  have HB : Hid (Below w.heap.size w w7) := ((hb1.trans (hb2.mono hb1.size)).trans (hb3.mono (by omega))).trans (((hb4.mono (by omega)).trans (hb5.mono (by omega))).trans (hb6.mono (by omega)))
  have HY : Hid (YWorld w7 st.nodes ((Stif.flds (intoOf X av md) 0 0 ts).take (max lim 1).toNat) w.heap.size w3.heap.size s R.length g v d1 t1 x1 s1 f1 (rAof (intoOf X av md) ts s)) := ⟨hrow6, (hY1.below hb5 (Nat.le_refl _)).below hb6 (Nat.le_refl _), hgrow.of_block (hb6.block g hgrow.lt)⟩
  obtain ⟨ao, c, rfl⟩ := row_slice HY.out.nod
  obtain ⟨a1, c1, rfl⟩ := row_slice HY.out.yld.dep
  obtain ⟨a2, c2, rfl⟩ := row_slice HY.out.yld.tok
  obtain ⟨a3, c3, rfl⟩ := row_slice HY.out.yld.txt
  obtain ⟨a4, c4, rfl⟩ := row_slice HY.out.yld.skip
  obtain ⟨a5, c5, rfl⟩ := row_slice HY.out.yld.same
  generalize hB3 : w3.heap.size = B3 at HY
  generalize hF3 : (Stif.flds (intoOf X av md) 0 0 ts).take (max lim 1).toNat = F3 at HY ⊢
  have HF3 : Hid (F3 = (Stif.flds (intoOf X av md) 0 0 ts).take (max lim 1).toNat) := hF3.symm
  clear hF3 hB3 hrow hrow4 hrow5 hrow6 hb1 hb2 hb3 hb4 hb5 hb6 s1' s2' s3' s4' s5' htr3 hbx3 hY1 hgrow hgb HCH HRE hFs hAl
  go_upto_if 114 with fail
  go_cut [29] from 113 to 114 (fun lv wx => wx = w7 ∧ lv = .int .i64 (max lim 1))
  case first =>
    by_cases hl : lim < 1
    · have hlb : decide (lim < 1) = true := by simp [hl]
      go_wp2
      go_meet
      exact ⟨rfl, by rw [Int.max_eq_right (by omega)]⟩
    · have hlb : decide (lim < 1) = false := by simp; omega
      go_wp2
      go_meet
      exact ⟨rfl, by rw [Int.max_eq_left (by omega)]⟩
  case rest =>
    obtain ⟨rfl, rfl⟩ := hcut
    rename_i K hK
    refine hK _ _ ?_
    exact wy_end st.nodes R ts (intoOf X av md) F3 lim w.heap.size B3 w.heap.size s bd g w _ ao a1 a2 a3 a4 a5 c c1 c2 c3 c4 c5 HB HB.out.size (by omega) hsl (fun d hd => by have := HNS.out.2 d hd; omega) (Stif.chain_kind HT.out.1) HST HF3 HY _ _ _ _ _ _ _ _ _ _ _ _ _ _ _ _ _ _ _ _ _ _ _ _ _ _ _ _ _ _ _ _ _ _ _ _ _ _ _ _ _ _ _ _ _ _ _ _ _ _ _ _ _ _ _ _ _ _ _ _ _ _ _ _ _ _ _ _ _ _ _ _ _ _ _ _ _ _ _ _ _ _ _ _ _ _ _ _ _ _ _ _ _ _ _ _ _ _ _ _ _ _ _ _ _ _ _ _ _ _ _ _ _ _ _ _ _ _ _ _ _ _ _ _ _ _ _ _ _ _ _ _ _ _ _ _ _ _ _ _ _ _ _ _ _ _ _ _ _ _ _ _ _ _ _ _ _ _ _ _ _ _ _ _ _ _ _ _ _ _ _ _ _ _ _ _ _ _ _ _ _ _ _ _ _ _ _ _ _ _ _ _ _ _ _ _ _ _ _ _ _ _ _ _ _ _ _ _ _ _ _ _ _ _ _ _ _ _ _ _ _ _ _ _ _ _ _

end Go.Proofs.Qxb6618677a
