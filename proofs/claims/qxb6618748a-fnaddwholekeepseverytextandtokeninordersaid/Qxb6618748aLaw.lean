/-
  The law: whatever the input, true.
-/
import Derived.Test.Qxb6618748aKp
import Derived.Deep.CutBlock
import Derived.Deep.DeepCutAuto
namespace Go.Proofs.Qxb6618748a
open Go.RowKit

/-- A later world: what was below stands; the token's box lies at g. -/
structure St (w wr : World) (o : Obj) : Prop where
  box : wr.heap[w.heap.size]? = some o
  below : Below w.heap.size w wr
  lt : w.heap.size < wr.heap.size
theorem St.start (w : World) (o : Obj) : St w (w.alloc o) o := ⟨Deep.blk_alloc_new _ _, (Below.refl _ _).alloc (Nat.le_refl _) _, by simp⟩
theorem St.next {w wr w' : World} {o : Obj} (h : St w wr o) (hb : Below wr.heap.size wr w') : St w w' o :=
  ⟨(hb.block _ h.lt).trans h.box, h.below.trans (hb.mono (Nat.le_of_lt h.lt)), Nat.lt_of_lt_of_le h.lt hb.size⟩

theorem v7 {V X w7 : World} (h : Below V.heap.size V X) (k : Below X.heap.size X w7) : Below V.heap.size V w7 := h.trans (k.mono h.size)
theorem blk7 {V w7 : World} {o : Obj} (b : Below (V.alloc o).drew.heap.size (V.alloc o).drew w7) : w7.heap[V.heap.size]? = some o := (b.block _ (by simp [World.drew])).trans (Deep.blk_alloc_new _ _)
/-- Behind the alloc of 'once'. -/
structure Once (V wc : World) (g9 : Nat) (o : Obj) : Prop where
  below : Below V.heap.size V wc
  box : wc.heap[g9]? = some o
  ge : V.heap.size ≤ g9
theorem once_alloc {V w9 : World} {o : Obj} (hB : Below V.heap.size V w9) : Once V (w9.alloc o) w9.heap.size o := ⟨hB.alloc hB.size _, Deep.blk_alloc_new _ _, hB.size⟩
theorem once_set {V w9 : World} {x0 x1 x2 x3 v0 v1 v2 v3 : Value} {t : TypeId} (hB : Below V.heap.size V w9) (q : w9.heap[V.heap.size]? = some (.cells #[x0, x1, x2, x3] t)) :
    Once V ((((w9.setCell ⟨V.heap.size, 0, none⟩ v0).setCell ⟨V.heap.size, 1, none⟩ v1).setCell ⟨V.heap.size, 2, none⟩ v2).setCell ⟨V.heap.size, 3, none⟩ v3) V.heap.size (.cells #[v0, v1, v2, v3] t) := by
  refine ⟨(((hB.setCell (Nat.le_refl _) _).setCell (Nat.le_refl _) _).setCell (Nat.le_refl _) _).setCell (Nat.le_refl _) _, ?_, Nat.le_refl _⟩
  simp [World.setCell, Array.getElem?_modify, q]
theorem keeps_int (s : ByteArray) (f : Nat) (ab : Option Addr) (lb cb : Nat) (ag : Option Addr) (m cg : Nat) (ac : Option Addr) (lc cc : Nat) (C : Nat → Cd) (mi : Int) (w : World) (hi : IsInts w ab lb) (hg : IsCands w ag m C) (hc : IsCands w ac lc C)
    (hm : m ≤ lc) (hl : lc ≤ 1048576) (hn : ag.isNone = ac.isNone) (hmi : mi = m) :
    Calls Try.prog 11 #[.agg #[.string s, .float .f64 f, .slice ab lb cb, .slice ag m cg], .agg #[.string s, .float .f64 f, .slice ab lb cb, .slice ac lc cc], .int .i64 mi] w fun e w' => e = .returned (.bool true) ∧ Below w.heap.size w w' := by
  subst hmi
  exact keeps_any s f ab lb cb ag m cg ac lc cc C w hi hg hc hm hl hn

set_option maxRecDepth 100000 in
set_option maxHeartbeats 1000000 in
theorem law_any (s : ByteArray) (f : Nat) (ab : Option Addr) (lb cb : Nat) (ac : Option Addr) (lc cc : Nat) (C : Nat → Cd) (p q : Int) (w : World) (hi : IsInts w ab lb) (hc : IsCands w ac lc C) (hs : s.size ≤ maxLen) :
    Calls Try.prog 3 #[.agg #[.string s, .float .f64 f, .slice ab lb cb, .slice ac lc cc], .int .i64 p, .int .i64 q] w fun e w' => e = .returned (.bool true) ∧ Below w.heap.size w w' := by
  have H : Hid (IsInts w ab lb ∧ IsCands w ac lc C ∧ s.size ≤ maxLen ∧ lb ≤ maxLen) := ⟨hi, hc, hs, hi.le⟩
  clear hi hc hs
  go_enter Try.func3, Try.ntmps3
  go_wp2_with fail
  refine (zzBytes_any s f ab lb cb ac lc cc C p q _ (H.out.2.1.below ((Below.refl _ _).alloc (Nat.le_refl _) _)) H.out.2.2.1 H.out.2.2.2).mono ?_
  rintro e w1 ⟨b, rfl, hb1, hb2⟩
  have HS : Hid (St w w1 (.cells #[.string s, .float .f64 f, .slice ab lb cb, .slice ac lc cc] 26)) := (St.start w _).next hb2
  clear hb2
  cases b with
  | false =>
    clear hb1
    go_wp2
    go_ret
    exact ⟨rfl, HS.out.below⟩
  | true =>
  have hl : lc ≤ 1048576 := hb1 rfl
  clear hb1
  have c0 := cell_at (i := 0) HS.out.box rfl
  have c1 := cell_at (i := 1) HS.out.box rfl
  have c2 := cell_at (i := 2) HS.out.box rfl
  have c3 := cell_at (i := 3) HS.out.box rfl
  simp only [List.getElem_toArray, List.getElem_cons_zero, List.getElem_cons_succ] at c0 c1 c2 c3
  by_cases h1 : (s.size : Int) ≤ 262144
  case neg =>
    go_wp2
    go_ret
    exact ⟨rfl, HS.out.below⟩
  by_cases h2 : (lb : Int) ≤ 32768
  case neg =>
    go_wp2
    go_ret
    exact ⟨rfl, HS.out.below⟩
  go_wp2_with fail
  refine (candsSize_any ac lc cc C _ _ (H.out.2.1.below HS.out.below)).mono ?_
  rintro e w2 ⟨⟨r, rfl⟩, n2, rfl⟩
  by_cases h3 : r ≤ 524288
  case neg =>
    go_wp2
    go_ret
    exact ⟨rfl, below_drewN HS.out.below _⟩
  by_cases h4 : 0 ≤ p
  case neg =>
    go_wp2
    go_ret
    exact ⟨rfl, below_drewN HS.out.below _⟩
  by_cases h5 : 0 ≤ q
  case neg =>
    go_wp2
    go_ret
    exact ⟨rfl, below_drewN HS.out.below _⟩
  go_wp2_with fail
  refine (toWireTok_any s f ab lb cb ac lc cc C _ ((H.out.2.1.below HS.out.below).below (below_drewN (Below.refl _ _) _)) hl).mono ?_
  rintro e w3 ⟨a3, c3', rfl, n3, l3, m3, i3, b3⟩
  have HS3 : Hid (St w w3 (.cells #[.string s, .float .f64 f, .slice ab lb cb, .slice ac lc cc] 26) ∧ IsCands w3 a3 lc C ∧ a3.isNone = ac.isNone ∧ lc ≤ c3' ∧ c3' ≤ 1048576) := ⟨(HS.out.next (below_drewN (Below.refl _ _) _)).next b3, i3, n3, l3, m3⟩
  clear n3 l3 m3 i3 b3 c0 c1 c2 c3 HS
  go_wp2_with fail
  have b4 : Below w3.heap.size w3 (w3.alloc (.cells #[.string s, .float .f64 f, .slice ab lb cb, .slice a3 lc c3'] 31)) := (Below.refl _ _).alloc (Nat.le_refl _) _
  refine (withCands_any s f ab lb cb a3 lc c3' C p h4 _ (HS3.out.2.1.below b4) HS3.out.2.2.2.1).mono ?_
  rintro e w5 ⟨rfl, b5⟩
  have HS5 : Hid (Below w3.heap.size w3 w5 ∧ w5.heap[w3.heap.size]? = some (.cells #[.string s, .float .f64 f, .slice ab lb cb, .slice a3 lc c3'] 31) ∧ w3.heap.size < w5.heap.size) := ⟨v7 b4 b5, (b5.block _ (by simp)).trans (Deep.blk_alloc_new _ _), by have := b5.size; simp at this; omega⟩
  clear b4 b5
  have e5 : ((min p (lc : Int)).toNat : Int) = min p lc := by omega
  generalize hk5 : (min p (lc : Int)).toNat = k5 at e5 ⊢
  have HK5 : Hid ((k5 : Int) = min p lc) := e5
  clear hk5 e5
  go_wp2_with fail
  refine (withCands_any s f ab lb cb a3 k5 c3' C q h5 _ ((HS3.out.2.1.take (by have := HK5.out; omega)).below HS5.out.1) (by have := HK5.out; have := HS3.out.2.2.2.1; omega)).mono ?_
  rintro e w6 ⟨rfl, b6⟩
  have e6 : ((min q (k5 : Int)).toNat : Int) = min q (min p lc) := by have := HK5.out; omega
  generalize hk6 : (min q (k5 : Int)).toNat = k6 at e6 ⊢
  have HK6 : Hid ((k6 : Int) = min q (min p lc)) := e6
  clear hk6 e6
  have HS6 : Hid (Below w3.heap.size w3 w6 ∧ w6.heap[w3.heap.size]? = some (.cells #[.string s, .float .f64 f, .slice ab lb cb, .slice a3 lc c3'] 31) ∧ w3.heap.size < w6.heap.size) := ⟨v7 HS5.out.1 b6, (b6.block _ HS5.out.2.2).trans HS5.out.2.1, Nat.lt_of_lt_of_le HS5.out.2.2 b6.size⟩
  clear b6 HS5 HK5
  go_wp2_with fail
  have bl : Below w6.heap.size w6 (w6.alloc (.cells #[.string s, .float .f64 f, .slice ab lb cb, .slice a3 k6 c3'] 31)) := (Below.refl _ _).alloc (Nat.le_refl _) _
  have HS7 : Hid (St w (w6.alloc (.cells #[.string s, .float .f64 f, .slice ab lb cb, .slice a3 k6 c3'] 31)) (.cells #[.string s, .float .f64 f, .slice ab lb cb, .slice ac lc cc] 26) ∧ IsCands (w6.alloc (.cells #[.string s, .float .f64 f, .slice ab lb cb, .slice a3 k6 c3'] 31)) a3 lc C ∧ (w6.alloc (.cells #[.string s, .float .f64 f, .slice ab lb cb, .slice a3 k6 c3'] 31)).heap[w3.heap.size]? = some (.cells #[.string s, .float .f64 f, .slice ab lb cb, .slice a3 lc c3'] 31) ∧ (w6.alloc (.cells #[.string s, .float .f64 f, .slice ab lb cb, .slice a3 k6 c3'] 31)).heap[w6.heap.size]? = some (.cells #[.string s, .float .f64 f, .slice ab lb cb, .slice a3 k6 c3'] 31) ∧ w3.heap.size < (w6.alloc (.cells #[.string s, .float .f64 f, .slice ab lb cb, .slice a3 k6 c3'] 31)).heap.size ∧ w6.heap.size < (w6.alloc (.cells #[.string s, .float .f64 f, .slice ab lb cb, .slice a3 k6 c3'] 31)).heap.size) :=
    ⟨HS3.out.1.next (v7 HS6.out.1 bl), HS3.out.2.1.below (v7 HS6.out.1 bl), (bl.block _ HS6.out.2.2).trans HS6.out.2.1, Deep.blk_alloc_new _ _, Nat.lt_of_lt_of_le HS6.out.2.2 bl.size, by simp⟩
  have HN : Hid (a3.isNone = ac.isNone ∧ lc ≤ c3' ∧ c3' ≤ 1048576) := HS3.out.2.2
  clear bl HS6 HS3
  generalize w6.alloc (.cells #[.string s, .float .f64 f, .slice ab lb cb, .slice a3 k6 c3'] 31) = V at HS7 ⊢
  generalize w6.heap.size = g8 at HS7 ⊢
  generalize w3.heap.size = g7 at HS7 ⊢
  have z0 : V.cell? ⟨g7, 0, none⟩ = some (.string s) := cell_at HS7.out.2.2.1 rfl
  have z1 : V.cell? ⟨g7, 1, none⟩ = some (.float .f64 f) := cell_at HS7.out.2.2.1 rfl
  have z2 : V.cell? ⟨g7, 2, none⟩ = some (.slice ab lb cb) := cell_at HS7.out.2.2.1 rfl
  have z3 : V.cell? ⟨g7, 3, none⟩ = some (.slice a3 lc c3') := cell_at HS7.out.2.2.1 rfl
  have hpq : 0 ≤ min p q := by omega
  have n0 := World.new_ne V _ z0
  have n1 := World.new_ne V _ z1
  have n2 := World.new_ne V _ z2
  have n3 := World.new_ne V _ z3
  go_cut [9] from 43 to 47 (fun v9 wc => ∃ g9 : Nat, v9 = .pointer (some ⟨g9, 0, none⟩) ∧ Hid (Once V wc g9 (.cells #[.string s, .float .f64 f, .slice ab lb cb, .slice a3 (min p (min q (lc : Int))).toNat c3'] 31)))
  case first =>
    go_region_held3 (fun w' => w'.cell? ⟨g7, 0, none⟩ = some (.string s) ∧ w'.cell? ⟨g7, 1, none⟩ = some (.float .f64 f) ∧ w'.cell? ⟨g7, 2, none⟩ = some (.slice ab lb cb) ∧ w'.cell? ⟨g7, 3, none⟩ = some (.slice a3 lc c3')) (go_keep)
      (first | (go_at_call 10; refine (minInt_any _ _ _).mono ?_; rintro e w' ⟨rfl, rfl⟩) | (go_at_call 9; refine (withCands_any s f ab lb cb a3 lc c3' C (min p q) hpq _ ?_ HN.out.2.1).mono ?_; exact HS7.out.2.1.below (by first | exact (Below.refl _ _).drew | exact ((Below.refl _ _).alloc (Nat.le_refl _) _).drew); rintro e w9 ⟨rfl, b9⟩; have HV : Hid (Below V.heap.size V w9) := v7 (V := V) (by first | exact (Below.refl _ _).drew | exact ((Below.refl _ _).alloc (Nat.le_refl _) _).drew) b9; have y0 := below_cell HV.out z0; have y1 := below_cell HV.out z1; have y2 := below_cell HV.out z2; have y3 := below_cell HV.out z3; (try (have q9 := blk7 b9; have u0 := cell_at (i := 0) q9 rfl; have u1 := cell_at (i := 1) q9 rfl; have u2 := cell_at (i := 2) q9 rfl; have u3 := cell_at (i := 3) q9 rfl; have t0 := frozen_at q9 0; have t1 := frozen_at q9 1; have t2 := frozen_at q9 2; have t3 := frozen_at q9 3; have HQ : Hid (w9.heap[V.heap.size]? = some (.cells #[.string ⟨#[]⟩, .float .f64 0, .slice none 0 0, .slice none 0 0] 31)) := q9; clear q9)); clear b9))
    all_goals go_wp2
    all_goals go_meet
    all_goals first | exact ⟨_, rfl, once_alloc HV.out⟩ | exact ⟨_, rfl, once_set HV.out HQ.out⟩
  case rest =>
    obtain ⟨g9, rfl, HO⟩ := hcut
    have e9 : ((min p (min q (lc : Int))).toNat : Int) = min q (min p lc) := by omega
    generalize hk9 : (min p (min q (lc : Int))).toNat = k9 at HO e9
    have HK9 : Hid ((k9 : Int) = min q (min p lc)) := e9
    clear e9 hk9 n0 n1 n2 n3 z0 z1 z2 z3 hpq
    have HW : Hid (St w wc (.cells #[.string s, .float .f64 f, .slice ab lb cb, .slice ac lc cc] 26) ∧ IsCands wc a3 lc C ∧ wc.heap[g8]? = some (.cells #[.string s, .float .f64 f, .slice ab lb cb, .slice a3 k6 c3'] 31) ∧ wc.heap[g9]? = some (.cells #[.string s, .float .f64 f, .slice ab lb cb, .slice a3 k9 c3'] 31)) :=
      ⟨HS7.out.1.next HO.out.below, HS7.out.2.1.below HO.out.below, (HO.out.below.block _ HS7.out.2.2.2.2.2).trans HS7.out.2.2.2.1, HO.out.box⟩
    clear HO HS7
    have p0 : wc.cell? ⟨w.heap.size, 0, none⟩ = some (.string s) := cell_at HW.out.1.box rfl
    have p1 : wc.cell? ⟨w.heap.size, 1, none⟩ = some (.float .f64 f) := cell_at HW.out.1.box rfl
    have p2 : wc.cell? ⟨w.heap.size, 2, none⟩ = some (.slice ab lb cb) := cell_at HW.out.1.box rfl
    have p3 : wc.cell? ⟨w.heap.size, 3, none⟩ = some (.slice ac lc cc) := cell_at HW.out.1.box rfl
    have q0 : wc.cell? ⟨g8, 0, none⟩ = some (.string s) := cell_at HW.out.2.2.1 rfl
    have q1 : wc.cell? ⟨g8, 1, none⟩ = some (.float .f64 f) := cell_at HW.out.2.2.1 rfl
    have q2 : wc.cell? ⟨g8, 2, none⟩ = some (.slice ab lb cb) := cell_at HW.out.2.2.1 rfl
    have q3 : wc.cell? ⟨g8, 3, none⟩ = some (.slice a3 k6 c3') := cell_at HW.out.2.2.1 rfl
    go_wp2_with fail
    go_quiet ((go_at_call 10; refine (minInt_any _ _ _).mono ?_; rintro e w' ⟨rfl, rfl⟩; exact ⟨rfl, _, rfl⟩))
    go_wp2_with fail
    have bd : Below wc.heap.size wc (wc.drewN nq) := below_drewN (Below.refl _ _) _
    refine (keeps_int s f ab lb cb a3 k6 c3' ac lc cc C _ _ (H.out.1.below (HW.out.1.next bd).below) ((HW.out.2.1.take (by have := HK6.out; omega)).below bd) (H.out.2.1.below (HW.out.1.next bd).below) (by have := HK6.out; omega) hl HN.out.1 (by have := HK6.out; omega)).mono ?_
    rintro e w10 ⟨rfl, b10⟩
    have HX : Hid (Below wc.heap.size wc w10) := v7 bd b10
    clear bd b10 p0 p1 p2 p3 q0 q1 q2 q3
    have hg9 : g9 < wc.heap.size := (Array.getElem?_eq_some_iff.1 HW.out.2.2.2).1
    have x9 := (HX.out.block _ hg9).trans HW.out.2.2.2
    have HT : Hid (St w w10 (.cells #[.string s, .float .f64 f, .slice ab lb cb, .slice ac lc cc] 26)) := HW.out.1.next HX.out
    have p0 : w10.cell? ⟨w.heap.size, 0, none⟩ = some (.string s) := cell_at HT.out.box rfl
    have p1 : w10.cell? ⟨w.heap.size, 1, none⟩ = some (.float .f64 f) := cell_at HT.out.box rfl
    have p2 : w10.cell? ⟨w.heap.size, 2, none⟩ = some (.slice ab lb cb) := cell_at HT.out.box rfl
    have p3 : w10.cell? ⟨w.heap.size, 3, none⟩ = some (.slice ac lc cc) := cell_at HT.out.box rfl
    have q0 : w10.cell? ⟨g9, 0, none⟩ = some (.string s) := cell_at x9 rfl
    have q1 : w10.cell? ⟨g9, 1, none⟩ = some (.float .f64 f) := cell_at x9 rfl
    have q2 : w10.cell? ⟨g9, 2, none⟩ = some (.slice ab lb cb) := cell_at x9 rfl
    have q3 : w10.cell? ⟨g9, 3, none⟩ = some (.slice a3 k9 c3') := cell_at x9 rfl
    clear x9 hg9
    go_wp2_with fail
    refine (keeps_int s f ab lb cb a3 k9 c3' ac lc cc C _ _ (H.out.1.below HT.out.below) ((HW.out.2.1.take (by have := HK9.out; omega)).below HX.out) (H.out.2.1.below HT.out.below) (by have := HK9.out; omega) hl HN.out.1 (by have := HK9.out; omega)).mono ?_
    rintro e w11 ⟨rfl, b11⟩
    have HY : Hid (Below w.heap.size w w11) := (HT.out.next b11).below
    clear b11
    go_wp2
    go_ret
    exact ⟨rfl, HY.out⟩
end Go.Proofs.Qxb6618748a
