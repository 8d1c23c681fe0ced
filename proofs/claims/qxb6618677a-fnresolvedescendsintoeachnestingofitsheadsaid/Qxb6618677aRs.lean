/-
  (Ref).Resolve.
-/
import Derived.Test.Qxb6618677aPt
import Derived.BigRegion
namespace Go.Proofs.Qxb6618677a
open Go.RowKit Go.Shelf

/-- What Resolve hands back, of the path P ++ [nm]. -/
def Res (X : ByteArray) (bt i0 x0 : Nat) (ts : List Stif.Tok) (P : List ByteArray) (nm : ByteArray) (ix : Int) (w : World) (e : Ending) (w' : World) : Prop :=
  Below w.heap.size w w' ∧
  ((ix ≠ 0 ∧ (named X P nm false ts = [] ∨ picks ix (allv X ts (named X P nm false ts)) = []) ∧ e = .returned (.tuple #[.agg #[.string ByteArray.empty, .bool false, .pointer none, .int .i64 0, .int .i64 0, .int .i64 0, .slice none 0 0, .int .i64 0], .bool false])) ∨
   ∃ pv g', StrRow w' pv g' P ∧ w.heap.size ≤ g' ∧
     ((named X P nm false ts ≠ [] ∧ (ix = 0 ∨ picks ix (allv X ts (named X P nm false ts)) ≠ []) ∧ e = .returned (.tuple #[.agg #[.string nm, .bool false, .pointer (some ⟨bt, 0, none⟩), .int .i64 i0, .int .i64 x0, .int .i64 0, pv, .int .i64 ix], .bool true])) ∨
      (ix = 0 ∧ named X P nm false ts = [] ∧ e = .returned (.tuple #[.agg #[.string nm, .bool true, .pointer (some ⟨bt, 0, none⟩), .int .i64 i0, .int .i64 x0, .int .i64 0, pv, .int .i64 0], .bool (!(named X P nm true ts).isEmpty)]))))

/-- The three boxes of Resolve. -/
structure RB (w wr : World) (o2 o3 o4 : Obj) : Prop where
  b2 : wr.heap[w.heap.size]? = some o2
  b3 : wr.heap[w.heap.size + 1]? = some o3
  b4 : wr.heap[w.heap.size + 1 + 1]? = some o4
  below : Below w.heap.size w wr
  size : w.heap.size + 3 ≤ wr.heap.size
theorem RB.next {w wr w' : World} {o2 o3 o4 : Obj} (h : RB w wr o2 o3 o4) (hb : Below wr.heap.size wr w') : RB w w' o2 o3 o4 := by
  have hs := h.size
  exact ⟨(hb.block _ (by omega)).trans h.b2, (hb.block _ (by omega)).trans h.b3, (hb.block _ (by omega)).trans h.b4, h.below.trans (hb.mono (by omega)), Nat.le_trans hs hb.size⟩
theorem RB.start (w : World) (o2 o3 o4 : Obj) : RB w (allocs w [o2, o3, o4]) o2 o3 o4 := by
  obtain ⟨h1, h2, h3⟩ := allocs_spec [o2, o3, o4] w
  exact ⟨h3 0, h3 1, h3 2, h1, by rw [h2]; simp⟩

theorem frozen_k {w : World} {k : Nat} {c : Array Value} {t : TypeId} (h : w.heap[k]? = some (.cells c t (0, 0))) (i : Nat) : w.frozen? ⟨k, i, none⟩ = false := by
  simp [World.frozen?, h]
theorem set8_blk {V : World} {b k : Nat} {v0 v1 v2 v3 v4 v5 v6 v7 : Value} (hk : k ≠ b) : ((((((((V.setCell ⟨b, 0, none⟩ v0).setCell ⟨b, 1, none⟩ v1).setCell ⟨b, 2, none⟩ v2).setCell ⟨b, 3, none⟩ v3).setCell ⟨b, 4, none⟩ v4).setCell ⟨b, 5, none⟩ v5).setCell ⟨b, 6, none⟩ v6).setCell ⟨b, 7, none⟩ v7).heap[k]? = V.heap[k]? := by
  rw [Below.heap_setCell _ _ _ _ hk, Below.heap_setCell _ _ _ _ hk, Below.heap_setCell _ _ _ _ hk, Below.heap_setCell _ _ _ _ hk, Below.heap_setCell _ _ _ _ hk, Below.heap_setCell _ _ _ _ hk, Below.heap_setCell _ _ _ _ hk, Below.heap_setCell _ _ _ _ hk]
theorem set8_below {w V : World} {b g : Nat} {v0 v1 v2 v3 v4 v5 v6 v7 : Value} (h : Below g w V) (hk : g ≤ b) : Below g w ((((((((V.setCell ⟨b, 0, none⟩ v0).setCell ⟨b, 1, none⟩ v1).setCell ⟨b, 2, none⟩ v2).setCell ⟨b, 3, none⟩ v3).setCell ⟨b, 4, none⟩ v4).setCell ⟨b, 5, none⟩ v5).setCell ⟨b, 6, none⟩ v6).setCell ⟨b, 7, none⟩ v7) :=
  (((((((h.setCell hk _).setCell hk _).setCell hk _).setCell hk _).setCell hk _).setCell hk _).setCell hk _).setCell hk _

theorem StrRow.below {w w' : World} {v : Value} {g : Nat} {P : List ByteArray} (h : StrRow w v g P) (hb : Below w.heap.size w w') : StrRow w' v g P := h.of_block (hb.block g h.lt)

set_option maxRecDepth 100000 in
set_option maxHeartbeats 2000000 in
theorem resolve_any (bt g o c : Nat) (T X : ByteArray) (P : List ByteArray) (nm : ByteArray) (ix : Int) (ts : List Stif.Tok) (i0 x0 k0 : Nat) (w : World)
    (hT : T.size ≤ 1048576) (hX : X.size ≤ 1048576) (htr : IsTree w bt T X) (hp : StrRow w (.slice (some ⟨g, o, none⟩) (P.length + 1) c) g (P ++ [nm])) (hP : P.length ≤ 1048576) (hch : Stif.chain T X.size i0 x0 ts T.size X.size) (hbal : Stif.bal k0 ts) :
    Calls Try.prog 21 #[.agg #[.slice (some ⟨g, o, none⟩) (P.length + 1) c, .int .i64 ix], .agg #[.pointer (some ⟨bt, 0, none⟩), .int .i64 i0, .int .i64 x0, .int .i64 0]] w (Res X bt i0 x0 ts P nm ix w) := by
  have hbt : bt < w.heap.size := (Array.getElem?_eq_some_iff.1 htr.blk).1
  have hg := hp.lt
  obtain ⟨o', c', hv, hnc, hcm, hcell⟩ := hp.ex
  simp at hv
  obtain ⟨rfl, rfl⟩ := hv
  have hlast : w.cell? ⟨g, o + P.length, none⟩ = some (.string nm) := hcell P.length nm (by simp)
  have hp1 : StrRow w (.slice (some ⟨g, o, none⟩) P.length c) g P := ⟨⟨o, c, rfl, by simp at hnc; omega, hcm, fun i q hq => hcell i q (by rw [List.getElem?_append_left (List.getElem?_eq_some_iff.1 hq).1]; exact hq)⟩, hg⟩
  have hnc' : ((P.length : Int)) ≤ c := by simp at hnc; omega
  have H : Hid (IsTree w bt T X ∧ StrRow w (.slice (some ⟨g, o, none⟩) P.length c) g P ∧ Stif.chain T X.size i0 x0 ts T.size X.size ∧ Stif.bal k0 ts) := ⟨htr, hp1, hch, hbal⟩
  clear htr hp hp1 hch hbal hcell hcm hnc
  have hpl : (P.length : Int) ≤ 1048576 := by omega
  have hlt1 : (P.length : Int) < (P.length : Int) + 1 := by omega
  go_enter Try.func21, Try.ntmps21
  go_wp2_with fail
  have HB0 : Hid (RB w (allocs w [.cells #[.slice (some ⟨g, o, none⟩) (P.length + 1) c, .int .i64 ix] 51, .cells #[.pointer (some ⟨bt, 0, none⟩), .int .i64 i0, .int .i64 x0, .int .i64 0] 35, .cells #[.string ⟨#[]⟩, .bool false, .pointer none, .int .i64 0, .int .i64 0, .int .i64 0, .slice none 0 0, .int .i64 0] 48]) (.cells #[.slice (some ⟨g, o, none⟩) (P.length + 1) c, .int .i64 ix] 51) (.cells #[.pointer (some ⟨bt, 0, none⟩), .int .i64 i0, .int .i64 x0, .int .i64 0] 35) (.cells #[.string ⟨#[]⟩, .bool false, .pointer none, .int .i64 0, .int .i64 0, .int .i64 0, .slice none 0 0, .int .i64 0] 48)) := RB.start w _ _ _
  change Calls Try.prog 33 _ (allocs w [.cells #[.slice (some ⟨g, o, none⟩) (P.length + 1) c, .int .i64 ix] 51, .cells #[.pointer (some ⟨bt, 0, none⟩), .int .i64 i0, .int .i64 x0, .int .i64 0] 35, .cells #[.string ⟨#[]⟩, .bool false, .pointer none, .int .i64 0, .int .i64 0, .int .i64 0, .slice none 0 0, .int .i64 0] 48]) _
  generalize allocs w [.cells #[.slice (some ⟨g, o, none⟩) (P.length + 1) c, .int .i64 ix] 51, .cells #[.pointer (some ⟨bt, 0, none⟩), .int .i64 i0, .int .i64 x0, .int .i64 0] 35, .cells #[.string ⟨#[]⟩, .bool false, .pointer none, .int .i64 0, .int .i64 0, .int .i64 0, .slice none 0 0, .int .i64 0] 48] = W0 at HB0 ⊢
  refine (clone_any _ g P W0 (H.out.2.1.below HB0.out.below) hP).mono ?_
  rintro e w4 ⟨hb4, pv, gp, rfl, hpv, hgp⟩
  obtain ⟨o2, c2, rfl, _, _, _⟩ := hpv.ex
  have HB : Hid (RB w w4 (.cells #[.slice (some ⟨g, o, none⟩) (P.length + 1) c, .int .i64 ix] 51) (.cells #[.pointer (some ⟨bt, 0, none⟩), .int .i64 i0, .int .i64 x0, .int .i64 0] 35) (.cells #[.string ⟨#[]⟩, .bool false, .pointer none, .int .i64 0, .int .i64 0, .int .i64 0, .slice none 0 0, .int .i64 0] 48) ∧ StrRow w4 (.slice (some ⟨gp, o2, none⟩) P.length c2) gp P ∧ w.heap.size + 3 ≤ gp) := ⟨HB0.out.next hb4, hpv, by have := HB0.out.size; omega⟩
  clear HB0 hb4 hpv hgp
  go_wp2_with fail
  have hBl := HB.out.1.below
  have z0 : w4.cell? ⟨w.heap.size, 0, none⟩ = some (.slice (some ⟨g, o, none⟩) (P.length + 1) c) := cell_at HB.out.1.b2 rfl
  have z1 : w4.cell? ⟨w.heap.size, 1, none⟩ = some (.int .i64 ix) := cell_at HB.out.1.b2 rfl
  have y0 : w4.cell? ⟨w.heap.size + 1, 0, none⟩ = some (.pointer (some ⟨bt, 0, none⟩)) := cell_at HB.out.1.b3 rfl
  have y1 : w4.cell? ⟨w.heap.size + 1, 1, none⟩ = some (.int .i64 i0) := cell_at HB.out.1.b3 rfl
  have y2 : w4.cell? ⟨w.heap.size + 1, 2, none⟩ = some (.int .i64 x0) := cell_at HB.out.1.b3 rfl
  have y3 : w4.cell? ⟨w.heap.size + 1, 3, none⟩ = some (.int .i64 0) := cell_at HB.out.1.b3 rfl
  have xl : w4.cell? ⟨g, o + P.length, none⟩ = some (.string nm) := by rw [hBl.cell hg]; exact hlast
  have n0 := World.new_ne w4 _ z0
  have n1 := World.new_ne w4 _ y0
  have n2 := World.new_ne w4 _ xl
  clear hBl
  go_region_held3 (fun w' => w'.cell? ⟨w.heap.size, 0, none⟩ = some (.slice (some ⟨g, o, none⟩) (P.length + 1) c) ∧ w'.cell? ⟨w.heap.size, 1, none⟩ = some (.int .i64 ix) ∧ w'.cell? ⟨w.heap.size + 1, 0, none⟩ = some (.pointer (some ⟨bt, 0, none⟩)) ∧ w'.cell? ⟨w.heap.size + 1, 1, none⟩ = some (.int .i64 i0) ∧ w'.cell? ⟨w.heap.size + 1, 2, none⟩ = some (.int .i64 x0) ∧ w'.cell? ⟨w.heap.size + 1, 3, none⟩ = some (.int .i64 0) ∧ w'.cell? ⟨g, o + P.length, none⟩ = some (.string nm)) (go_keep) (fail)
  have b5 : Below w4.heap.size w4 (w4.alloc (.cells #[.string nm, .bool false, .pointer (some ⟨bt, 0, none⟩), .int .i64 i0, .int .i64 x0, .int .i64 0, (.slice (some ⟨gp, o2, none⟩) P.length c2), .int .i64 ix] 48)).drew := ((Below.refl _ _).alloc (Nat.le_refl _) _).drew
  have HB5 : Hid (RB w (w4.alloc (.cells #[.string nm, .bool false, .pointer (some ⟨bt, 0, none⟩), .int .i64 i0, .int .i64 x0, .int .i64 0, (.slice (some ⟨gp, o2, none⟩) P.length c2), .int .i64 ix] 48)).drew (.cells #[.slice (some ⟨g, o, none⟩) (P.length + 1) c, .int .i64 ix] 51) (.cells #[.pointer (some ⟨bt, 0, none⟩), .int .i64 i0, .int .i64 x0, .int .i64 0] 35) (.cells #[.string ⟨#[]⟩, .bool false, .pointer none, .int .i64 0, .int .i64 0, .int .i64 0, .slice none 0 0, .int .i64 0] 48) ∧ StrRow (w4.alloc (.cells #[.string nm, .bool false, .pointer (some ⟨bt, 0, none⟩), .int .i64 i0, .int .i64 x0, .int .i64 0, (.slice (some ⟨gp, o2, none⟩) P.length c2), .int .i64 ix] 48)).drew (.slice (some ⟨gp, o2, none⟩) P.length c2) gp P ∧ w.heap.size + 3 ≤ gp ∧ (w4.alloc (.cells #[.string nm, .bool false, .pointer (some ⟨bt, 0, none⟩), .int .i64 i0, .int .i64 x0, .int .i64 0, (.slice (some ⟨gp, o2, none⟩) P.length c2), .int .i64 ix] 48)).drew.heap[w4.heap.size]? = some (.cells #[.string nm, .bool false, .pointer (some ⟨bt, 0, none⟩), .int .i64 i0, .int .i64 x0, .int .i64 0, (.slice (some ⟨gp, o2, none⟩) P.length c2), .int .i64 ix] 48)) := ⟨HB.out.1.next b5, HB.out.2.1.below b5, HB.out.2.2, World.alloc_heap_new w4 _⟩
  clear b5 HB z0 z1 y0 y1 y2 y3 xl n0 n1 n2
  generalize (w4.alloc (.cells #[.string nm, .bool false, .pointer (some ⟨bt, 0, none⟩), .int .i64 i0, .int .i64 x0, .int .i64 0, (.slice (some ⟨gp, o2, none⟩) P.length c2), .int .i64 ix] 48)).drew = W5 at HB5 ⊢
  generalize w4.heap.size = b8 at HB5 ⊢
  have p0 : W5.cell? ⟨b8, 0, none⟩ = some (.string nm) := cell_at HB5.out.2.2.2 rfl
  have p1 : W5.cell? ⟨b8, 1, none⟩ = some (.bool false) := cell_at HB5.out.2.2.2 rfl
  have p2 : W5.cell? ⟨b8, 2, none⟩ = some (.pointer (some ⟨bt, 0, none⟩)) := cell_at HB5.out.2.2.2 rfl
  have p3 : W5.cell? ⟨b8, 3, none⟩ = some (.int .i64 i0) := cell_at HB5.out.2.2.2 rfl
  have p4 : W5.cell? ⟨b8, 4, none⟩ = some (.int .i64 x0) := cell_at HB5.out.2.2.2 rfl
  have p5 : W5.cell? ⟨b8, 5, none⟩ = some (.int .i64 0) := cell_at HB5.out.2.2.2 rfl
  have p6 : W5.cell? ⟨b8, 6, none⟩ = some (.slice (some ⟨gp, o2, none⟩) P.length c2) := cell_at HB5.out.2.2.2 rfl
  have p7 : W5.cell? ⟨b8, 7, none⟩ = some (.int .i64 ix) := cell_at HB5.out.2.2.2 rfl
  go_wp2_with fail
  refine (namedFields_any _ _ _ _ _ _ _ _ _).mono ?_
  rintro e w' ⟨rfl, rfl⟩
  go_wp2_with fail
  have b6' : Below W5.heap.size W5 (W5.alloc (.cells #[.string nm, .bool false, .pointer (some ⟨bt, 0, none⟩), .int .i64 i0, .int .i64 x0, .int .i64 0, (.slice (some ⟨gp, o2, none⟩) P.length c2), .int .i64 ix] 48)) := (Below.refl _ _).alloc (Nat.le_refl _) _
  have n6 : (W5.alloc (.cells #[.string nm, .bool false, .pointer (some ⟨bt, 0, none⟩), .int .i64 i0, .int .i64 x0, .int .i64 0, (.slice (some ⟨gp, o2, none⟩) P.length c2), .int .i64 ix] 48)).heap[W5.heap.size]? = some (.cells #[.string nm, .bool false, .pointer (some ⟨bt, 0, none⟩), .int .i64 i0, .int .i64 x0, .int .i64 0, (.slice (some ⟨gp, o2, none⟩) P.length c2), .int .i64 ix] 48) := World.alloc_heap_new W5 _
  refine (hasFields W5.heap.size bt gp T X P nm false (.slice (some ⟨gp, o2, none⟩) P.length c2) ix ts i0 x0 k0 _ hT hX ⟨((HB5.out.1.next b6').below.block bt hbt).trans H.out.1.blk⟩ ⟨n6⟩ (HB5.out.2.1.below b6') H.out.2.2.1 H.out.2.2.2).mono ?_
  rintro e w6 ⟨rfl, b6⟩
  have hb8 : b8 < W5.heap.size := (Array.getElem?_eq_some_iff.1 HB5.out.2.2.2).1
  have HB6 : Hid (RB w w6 (.cells #[.slice (some ⟨g, o, none⟩) (P.length + 1) c, .int .i64 ix] 51) (.cells #[.pointer (some ⟨bt, 0, none⟩), .int .i64 i0, .int .i64 x0, .int .i64 0] 35) (.cells #[.string ⟨#[]⟩, .bool false, .pointer none, .int .i64 0, .int .i64 0, .int .i64 0, .slice none 0 0, .int .i64 0] 48) ∧ StrRow w6 (.slice (some ⟨gp, o2, none⟩) P.length c2) gp P ∧ w.heap.size + 3 ≤ gp ∧ w6.heap[b8]? = some (.cells #[.string nm, .bool false, .pointer (some ⟨bt, 0, none⟩), .int .i64 i0, .int .i64 x0, .int .i64 0, (.slice (some ⟨gp, o2, none⟩) P.length c2), .int .i64 ix] 48)) := ⟨(HB5.out.1.next b6').next b6, (HB5.out.2.1.below b6').below b6, HB5.out.2.2.1, (b6.block _ (by simp; omega)).trans ((b6'.block _ hb8).trans HB5.out.2.2.2)⟩
  clear b6 b6' n6 HB5 hb8 p0 p1 p2 p3 p4 p5 p6 p7
  have z1 : w6.cell? ⟨w.heap.size, 1, none⟩ = some (.int .i64 ix) := cell_at HB6.out.1.b2 rfl
  have p0 : w6.cell? ⟨b8, 0, none⟩ = some (.string nm) := cell_at HB6.out.2.2.2 rfl
  have p1 : w6.cell? ⟨b8, 1, none⟩ = some (.bool false) := cell_at HB6.out.2.2.2 rfl
  have p2 : w6.cell? ⟨b8, 2, none⟩ = some (.pointer (some ⟨bt, 0, none⟩)) := cell_at HB6.out.2.2.2 rfl
  have p3 : w6.cell? ⟨b8, 3, none⟩ = some (.int .i64 i0) := cell_at HB6.out.2.2.2 rfl
  have p4 : w6.cell? ⟨b8, 4, none⟩ = some (.int .i64 x0) := cell_at HB6.out.2.2.2 rfl
  have p5 : w6.cell? ⟨b8, 5, none⟩ = some (.int .i64 0) := cell_at HB6.out.2.2.2 rfl
  have p6 : w6.cell? ⟨b8, 6, none⟩ = some (.slice (some ⟨gp, o2, none⟩) P.length c2) := cell_at HB6.out.2.2.2 rfl
  have p7 : w6.cell? ⟨b8, 7, none⟩ = some (.int .i64 ix) := cell_at HB6.out.2.2.2 rfl
  have q0 : w6.cell? ⟨w.heap.size + 1 + 1, 0, none⟩ = some (.string ⟨#[]⟩) := cell_at HB6.out.1.b4 rfl
  have q1 : w6.cell? ⟨w.heap.size + 1 + 1, 1, none⟩ = some (.bool false) := cell_at HB6.out.1.b4 rfl
  have q2 : w6.cell? ⟨w.heap.size + 1 + 1, 2, none⟩ = some (.pointer none) := cell_at HB6.out.1.b4 rfl
  have q3 : w6.cell? ⟨w.heap.size + 1 + 1, 3, none⟩ = some (.int .i64 0) := cell_at HB6.out.1.b4 rfl
  have q4 : w6.cell? ⟨w.heap.size + 1 + 1, 4, none⟩ = some (.int .i64 0) := cell_at HB6.out.1.b4 rfl
  have q5 : w6.cell? ⟨w.heap.size + 1 + 1, 5, none⟩ = some (.int .i64 0) := cell_at HB6.out.1.b4 rfl
  have q6 : w6.cell? ⟨w.heap.size + 1 + 1, 6, none⟩ = some (.slice none 0 0) := cell_at HB6.out.1.b4 rfl
  have q7 : w6.cell? ⟨w.heap.size + 1 + 1, 7, none⟩ = some (.int .i64 0) := cell_at HB6.out.1.b4 rfl
  have f0 : w6.frozen? ⟨w.heap.size + 1 + 1, 0, none⟩ = false := by have := HB6.out.1.b4; simp [World.frozen?, this]
  have f1 : w6.frozen? ⟨w.heap.size + 1 + 1, 1, none⟩ = false := by have := HB6.out.1.b4; simp [World.frozen?, this]
  have f2 : w6.frozen? ⟨w.heap.size + 1 + 1, 2, none⟩ = false := by have := HB6.out.1.b4; simp [World.frozen?, this]
  have f3 : w6.frozen? ⟨w.heap.size + 1 + 1, 3, none⟩ = false := by have := HB6.out.1.b4; simp [World.frozen?, this]
  have f4 : w6.frozen? ⟨w.heap.size + 1 + 1, 4, none⟩ = false := by have := HB6.out.1.b4; simp [World.frozen?, this]
  have f5 : w6.frozen? ⟨w.heap.size + 1 + 1, 5, none⟩ = false := by have := HB6.out.1.b4; simp [World.frozen?, this]
  have f6 : w6.frozen? ⟨w.heap.size + 1 + 1, 6, none⟩ = false := by have := HB6.out.1.b4; simp [World.frozen?, this]
  have f7 : w6.frozen? ⟨w.heap.size + 1 + 1, 7, none⟩ = false := by have := HB6.out.1.b4; simp [World.frozen?, this]
  have hgp : gp ≠ w.heap.size + 1 + 1 := by have := HB6.out.2.2.1; omega
  cases hF : (named X P nm false ts).isEmpty with
  | true =>
    have HF : Hid (named X P nm false ts = []) := List.isEmpty_iff.1 hF
    by_cases hix : ix = 0
    · subst hix
      clear hF p0 p1 p2 p3 p4 p5 p6 p7
      have hBl := HB6.out.1.below
      have z0 : w6.cell? ⟨w.heap.size, 0, none⟩ = some (.slice (some ⟨g, o, none⟩) (P.length + 1) c) := cell_at HB6.out.1.b2 rfl
      have y0 : w6.cell? ⟨w.heap.size + 1, 0, none⟩ = some (.pointer (some ⟨bt, 0, none⟩)) := cell_at HB6.out.1.b3 rfl
      have y1 : w6.cell? ⟨w.heap.size + 1, 1, none⟩ = some (.int .i64 i0) := cell_at HB6.out.1.b3 rfl
      have y2 : w6.cell? ⟨w.heap.size + 1, 2, none⟩ = some (.int .i64 x0) := cell_at HB6.out.1.b3 rfl
      have y3 : w6.cell? ⟨w.heap.size + 1, 3, none⟩ = some (.int .i64 0) := cell_at HB6.out.1.b3 rfl
      have xl : w6.cell? ⟨g, o + P.length, none⟩ = some (.string nm) := by rw [hBl.cell hg]; exact hlast
      have n0 := World.new_ne w6 _ z0
      have n1 := World.new_ne w6 _ y0
      have n2 := World.new_ne w6 _ xl
      clear hBl q0 q1 q2 q3 q4 q5 q6 q7 f0 f1 f2 f3 f4 f5 f6 f7
      go_wp2_with fail
      go_region_held3 (fun w' => w'.cell? ⟨w.heap.size, 0, none⟩ = some (.slice (some ⟨g, o, none⟩) (P.length + 1) c) ∧ w'.cell? ⟨w.heap.size + 1, 0, none⟩ = some (.pointer (some ⟨bt, 0, none⟩)) ∧ w'.cell? ⟨w.heap.size + 1, 1, none⟩ = some (.int .i64 i0) ∧ w'.cell? ⟨w.heap.size + 1, 2, none⟩ = some (.int .i64 x0) ∧ w'.cell? ⟨w.heap.size + 1, 3, none⟩ = some (.int .i64 0) ∧ w'.cell? ⟨g, o + P.length, none⟩ = some (.string nm)) (go_keep) (fail)
      have b5 : Below w6.heap.size w6 (w6.alloc (.cells #[.string nm, .bool true, .pointer (some ⟨bt, 0, none⟩), .int .i64 i0, .int .i64 x0, .int .i64 0, (.slice (some ⟨gp, o2, none⟩) P.length c2), .int .i64 0] 48)).drew := ((Below.refl _ _).alloc (Nat.le_refl _) _).drew
      have HB8 : Hid (RB w (w6.alloc (.cells #[.string nm, .bool true, .pointer (some ⟨bt, 0, none⟩), .int .i64 i0, .int .i64 x0, .int .i64 0, (.slice (some ⟨gp, o2, none⟩) P.length c2), .int .i64 0] 48)).drew (.cells #[.slice (some ⟨g, o, none⟩) (P.length + 1) c, .int .i64 0] 51) (.cells #[.pointer (some ⟨bt, 0, none⟩), .int .i64 i0, .int .i64 x0, .int .i64 0] 35) (.cells #[.string ⟨#[]⟩, .bool false, .pointer none, .int .i64 0, .int .i64 0, .int .i64 0, .slice none 0 0, .int .i64 0] 48) ∧ StrRow (w6.alloc (.cells #[.string nm, .bool true, .pointer (some ⟨bt, 0, none⟩), .int .i64 i0, .int .i64 x0, .int .i64 0, (.slice (some ⟨gp, o2, none⟩) P.length c2), .int .i64 0] 48)).drew (.slice (some ⟨gp, o2, none⟩) P.length c2) gp P ∧ w.heap.size + 3 ≤ gp ∧ (w6.alloc (.cells #[.string nm, .bool true, .pointer (some ⟨bt, 0, none⟩), .int .i64 i0, .int .i64 x0, .int .i64 0, (.slice (some ⟨gp, o2, none⟩) P.length c2), .int .i64 0] 48)).drew.heap[w6.heap.size]? = some (.cells #[.string nm, .bool true, .pointer (some ⟨bt, 0, none⟩), .int .i64 i0, .int .i64 x0, .int .i64 0, (.slice (some ⟨gp, o2, none⟩) P.length c2), .int .i64 0] 48)) := ⟨HB6.out.1.next b5, HB6.out.2.1.below b5, HB6.out.2.2.1, World.alloc_heap_new w6 _⟩
      have n9 : w.heap.size + 1 + 1 ≠ w6.heap.size := by have := HB6.out.1.size; omega
      clear b5 HB6 z0 z1 y0 y1 y2 y3 xl n0 n1 n2
      generalize (w6.alloc (.cells #[.string nm, .bool true, .pointer (some ⟨bt, 0, none⟩), .int .i64 i0, .int .i64 x0, .int .i64 0, (.slice (some ⟨gp, o2, none⟩) P.length c2), .int .i64 0] 48)).drew = W8 at HB8 ⊢
      generalize w6.heap.size = b9 at HB8 n9 ⊢
      have nb8 : ∀ o, Below W8.heap.size W8 (W8.alloc o).drew := fun o => ((Below.refl _ _).alloc (Nat.le_refl _) _).drew
      have hb9 : b9 < W8.heap.size := (Array.getElem?_eq_some_iff.1 HB8.out.2.2.2).1
      have r0 : W8.cell? ⟨b9, 0, none⟩ = some (.string nm) := cell_at HB8.out.2.2.2 rfl
      have r1 : W8.cell? ⟨b9, 1, none⟩ = some (.bool true) := cell_at HB8.out.2.2.2 rfl
      have r2 : W8.cell? ⟨b9, 2, none⟩ = some (.pointer (some ⟨bt, 0, none⟩)) := cell_at HB8.out.2.2.2 rfl
      have r3 : W8.cell? ⟨b9, 3, none⟩ = some (.int .i64 i0) := cell_at HB8.out.2.2.2 rfl
      have r4 : W8.cell? ⟨b9, 4, none⟩ = some (.int .i64 x0) := cell_at HB8.out.2.2.2 rfl
      have r5 : W8.cell? ⟨b9, 5, none⟩ = some (.int .i64 0) := cell_at HB8.out.2.2.2 rfl
      have r6 : W8.cell? ⟨b9, 6, none⟩ = some (.slice (some ⟨gp, o2, none⟩) P.length c2) := cell_at HB8.out.2.2.2 rfl
      have r7 : W8.cell? ⟨b9, 7, none⟩ = some (.int .i64 0) := cell_at HB8.out.2.2.2 rfl
      go_wp2_with fail
      go_region_held3 (fun w' => w'.cell? ⟨b9, 0, none⟩ = some (.string nm) ∧ w'.cell? ⟨b9, 1, none⟩ = some (.bool true) ∧ w'.cell? ⟨b9, 2, none⟩ = some (.pointer (some ⟨bt, 0, none⟩)) ∧ w'.cell? ⟨b9, 3, none⟩ = some (.int .i64 i0) ∧ w'.cell? ⟨b9, 4, none⟩ = some (.int .i64 x0) ∧ w'.cell? ⟨b9, 5, none⟩ = some (.int .i64 0) ∧ w'.cell? ⟨b9, 6, none⟩ = some (.slice (some ⟨gp, o2, none⟩) P.length c2) ∧ w'.cell? ⟨b9, 7, none⟩ = some (.int .i64 0)) (go_keep)
        (first | (go_at_call 35; refine (namedFields_any _ _ _ _ _ _ _ _ _).mono ?_; rintro e w' ⟨rfl, rfl⟩) | (go_at_call 34; refine (hasFields W8.heap.size bt gp T X P nm true (.slice (some ⟨gp, o2, none⟩) P.length c2) 0 ts i0 x0 k0 _ hT hX ?_ ?_ ?_ H.out.2.2.1 H.out.2.2.2).mono ?_; exact ⟨((HB8.out.1.next (nb8 _)).below.block bt hbt).trans H.out.1.blk⟩; exact ⟨World.alloc_heap_new W8 _⟩; exact HB8.out.2.1.below (nb8 _); rintro e w9 ⟨rfl, b9'⟩; have HB9 : Hid (RB w w9 (.cells #[.slice (some ⟨g, o, none⟩) (P.length + 1) c, .int .i64 0] 51) (.cells #[.pointer (some ⟨bt, 0, none⟩), .int .i64 i0, .int .i64 x0, .int .i64 0] 35) (.cells #[.string ⟨#[]⟩, .bool false, .pointer none, .int .i64 0, .int .i64 0, .int .i64 0, .slice none 0 0, .int .i64 0] 48) ∧ StrRow w9 (.slice (some ⟨gp, o2, none⟩) P.length c2) gp P ∧ w.heap.size + 3 ≤ gp ∧ w9.heap[b9]? = some (.cells #[.string nm, .bool true, .pointer (some ⟨bt, 0, none⟩), .int .i64 i0, .int .i64 x0, .int .i64 0, (.slice (some ⟨gp, o2, none⟩) P.length c2), .int .i64 0] 48)) := ⟨(HB8.out.1.next (nb8 _)).next b9', (HB8.out.2.1.below (nb8 _)).below b9', HB8.out.2.2.1, (b9'.block _ (Nat.lt_of_lt_of_le hb9 (nb8 _).size)).trans (((nb8 _).block _ hb9).trans HB8.out.2.2.2)⟩; have q0 : w9.cell? ⟨w.heap.size + 1 + 1, 0, none⟩ = some (.string ⟨#[]⟩) := cell_at HB9.out.1.b4 rfl; have q1 : w9.cell? ⟨w.heap.size + 1 + 1, 1, none⟩ = some (.bool false) := cell_at HB9.out.1.b4 rfl; have q2 : w9.cell? ⟨w.heap.size + 1 + 1, 2, none⟩ = some (.pointer none) := cell_at HB9.out.1.b4 rfl; have q3 : w9.cell? ⟨w.heap.size + 1 + 1, 3, none⟩ = some (.int .i64 0) := cell_at HB9.out.1.b4 rfl; have q4 : w9.cell? ⟨w.heap.size + 1 + 1, 4, none⟩ = some (.int .i64 0) := cell_at HB9.out.1.b4 rfl; have q5 : w9.cell? ⟨w.heap.size + 1 + 1, 5, none⟩ = some (.int .i64 0) := cell_at HB9.out.1.b4 rfl; have q6 : w9.cell? ⟨w.heap.size + 1 + 1, 6, none⟩ = some (.slice none 0 0) := cell_at HB9.out.1.b4 rfl; have q7 : w9.cell? ⟨w.heap.size + 1 + 1, 7, none⟩ = some (.int .i64 0) := cell_at HB9.out.1.b4 rfl; have f0 : w9.frozen? ⟨w.heap.size + 1 + 1, 0, none⟩ = false := frozen_k HB9.out.1.b4 0; have f1 : w9.frozen? ⟨w.heap.size + 1 + 1, 1, none⟩ = false := frozen_k HB9.out.1.b4 1; have f2 : w9.frozen? ⟨w.heap.size + 1 + 1, 2, none⟩ = false := frozen_k HB9.out.1.b4 2; have f3 : w9.frozen? ⟨w.heap.size + 1 + 1, 3, none⟩ = false := frozen_k HB9.out.1.b4 3; have f4 : w9.frozen? ⟨w.heap.size + 1 + 1, 4, none⟩ = false := frozen_k HB9.out.1.b4 4; have f5 : w9.frozen? ⟨w.heap.size + 1 + 1, 5, none⟩ = false := frozen_k HB9.out.1.b4 5; have f6 : w9.frozen? ⟨w.heap.size + 1 + 1, 6, none⟩ = false := frozen_k HB9.out.1.b4 6; have f7 : w9.frozen? ⟨w.heap.size + 1 + 1, 7, none⟩ = false := frozen_k HB9.out.1.b4 7; have r0 : w9.cell? ⟨b9, 0, none⟩ = some (.string nm) := cell_at HB9.out.2.2.2 rfl; have r1 : w9.cell? ⟨b9, 1, none⟩ = some (.bool true) := cell_at HB9.out.2.2.2 rfl; have r2 : w9.cell? ⟨b9, 2, none⟩ = some (.pointer (some ⟨bt, 0, none⟩)) := cell_at HB9.out.2.2.2 rfl; have r3 : w9.cell? ⟨b9, 3, none⟩ = some (.int .i64 i0) := cell_at HB9.out.2.2.2 rfl; have r4 : w9.cell? ⟨b9, 4, none⟩ = some (.int .i64 x0) := cell_at HB9.out.2.2.2 rfl; have r5 : w9.cell? ⟨b9, 5, none⟩ = some (.int .i64 0) := cell_at HB9.out.2.2.2 rfl; have r6 : w9.cell? ⟨b9, 6, none⟩ = some (.slice (some ⟨gp, o2, none⟩) P.length c2) := cell_at HB9.out.2.2.2 rfl; have r7 : w9.cell? ⟨b9, 7, none⟩ = some (.int .i64 0) := cell_at HB9.out.2.2.2 rfl; clear b9'))
      all_goals go_wp2
      all_goals (try simp only [Exit.inBlock, Exit.then])
      all_goals refine bodyPost_ret (v := .tuple #[.agg #[.string nm, .bool true, .pointer (some ⟨bt, 0, none⟩), .int .i64 i0, .int .i64 x0, .int .i64 0, (.slice (some ⟨gp, o2, none⟩) P.length c2), .int .i64 0], .bool (!(named X P nm true ts).isEmpty)]) (by simp [results, Try.results21, go_sem, q0, q1, q2, q3, q4, q5, q6, q7]) rfl ?_
      all_goals exact ⟨set8_below HB9.out.1.below (by omega), .inr ⟨(.slice (some ⟨gp, o2, none⟩) P.length c2), gp, HB9.out.2.1.of_block (set8_blk hgp), by have := HB9.out.2.2.1; omega, .inr ⟨rfl, HF.out, rfl⟩⟩⟩
    · have hixb : (ix != 0) = true := by simp [hix]
      have HI : Hid (ix ≠ 0) := hix
      clear hix hF
      go_wp2
      (try simp only [Exit.inBlock, Exit.then])
      refine bodyPost_ret (v := .tuple #[.agg #[.string ⟨#[]⟩, .bool false, .pointer none, .int .i64 0, .int .i64 0, .int .i64 0, .slice none 0 0, .int .i64 0], .bool false]) (by simp [results, Try.results21, go_sem, q0, q1, q2, q3, q4, q5, q6, q7]) rfl ?_
      exact ⟨set8_below HB6.out.1.below (by omega), .inl ⟨HI.out, .inl HF.out, rfl⟩⟩
  | false =>
    have HF : Hid (named X P nm false ts ≠ []) := fun h => by rw [h] at hF; cases hF
    by_cases hix : ix = 0
    · have hixb : (ix == 0) = true := by simp [hix]
      have HI : Hid (ix = 0) := hix
      clear hix hF
      go_wp2
      (try simp only [Exit.inBlock, Exit.then])
      refine bodyPost_ret (v := .tuple #[.agg #[.string nm, .bool false, .pointer (some ⟨bt, 0, none⟩), .int .i64 i0, .int .i64 x0, .int .i64 0, (.slice (some ⟨gp, o2, none⟩) P.length c2), .int .i64 ix], .bool true]) (by simp [results, Try.results21, go_sem, q0, q1, q2, q3, q4, q5, q6, q7]) rfl ?_
      exact ⟨set8_below HB6.out.1.below (by omega), .inr ⟨(.slice (some ⟨gp, o2, none⟩) P.length c2), gp, HB6.out.2.1.of_block (set8_blk hgp), by have := HB6.out.2.2.1; omega, .inl ⟨HF.out, .inl HI.out, rfl⟩⟩⟩
    · have hixb : (ix == 0) = false := by simp [hix]
      have hixc : (ix != 0) = true := by simp [hix]
      have HI : Hid (ix ≠ 0) := hix
      clear hix hF
      go_wp2_with fail
      refine (namedValues_any _ _ _ _ _ _ _ _ _).mono ?_
      rintro e w' ⟨rfl, rfl⟩
      go_wp2_with fail
      have b7' : Below w6.heap.size w6 (w6.alloc (.cells #[.string nm, .bool false, .pointer (some ⟨bt, 0, none⟩), .int .i64 i0, .int .i64 x0, .int .i64 0, (.slice (some ⟨gp, o2, none⟩) P.length c2), .int .i64 ix] 48)) := (Below.refl _ _).alloc (Nat.le_refl _) _
      have n7 : (w6.alloc (.cells #[.string nm, .bool false, .pointer (some ⟨bt, 0, none⟩), .int .i64 i0, .int .i64 x0, .int .i64 0, (.slice (some ⟨gp, o2, none⟩) P.length c2), .int .i64 ix] 48)).heap[w6.heap.size]? = some (.cells #[.string nm, .bool false, .pointer (some ⟨bt, 0, none⟩), .int .i64 i0, .int .i64 x0, .int .i64 0, (.slice (some ⟨gp, o2, none⟩) P.length c2), .int .i64 ix] 48) := World.alloc_heap_new w6 _
      refine (hasValues w6.heap.size bt gp T X P nm false (.slice (some ⟨gp, o2, none⟩) P.length c2) ix ts i0 x0 k0 _ hT hX ⟨((HB6.out.1.next b7').below.block bt hbt).trans H.out.1.blk⟩ ⟨n7⟩ (HB6.out.2.1.below b7') H.out.2.2.1 H.out.2.2.2).mono ?_
      rintro e w7 ⟨rfl, b7⟩
      have hb8 : b8 < w6.heap.size := (Array.getElem?_eq_some_iff.1 HB6.out.2.2.2).1
      have HB7 : Hid (RB w w7 (.cells #[.slice (some ⟨g, o, none⟩) (P.length + 1) c, .int .i64 ix] 51) (.cells #[.pointer (some ⟨bt, 0, none⟩), .int .i64 i0, .int .i64 x0, .int .i64 0] 35) (.cells #[.string ⟨#[]⟩, .bool false, .pointer none, .int .i64 0, .int .i64 0, .int .i64 0, .slice none 0 0, .int .i64 0] 48) ∧ StrRow w7 (.slice (some ⟨gp, o2, none⟩) P.length c2) gp P ∧ w.heap.size + 3 ≤ gp ∧ w7.heap[b8]? = some (.cells #[.string nm, .bool false, .pointer (some ⟨bt, 0, none⟩), .int .i64 i0, .int .i64 x0, .int .i64 0, (.slice (some ⟨gp, o2, none⟩) P.length c2), .int .i64 ix] 48)) := ⟨(HB6.out.1.next b7').next b7, (HB6.out.2.1.below b7').below b7, HB6.out.2.2.1, (b7.block _ (by simp; omega)).trans ((b7'.block _ hb8).trans HB6.out.2.2.2)⟩
      clear b7 b7' n7 HB6 hb8 p0 p1 p2 p3 p4 p5 p6 p7 q0 q1 q2 q3 q4 q5 q6 q7 f0 f1 f2 f3 f4 f5 f6 f7 z1
      have z1 : w7.cell? ⟨w.heap.size, 1, none⟩ = some (.int .i64 ix) := cell_at HB7.out.1.b2 rfl
      have p0 : w7.cell? ⟨b8, 0, none⟩ = some (.string nm) := cell_at HB7.out.2.2.2 rfl
      have p1 : w7.cell? ⟨b8, 1, none⟩ = some (.bool false) := cell_at HB7.out.2.2.2 rfl
      have p2 : w7.cell? ⟨b8, 2, none⟩ = some (.pointer (some ⟨bt, 0, none⟩)) := cell_at HB7.out.2.2.2 rfl
      have p3 : w7.cell? ⟨b8, 3, none⟩ = some (.int .i64 i0) := cell_at HB7.out.2.2.2 rfl
      have p4 : w7.cell? ⟨b8, 4, none⟩ = some (.int .i64 x0) := cell_at HB7.out.2.2.2 rfl
      have p5 : w7.cell? ⟨b8, 5, none⟩ = some (.int .i64 0) := cell_at HB7.out.2.2.2 rfl
      have p6 : w7.cell? ⟨b8, 6, none⟩ = some (.slice (some ⟨gp, o2, none⟩) P.length c2) := cell_at HB7.out.2.2.2 rfl
      have p7 : w7.cell? ⟨b8, 7, none⟩ = some (.int .i64 ix) := cell_at HB7.out.2.2.2 rfl
      have q0 : w7.cell? ⟨w.heap.size + 1 + 1, 0, none⟩ = some (.string ⟨#[]⟩) := cell_at HB7.out.1.b4 rfl
      have q1 : w7.cell? ⟨w.heap.size + 1 + 1, 1, none⟩ = some (.bool false) := cell_at HB7.out.1.b4 rfl
      have q2 : w7.cell? ⟨w.heap.size + 1 + 1, 2, none⟩ = some (.pointer none) := cell_at HB7.out.1.b4 rfl
      have q3 : w7.cell? ⟨w.heap.size + 1 + 1, 3, none⟩ = some (.int .i64 0) := cell_at HB7.out.1.b4 rfl
      have q4 : w7.cell? ⟨w.heap.size + 1 + 1, 4, none⟩ = some (.int .i64 0) := cell_at HB7.out.1.b4 rfl
      have q5 : w7.cell? ⟨w.heap.size + 1 + 1, 5, none⟩ = some (.int .i64 0) := cell_at HB7.out.1.b4 rfl
      have q6 : w7.cell? ⟨w.heap.size + 1 + 1, 6, none⟩ = some (.slice none 0 0) := cell_at HB7.out.1.b4 rfl
      have q7 : w7.cell? ⟨w.heap.size + 1 + 1, 7, none⟩ = some (.int .i64 0) := cell_at HB7.out.1.b4 rfl
      have f0 : w7.frozen? ⟨w.heap.size + 1 + 1, 0, none⟩ = false := by have := HB7.out.1.b4; simp [World.frozen?, this]
      have f1 : w7.frozen? ⟨w.heap.size + 1 + 1, 1, none⟩ = false := by have := HB7.out.1.b4; simp [World.frozen?, this]
      have f2 : w7.frozen? ⟨w.heap.size + 1 + 1, 2, none⟩ = false := by have := HB7.out.1.b4; simp [World.frozen?, this]
      have f3 : w7.frozen? ⟨w.heap.size + 1 + 1, 3, none⟩ = false := by have := HB7.out.1.b4; simp [World.frozen?, this]
      have f4 : w7.frozen? ⟨w.heap.size + 1 + 1, 4, none⟩ = false := by have := HB7.out.1.b4; simp [World.frozen?, this]
      have f5 : w7.frozen? ⟨w.heap.size + 1 + 1, 5, none⟩ = false := by have := HB7.out.1.b4; simp [World.frozen?, this]
      have f6 : w7.frozen? ⟨w.heap.size + 1 + 1, 6, none⟩ = false := by have := HB7.out.1.b4; simp [World.frozen?, this]
      have f7 : w7.frozen? ⟨w.heap.size + 1 + 1, 7, none⟩ = false := by have := HB7.out.1.b4; simp [World.frozen?, this]
      cases hV : (picks ix (allv X ts (named X P nm false ts))).isEmpty with
      | true =>
        have HV : Hid (picks ix (allv X ts (named X P nm false ts)) = []) := List.isEmpty_iff.1 hV
        clear hV
        go_wp2
        (try simp only [Exit.inBlock, Exit.then])
        refine bodyPost_ret (v := .tuple #[.agg #[.string ⟨#[]⟩, .bool false, .pointer none, .int .i64 0, .int .i64 0, .int .i64 0, .slice none 0 0, .int .i64 0], .bool false]) (by simp [results, Try.results21, go_sem, q0, q1, q2, q3, q4, q5, q6, q7]) rfl ?_
        exact ⟨set8_below HB7.out.1.below (by omega), .inl ⟨HI.out, .inr HV.out, rfl⟩⟩
      | false =>
        have HV : Hid (picks ix (allv X ts (named X P nm false ts)) ≠ []) := fun h => by rw [h] at hV; cases hV
        clear hV
        go_wp2
        (try simp only [Exit.inBlock, Exit.then])
        refine bodyPost_ret (v := .tuple #[.agg #[.string nm, .bool false, .pointer (some ⟨bt, 0, none⟩), .int .i64 i0, .int .i64 x0, .int .i64 0, (.slice (some ⟨gp, o2, none⟩) P.length c2), .int .i64 ix], .bool true]) (by simp [results, Try.results21, go_sem, q0, q1, q2, q3, q4, q5, q6, q7]) rfl ?_
        exact ⟨set8_below HB7.out.1.below (by omega), .inr ⟨(.slice (some ⟨gp, o2, none⟩) P.length c2), gp, HB7.out.2.1.of_block (set8_blk hgp), by have := HB7.out.2.2.1; omega, .inl ⟨HF.out, .inr HV.out, rfl⟩⟩⟩

set_option maxRecDepth 100000 in
set_option maxHeartbeats 1000000 in
theorem resolve_empty (a : Option Addr) (c : Nat) (ix : Int) (f0 : Option Addr) (f1 f2 f3 : Int) (w : World) :
    Calls Try.prog 21 #[.agg #[.slice a 0 c, .int .i64 ix], .agg #[.pointer f0, .int .i64 f1, .int .i64 f2, .int .i64 f3]] w fun e w' => e = .returned (.tuple #[.agg #[.string ByteArray.empty, .bool false, .pointer none, .int .i64 0, .int .i64 0, .int .i64 0, .slice none 0 0, .int .i64 0], .bool false]) ∧ Below w.heap.size w w' := by
  go_enter Try.func21, Try.ntmps21
  go_wp2
  (try simp only [Exit.inBlock, Exit.then])
  refine bodyPost_ret (v := .tuple #[.agg #[.string ⟨#[]⟩, .bool false, .pointer none, .int .i64 0, .int .i64 0, .int .i64 0, .slice none 0 0, .int .i64 0], .bool false]) (by simp [results, Try.results21, go_sem]) rfl ⟨rfl, ?_⟩
  exact (((Below.refl _ _).alloc (Nat.le_refl _) _).alloc (by simp) _).alloc (by simp; omega) _
end Go.Proofs.Qxb6618677a
