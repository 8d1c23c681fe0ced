/-
  The law on Resolve's head: small facts for its loop.
-/
import Derived.Test.Qxb6618677aLd
import Derived.Test.Qxb6618677aPj
namespace Go.Proofs.Qxb6618677a
open Go.RowKit

theorem below_two (w : World) (a b : Obj) : Below w.heap.size w ((w.alloc a).alloc b) := ((Below.refl _ _).alloc (Nat.le_refl _) a).alloc (by simp) b
theorem below_three (w : World) (a b c : Obj) : Below w.heap.size w (((w.alloc a).alloc b).alloc c) := (below_two w a b).alloc (by simp; omega) c
/-- Index 0 of Resolve. -/
theorem res_zero2 {X : ByteArray} {bt i0 x0 : Nat} {ts : List Stif.Tok} {P : List ByteArray} {nm : ByteArray} {w w' : World} {e : Ending} (h : Res X bt i0 x0 ts P nm 0 w e w') : Below w.heap.size w w' ∧
    ∃ (nA okA : Bool) (pv : Value) (g' : Nat), e = .returned (.tuple #[.agg #[.string nm, .bool nA, .pointer (some ⟨bt, 0, none⟩), .int .i64 i0, .int .i64 x0, .int .i64 0, pv, .int .i64 0], .bool okA]) ∧ StrRow w' pv g' P ∧ w.heap.size ≤ g' ∧
      nA = decide ((named X P nm false ts).length = 0) ∧ okA = (decide (0 < (named X P nm false ts).length) || decide (0 < (named X P nm true ts).length)) := by
  obtain ⟨hb, h⟩ := h
  refine ⟨hb, ?_⟩
  rcases h with ⟨h, _⟩ | ⟨pv, g', h1, hg, ⟨h2, _, h3⟩ | ⟨_, h2, h3⟩⟩
  · exact absurd rfl h
  · have hl : 0 < (named X P nm false ts).length := List.length_pos_iff.2 h2
    exact ⟨false, true, pv, g', h3, h1, hg, by simp; omega, by simp [hl]⟩
  · refine ⟨true, _, pv, g', h3, h1, hg, by simp [h2], ?_⟩
    rw [h2]
    cases named X P nm true ts <;> simp
/-- path[1:] -/
theorem path_rest {w : World} {g o c : Nat} {h nm : ByteArray} {Pq : List ByteArray} (hp : StrRow w (.slice (some ⟨g, o, none⟩) ((h :: Pq).length + 1) c) g ((h :: Pq) ++ [nm])) : StrRow w (.slice (some ⟨g, o + 1, none⟩) (Pq.length + 1) (c - 1)) g (Pq ++ [nm]) ∧ w.cell? ⟨g, o, none⟩ = some (.string h) ∧ Pq.length + 1 + 1 ≤ c ∧ c ≤ maxLen := by
  obtain ⟨⟨o', c', hv, h1, h2, h3⟩, h4⟩ := hp
  simp at hv
  obtain ⟨rfl, rfl⟩ := hv
  simp at h1
  refine ⟨⟨⟨o + 1, c - 1, by simp, by simp; omega, by omega, fun i p hp => ?_⟩, h4⟩, h3 0 h (by simp), by omega, h2⟩
  have := h3 (i + 1) p (by simpa using hp)
  rw [show o + 1 + i = o + (i + 1) by omega]
  exact this
/-- The values of Index 0. -/
theorem vals_zero {T X : ByteArray} {ts : List Stif.Tok} {i0 x0 : Nat} (hch : Stif.chain T X.size i0 x0 ts T.size X.size) (hn : NoNV ts) (P : List ByteArray) (nm : ByteArray) (nA : Bool) (h : nA = decide ((named X P nm false ts).length = 0)) : picks 0 (allv X ts (named X P nm nA ts)) = allv X ts (named X P nm false ts) := by
  rw [picks_zero]
  cases nA with
  | false => rfl
  | true =>
    have : named X P nm false ts = [] := by simpa using h.symm
    rw [nest_novals hch hn, this]
    rfl
/-- The block that was made right behind V. -/
theorem blk_ahead {V w7 : World} {ob : Obj} (hb : Below (V.alloc ob).drew.heap.size (V.alloc ob).drew w7) : w7.heap[V.heap.size]? = some ob := by
  have h1 : V.heap.size < (V.alloc ob).drew.heap.size := by simp
  rw [hb.block _ h1]
  exact World.alloc_heap_new V ob
theorem blk_ahead2 {V w7 : World} {ob : Obj} (hb : Below (V.alloc ob).heap.size (V.alloc ob) w7) : w7.heap[V.heap.size]? = some ob := by
  have h1 : V.heap.size < (V.alloc ob).heap.size := by simp
  rw [hb.block _ h1]
  exact World.alloc_heap_new V ob
theorem bw1 {V w7 : World} (hb : Below V.heap.size V w7) : Below V.heap.size V w7 := hb
theorem bw2 {V w7 : World} (hb : Below V.drew.heap.size V.drew w7) : Below V.heap.size V w7 := (Below.refl V.heap.size V).drew.trans (hb.mono (by simp))
theorem bw3 {V w7 : World} {ob : Obj} (hb : Below (V.alloc ob).heap.size (V.alloc ob) w7) : Below V.heap.size V w7 := ((Below.refl V.heap.size V).alloc (Nat.le_refl _) ob).trans (hb.mono (by simp))
theorem bw4 {V w7 : World} {ob : Obj} (hb : Below (V.alloc ob).drew.heap.size (V.alloc ob).drew w7) : Below V.heap.size V w7 := ((Below.refl V.heap.size V).alloc (Nat.le_refl _) ob).drew.trans (hb.mono (by simp))
theorem bw5 {V w7 : World} {ob : Obj} (hb : Below (V.drew.alloc ob).heap.size (V.drew.alloc ob) w7) : Below V.heap.size V w7 := ((Below.refl V.heap.size V).drew.alloc (Nat.le_refl _) ob).trans (hb.mono (by simp))
/-- Behind the drawn region: the box of what Resolve handed back. -/
structure Once (V wx : World) (b : Nat) (q : Value) (g' : Nat) (Pq : List ByteArray) (v0 v1 v2 v3 v4 v5 v6 v7 : Value) : Prop where
  below : Below V.heap.size V wx
  row : StrRow wx q g' Pq
  k0 : wx.cell? ⟨b, 0, none⟩ = some v0
  k1 : wx.cell? ⟨b, 1, none⟩ = some v1
  k2 : wx.cell? ⟨b, 2, none⟩ = some v2
  k3 : wx.cell? ⟨b, 3, none⟩ = some v3
  k4 : wx.cell? ⟨b, 4, none⟩ = some v4
  k5 : wx.cell? ⟨b, 5, none⟩ = some v5
  k6 : wx.cell? ⟨b, 6, none⟩ = some v6
  k7 : wx.cell? ⟨b, 7, none⟩ = some v7
theorem once_alloc {V w7 : World} {q : Value} {g' : Nat} {Pq : List ByteArray} {v0 v1 v2 v3 v4 v5 v6 v7 : Value} (hb : Below V.heap.size V w7) (hr : StrRow w7 q g' Pq) : Once V (w7.alloc (.cells #[v0, v1, v2, v3, v4, v5, v6, v7] 48)) w7.heap.size q g' Pq v0 v1 v2 v3 v4 v5 v6 v7 := by
  have hn := World.alloc_heap_new w7 (.cells #[v0, v1, v2, v3, v4, v5, v6, v7] 48)
  exact ⟨hb.alloc hb.size _, hr.below ((Below.refl _ _).alloc (Nat.le_refl _) _), cell_at hn rfl, cell_at hn rfl, cell_at hn rfl, cell_at hn rfl, cell_at hn rfl, cell_at hn rfl, cell_at hn rfl, cell_at hn rfl⟩
theorem cell_same {w : World} {b i : Nat} {v : Value} (h : ∃ u, w.cell? ⟨b, i, none⟩ = some u) : (w.setCell ⟨b, i, none⟩ v).cell? ⟨b, i, none⟩ = some v := by
  obtain ⟨u, h⟩ := h
  exact World.cell?_setCell_same w _ _ h
theorem cell_other {w : World} {b i j : Nat} {v u : Value} (hij : i ≠ j) (h : w.cell? ⟨b, i, none⟩ = some u) : (w.setCell ⟨b, j, none⟩ v).cell? ⟨b, i, none⟩ = some u :=
  (World.cell?_setCell_other w _ _ _ (fun e => hij (by cases e; rfl))).trans h
theorem once_set {V w7 : World} {b : Nat} {q : Value} {g' : Nat} {Pq : List ByteArray} {v0 v1 v2 v3 v4 v5 v6 v7 : Value} (hb : Below V.heap.size V w7) (hvb : V.heap.size ≤ b) (hr : StrRow w7 q g' Pq) (hg : g' ≠ b) (hc : ∀ i, i < 8 → ∃ u, w7.cell? ⟨b, i, none⟩ = some u) : Once V ((((((((w7.setCell ⟨b, 0, none⟩ v0).setCell ⟨b, 1, none⟩ v1).setCell ⟨b, 2, none⟩ v2).setCell ⟨b, 3, none⟩ v3).setCell ⟨b, 4, none⟩ v4).setCell ⟨b, 5, none⟩ v5).setCell ⟨b, 6, none⟩ v6).setCell ⟨b, 7, none⟩ v7) b q g' Pq v0 v1 v2 v3 v4 v5 v6 v7 := by
  have st : ∀ {w : World} (j : Nat) (v : Value), (∀ i, i < 8 → ∃ u, w.cell? ⟨b, i, none⟩ = some u) → ∀ i, i < 8 → ∃ u, (w.setCell ⟨b, j, none⟩ v).cell? ⟨b, i, none⟩ = some u := fun j v h i hi => by
    by_cases e : i = j
    · subst e; exact ⟨_, cell_same (h i hi)⟩
    · obtain ⟨u, hu⟩ := h i hi
      exact ⟨u, cell_other e hu⟩
  have h1 := st 0 v0 hc
  have h2 := st 1 v1 h1
  have h3 := st 2 v2 h2
  have h4 := st 3 v3 h3
  have h5 := st 4 v4 h4
  have h6 := st 5 v5 h5
  have h7 := st 6 v6 h6
  refine ⟨set8_below hb hvb, hr.of_block (set8_blk hg), ?_, ?_, ?_, ?_, ?_, ?_, ?_, ?_⟩
  · exact cell_other (by decide) (cell_other (by decide) (cell_other (by decide) (cell_other (by decide) (cell_other (by decide) (cell_other (by decide) (cell_other (by decide) (cell_same (hc 0 (by decide)))))))))
  · exact cell_other (by decide) (cell_other (by decide) (cell_other (by decide) (cell_other (by decide) (cell_other (by decide) (cell_other (by decide) (cell_same (h1 1 (by decide))))))))
  · exact cell_other (by decide) (cell_other (by decide) (cell_other (by decide) (cell_other (by decide) (cell_other (by decide) (cell_same (h2 2 (by decide)))))))
  · exact cell_other (by decide) (cell_other (by decide) (cell_other (by decide) (cell_other (by decide) (cell_same (h3 3 (by decide))))))
  · exact cell_other (by decide) (cell_other (by decide) (cell_other (by decide) (cell_same (h4 4 (by decide)))))
  · exact cell_other (by decide) (cell_other (by decide) (cell_same (h5 5 (by decide))))
  · exact cell_other (by decide) (cell_same (h6 6 (by decide)))
  · exact cell_same (h7 7 (by decide))
end Go.Proofs.Qxb6618677a
