/-
  SEVERAL SLICES THAT A LOOP FILLS SIDE BY SIDE: each in a box of its own, each owning a row of its own; what an append and the store of its value back into the box leave of the others.
-/
import Derived.RangeFuncNested
import Derived.RangeFuncBound
import Derived.RangeFuncCalls
import Derived.RangeFuncLeaves
import Derived.WalkKit
import Derived.Maps.AppendAt
import Derived.Maps.OwnIn
namespace Go.Proofs.Qxb6618677a
open Go.RowKit

/-- One slice: its box, the box's type, its elements' type, its value, what it holds. -/
structure Col where
  b : Nat
  tb : TypeId
  e : TypeId
  v : Value
  xs : List Value

structure ColIs (n1 : Nat) (W : World) (c : Col) : Prop where
  box : Boxed W c.b c.tb c.v
  row : W.ownsRow n1 c.e 1 c.v c.xs.length c.xs
  lt : c.b < n1

structure Cols (n1 : Nat) (W : World) (L : List Col) : Prop where
  each : ∀ c ∈ L, ColIs n1 W c
  sep : L.Pairwise fun c d => c.b ≠ d.b ∧ (c.v.ownBlock = none ∨ c.v.ownBlock ≠ d.v.ownBlock)

theorem ColIs.row_ge {n1 : Nat} {W : World} {c : Col} (h : ColIs n1 W c) {k : Nat} (hk : c.v.ownBlock = some k) : n1 ≤ k ∧ k < W.heap.size := h.row.lt k hk

/-- What turns when the boxes Bs and rows of the types es beyond n1 are written. -/
structure Upd (n1 : Nat) (Bs : List Nat) (es : List TypeId) (W W' : World) : Prop where
  os : W'.os = W.os
  tape : W'.tape = W.tape
  output : W'.output = W.output
  size : W.heap.size ≤ W'.heap.size
  kept : ∀ (k : Nat) (o : Obj), W.heap[k]? = some o → k ∉ Bs → (k < n1 ∨ ∀ c t fr, o = .cells c t fr → t ∉ es) → W'.heap[k]? = some o

theorem Upd.refl (n1 : Nat) (Bs : List Nat) (es : List TypeId) (W : World) : Upd n1 Bs es W W := ⟨rfl, rfl, rfl, Nat.le_refl _, fun _ _ h _ _ => h⟩
theorem Upd.trans {n1 : Nat} {Bs : List Nat} {es : List TypeId} {A B C : World} (h : Upd n1 Bs es A B) (k : Upd n1 Bs es B C) : Upd n1 Bs es A C :=
  ⟨k.os.trans h.os, k.tape.trans h.tape, k.output.trans h.output, Nat.le_trans h.size k.size, fun i o hi hB ho => k.kept i o (h.kept i o hi hB ho) hB ho⟩
theorem Upd.below {n1 : Nat} {Bs : List Nat} {es : List TypeId} {A B : World} (h : Below A.heap.size A B) : Upd n1 Bs es A B :=
  ⟨h.os, h.tape, h.output, h.size, fun i _ hi _ _ => (h.block i (Array.getElem?_eq_some_iff.1 hi).1).trans hi⟩
theorem Upd.alloc {n1 : Nat} {Bs : List Nat} {es : List TypeId} {A B : World} (h : Upd n1 Bs es A B) (o : Obj) : Upd n1 Bs es A (B.alloc o) :=
  h.trans (Upd.below ((Below.refl _ _).alloc (Nat.le_refl _) o))
theorem Upd.toBelow {n0 n1 : Nat} {Bs : List Nat} {es : List TypeId} {A B : World} (h : Upd n1 Bs es A B) (hn : n0 ≤ n1) (hA : n1 ≤ A.heap.size) (hB : ∀ b ∈ Bs, n0 ≤ b) : Below n0 A B :=
  ⟨h.os, h.tape, h.output, h.size, fun k hk => by
    have hlt : k < A.heap.size := by omega
    rw [Array.getElem?_eq_getElem hlt]
    exact h.kept k _ (Array.getElem?_eq_getElem hlt) (fun hm => by have := hB k hm; omega) (.inl (by omega))⟩
theorem Upd.from {n1 : Nat} {Bs : List Nat} {es : List TypeId} {A B : World} (h : Upd n1 Bs es A B) (hB : ∀ b ∈ Bs, b < n1) : KeepsFrom n1 A B :=
  ⟨h.size, fun k o hk ho hc => h.kept k o ho (fun hm => by have := hB k hm; omega) (.inr fun c t fr e => by subst e; simp [Obj.isCells] at hc)⟩

theorem Upd.grown {n1 : Nat} {Bs : List Nat} {es : List TypeId} {W0 X Y : World} (h : Upd n1 Bs es W0 X) (hn : W0.heap.size ≤ n1) {row : Option Nat} (hg : X.grownBy Y row) (hr : ∀ r, row = some r → n1 ≤ r) : Upd n1 Bs es W0 Y :=
  ⟨hg.os.trans h.os, hg.tape.trans h.tape, hg.output.trans h.output, Nat.le_trans h.size hg.size, fun k o ho hB ht => by
    have hlt := (Array.getElem?_eq_some_iff.1 ho).1
    have hx := h.kept k o ho hB ht
    rw [hg.block k (Array.getElem?_eq_some_iff.1 hx).1 (fun e => by have := hr k e.symm; omega)]
    exact hx⟩

theorem Upd.mono {n1 : Nat} {Bs Bs' : List Nat} {es : List TypeId} {A B : World} (h : Upd n1 Bs es A B) (hs : ∀ b ∈ Bs, b ∈ Bs') : Upd n1 Bs' es A B :=
  ⟨h.os, h.tape, h.output, h.size, fun k o ho hB ht => h.kept k o ho (fun hm => hB (hs k hm)) ht⟩

theorem Cols.kept {n1 : Nat} {W W' : World} {L : List Col} (h : Cols n1 W L) {row : Option Nat} (hg : W.grownBy W' row) (hrow : ∀ r, row = some r → ∃ o : Obj, W.heap[r]? = some o ∧ o.isCells = false) : Cols n1 W' L :=
  ⟨fun c hc => by
    have hi := h.each c hc
    refine ⟨hi.box.kept hg (fun e => ?_), hi.row.kept hg ?_, hi.lt⟩
    · obtain ⟨o, ho, hoc⟩ := hrow _ e.symm
      rw [show W.heap[c.b]? = _ from hi.box] at ho
      cases ho
      simp [Obj.isCells] at hoc
    · rcases hi.row.2 with ⟨hv, _⟩ | ⟨g, cap, cur, hv, _, hh, _⟩
      · exact .inl (by rw [hv]; rfl)
      · refine .inr fun e => ?_
        rw [hv] at e
        obtain ⟨o, ho, hoc⟩ := hrow g e.symm
        rw [hh] at ho
        cases ho
        simp [Obj.isCells] at hoc, h.sep⟩
theorem Cols.below {n1 : Nat} {W W' : World} {L : List Col} (h : Cols n1 W L) (hb : Below W.heap.size W W') : Cols n1 W' L :=
  h.kept (row := none) ⟨hb.os, hb.tape, hb.output, hb.size, fun k hk _ => hb.block k hk⟩ (fun r e => by cases e)
theorem Cols.alloc {n1 : Nat} {W : World} {L : List Col} (h : Cols n1 W L) (o : Obj) : Cols n1 (W.alloc o) L := h.below ((Below.refl _ _).alloc (Nat.le_refl _) o)

/-- THE ONE LEMMA: one slice appended to, its value stored back into its box. -/
theorem Cols.step {n1 : Nat} {W w1 : World} {A B : List Col} {c : Col} {v' x : Value} {tmp : Obj} {es : List TypeId} (h : Cols n1 W (A ++ c :: B)) (hes : c.e ∈ es)
    (hown : w1.ownsRow n1 c.e 1 v' (c.xs.length + 1) (c.xs ++ [x])) (hg : (W.alloc tmp).grownBy w1 c.v.ownBlock) (hat : v'.ownBlock = c.v.ownBlock ∨ v'.ownBlock = some (W.heap.size + 1)) :
    w1.cell? ⟨c.b, 0, none⟩ = some c.v ∧ w1.frozen? ⟨c.b, 0, none⟩ = false ∧
    Cols n1 (w1.setCell ⟨c.b, 0, none⟩ v') (A ++ { c with v := v', xs := c.xs ++ [x] } :: B) ∧ Upd n1 [c.b] es W (w1.setCell ⟨c.b, 0, none⟩ v') := by
  have hc := h.each c (by simp)
  -- every other block
  have hk : ∀ (k : Nat) (o : Obj), W.heap[k]? = some o → some k ≠ c.v.ownBlock → w1.heap[k]? = some o := fun k o ho hne => by
    have hlt := (Array.getElem?_eq_some_iff.1 ho).1
    rw [hg.block k (by simp; omega) hne, Below.heap_alloc _ _ _ hlt]
    exact ho
  have hbne : ∀ k, k < n1 → some k ≠ c.v.ownBlock := fun k hk e => by have := (hc.row_ge e.symm).1; omega
  have hbox1 : Boxed w1 c.b c.tb c.v := hk _ _ hc.box (hbne _ hc.lt)
  have hset : ∀ k, k ≠ c.b → (w1.setCell ⟨c.b, 0, none⟩ v').heap[k]? = w1.heap[k]? := fun k hne => Below.heap_setCell _ _ _ _ hne
  have hsz : W.heap.size ≤ w1.heap.size := by have := hg.size; simp at this; omega
  refine ⟨hbox1.cell, hbox1.frozen, ⟨fun d hd => ?_, ?_⟩, ⟨hg.os, hg.tape, hg.output, by simpa using hsz, fun k o ho hB ht => ?_⟩⟩
  · rcases List.mem_append.1 hd with hd | hd
    · have hdi := h.each d (List.mem_append_left _ hd)
      have hs := (List.pairwise_append.1 h.sep).2.2 d hd c (by simp)
      refine ⟨?_, ?_, hdi.lt⟩
      · show _ = _
        rw [hset _ hs.1]
        exact hk _ _ hdi.box (hbne _ hdi.lt)
      · rcases hdi.row.2 with ⟨hv, h0⟩ | ⟨g, cap, cur, hv, hgb, hh, hr⟩
        · exact ⟨hdi.row.1, .inl ⟨hv, h0⟩⟩
        · refine ⟨hdi.row.1, .inr ⟨g, cap, cur, hv, hgb, ?_, hr⟩⟩
          rw [hset _ (by have := hc.lt; omega)]
          refine hk _ _ hh fun e => ?_
          rcases hs.2 with h1 | h1
          · rw [hv] at h1; cases h1
          · exact h1 (by rw [hv]; exact e)
    · rcases List.mem_cons.1 hd with rfl | hd
      · refine ⟨hbox1.set v', ?_, hc.lt⟩
        have := ownsRow_setCell_other hown (a := ⟨c.b, 0, none⟩) (fun e => by have := (hown.lt _ e).1; have := hc.lt; simp at *; omega) v'
        simpa using this
      · have hdi := h.each d (List.mem_append_right _ (List.mem_cons_of_mem _ hd))
        have hs := (List.pairwise_cons.1 (List.pairwise_append.1 h.sep).2.1).1 d hd
        refine ⟨?_, ?_, hdi.lt⟩
        · show _ = _
          rw [hset _ (Ne.symm hs.1)]
          exact hk _ _ hdi.box (hbne _ hdi.lt)
        · rcases hdi.row.2 with ⟨hv, h0⟩ | ⟨g, cap, cur, hv, hgb, hh, hr⟩
          · exact ⟨hdi.row.1, .inl ⟨hv, h0⟩⟩
          · refine ⟨hdi.row.1, .inr ⟨g, cap, cur, hv, hgb, ?_, hr⟩⟩
            rw [hset _ (by have := hc.lt; omega)]
            refine hk _ _ hh fun e => ?_
            rcases hs.2 with h1 | h1
            · rw [h1] at e; cases e
            · exact h1 (by rw [hv]; exact e.symm)
  · have hfresh : ∀ d ∈ A ++ c :: B, d.v.ownBlock ≠ some (W.heap.size + 1) := fun d hd e => by
      have := ((h.each d hd).row_ge e).2
      omega
    obtain ⟨pA, pcB, pAc⟩ := List.pairwise_append.1 h.sep
    obtain ⟨pc, pB⟩ := List.pairwise_cons.1 pcB
    refine List.pairwise_append.2 ⟨pA, List.pairwise_cons.2 ⟨fun d hd => ⟨(pc d hd).1, ?_⟩, pB⟩, fun d hd e he => ?_⟩
    · rcases hat with ha | ha
      · rw [ha]; exact (pc d hd).2
      · refine .inr ?_
        rw [ha]
        exact Ne.symm (hfresh d (List.mem_append_right _ (List.mem_cons_of_mem _ hd)))
    · rcases List.mem_cons.1 he with rfl | he
      · refine ⟨(pAc d hd c (by simp)).1, ?_⟩
        rcases hat with ha | ha
        · show d.v.ownBlock = none ∨ d.v.ownBlock ≠ v'.ownBlock
          rw [ha]; exact (pAc d hd c (by simp)).2
        · refine .inr ?_
          show d.v.ownBlock ≠ v'.ownBlock
          rw [ha]
          exact hfresh d (List.mem_append_left _ hd)
      · exact pAc d hd e (List.mem_cons_of_mem _ he)
  · rw [hset _ (by simpa using hB)]
    refine hk k o ho fun e => ?_
    rcases ht with ht | ht
    · exact hbne k ht e
    · rcases hc.row.2 with ⟨hv, _⟩ | ⟨g, cap, cur, hv, _, hh, _⟩
      · rw [hv] at e; cases e
      · rw [hv] at e
        cases e
        rw [hh] at ho
        cases ho
        exact ht _ _ _ rfl hes

theorem Cols.nils {n1 : Nat} {W : World} {L : List Col} (h : ∀ c ∈ L, Boxed W c.b c.tb (.slice none 0 0) ∧ c.v = .slice none 0 0 ∧ c.xs = [] ∧ c.b < n1) (hs : L.Pairwise fun c d => c.b ≠ d.b) : Cols n1 W L :=
  ⟨fun c hc => by
    obtain ⟨h1, h2, h3, h4⟩ := h c hc
    exact ⟨by rw [h2]; exact h1, by rw [h2, h3]; exact World.ownsRow_nil _ _ _ _, h4⟩,
   hs.imp_of_mem fun {c d} hc _ hcd => ⟨hcd, .inl (by rw [(h c hc).2.1]; rfl)⟩⟩

end Go.Proofs.Qxb6618677a
