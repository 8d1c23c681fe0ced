/-
  A Named in a box, its path; (Field).Nest; the closure 'along' of (Named).fields.
-/
import Derived.Test.Qxb6618677aNm
namespace Go.Proofs.Qxb6618677a
open Go.RowKit

/-- A slice of strings as it lies in memory (in block g, from some offset on). -/
structure StrRow (w : World) (v : Value) (g : Nat) (P : List ByteArray) : Prop where
  ex : ∃ (o c : Nat), v = .slice (some ⟨g, o, none⟩) P.length c ∧ P.length ≤ c ∧ c ≤ maxLen ∧ ∀ (i : Nat) p, P[i]? = some p → w.cell? ⟨g, o + i, none⟩ = some (.string p)
  lt : g < w.heap.size
theorem StrRow.of_block {w w' : World} {v : Value} {g : Nat} {P : List ByteArray} (h : StrRow w v g P) (hb : w'.heap[g]? = w.heap[g]?) : StrRow w' v g P := by
  obtain ⟨⟨o, c, h1, h2, h3, h4⟩, h5⟩ := h
  refine ⟨⟨o, c, h1, h2, h3, fun i p hp => (World.cell?_of_block (w := w) hb).trans (h4 i p hp)⟩, ?_⟩
  have := Array.getElem?_eq_getElem h5
  exact (Array.getElem?_eq_some_iff.1 (hb.trans this)).1

/-- A Named in a box. -/
structure IsNamed (w : World) (bN bt : Nat) (nm : ByteArray) (nest : Bool) (i0 x0 : Nat) (pv : Value) (ix : Int) : Prop where
  blk : w.heap[bN]? = some (.cells #[.string nm, .bool nest, .pointer (some ⟨bt, 0, none⟩), .int .i64 i0, .int .i64 x0, .int .i64 0, pv, .int .i64 ix] 48 (0, 0))
theorem IsNamed.of_block {w w' : World} {bN bt : Nat} {nm : ByteArray} {nest : Bool} {i0 x0 : Nat} {pv : Value} {ix : Int} (h : IsNamed w bN bt nm nest i0 x0 pv ix) (hb : w'.heap[bN]? = w.heap[bN]?) : IsNamed w' bN bt nm nest i0 x0 pv ix := ⟨hb.trans h.blk⟩

/-- Along a path: into the nesting at depth d where it bears the path's d-th name. -/
def pathInto (X : ByteArray) (P : List ByteArray) (d : Nat) (t : Stif.Tok) : Bool := match P[d]? with
  | some p => (X.extract t.txt (t.txt + t.n)).toList == p.toList
  | none => false

set_option maxRecDepth 100000 in
set_option maxHeartbeats 1000000 in
theorem nest_any (bt : Nat) (T X : ByteArray) (i x : Nat) (t : Stif.Tok) (w : World) (hT : T.size ≤ 1048576) (h : IsTree w bt T X) (ht : Stif.tokAt T i x = some t) :
    Calls Try.prog 46 #[.agg #[.pointer (some ⟨bt, 0, none⟩), .int .i64 i, .int .i64 x, .int .i64 0]] w fun e w' => e = .returned (.bool ((t.kind : Int) == 2)) ∧ ∃ m0 : Nat, w' = (w.alloc (.cells #[.pointer (some ⟨bt, 0, none⟩), .int .i64 i, .int .i64 x, .int .i64 0] 78)).drewN m0 := by
  have hbt : bt < w.heap.size := (Array.getElem?_eq_some_iff.1 h.blk).1
  have c0 := h.c0
  have HH : Hid (IsTree w bt T X ∧ Stif.tokAt T i x = some t) := ⟨h, ht⟩
  clear h ht
  go_enter Try.func46, Try.ntmps46
  go_wp2
  go_quiet ((go_at_call 41; exact Calls.quiet_of_same (token_tok T i x t _ hT HH.out.2)))
  go_wp2
  go_ret
  exact ⟨rfl, _, rfl⟩

set_option maxRecDepth 100000 in
set_option maxHeartbeats 1000000 in
theorem along_any (bt bl bN g : Nat) (T X : ByteArray) (P : List ByteArray) (nm : ByteArray) (nest : Bool) (i0 x0 : Nat) (pv : Value) (ix : Int) (d i x : Nat) (t : Stif.Tok) (w : World) (hT : T.size ≤ 1048576) (hX : X.size ≤ 1048576) (h : IsTree w bt T X) (ht : Stif.tokAt T i x = some t) (hn : x + t.n ≤ X.size)
    (hl : w.heap[bl]? = some (.cells #[.int .i64 (P.length : Nat)] 3 (0, 0))) (hN : IsNamed w bN bt nm nest i0 x0 pv ix) (hp : StrRow w pv g P) :
    Calls Try.prog 45 #[.int .i64 d, .agg #[.pointer (some ⟨bt, 0, none⟩), .int .i64 i, .int .i64 x, .int .i64 0], .pointer (some ⟨bl, 0, none⟩), .pointer (some ⟨bN, 0, none⟩)] w fun e w' => e = .returned (.bool (pathInto X P d t)) ∧ Below w.heap.size w w' := by
  have hbt : bt < w.heap.size := (Array.getElem?_eq_some_iff.1 h.blk).1
  have hbl : bl < w.heap.size := (Array.getElem?_eq_some_iff.1 hl).1
  have hbN : bN < w.heap.size := (Array.getElem?_eq_some_iff.1 hN.blk).1
  have hm := cell_at (i := 0) hl rfl
  have ha := cell_at (i := 6) hN.blk rfl
  have hx2 : t.txt = x := (Stif.tokAt_some ht).2.2.1
  have HH : Hid (IsTree w bt T X ∧ Stif.tokAt T i x = some t ∧ t.txt = x) := ⟨h, ht, hx2⟩
  clear h ht hN hl hx2
  obtain ⟨o, c, rfl, hnc, hcm, hcells⟩ := hp.ex
  have hgl := hp.lt
  clear hp
  by_cases hd : d < P.length
  · have hdb : decide ((d : Int) < (P.length : Int)) = true := by simp; omega
    obtain ⟨p, hpd⟩ : ∃ p, P[d]? = some p := ⟨_, List.getElem?_eq_getElem hd⟩
    have cp := hcells d p hpd
    have HP : Hid (P[d]? = some p) := hpd
    clear hpd hcells
    go_enter Try.func45, Try.ntmps45
    go_wp2
    go_region_with ((go_at_call 32; refine (name_any bt T X i x t _ hT hX ?_ HH.out.2.1 hn).mono ?_; exact ⟨(HH.out.1.alloc _).blk⟩; rintro e w' ⟨rfl, nq, rfl⟩))
    all_goals go_wp2
    all_goals go_ret
    all_goals
      refine ⟨?_, below_drewN (((Below.refl _ _).alloc (Nat.le_refl _) _).alloc (by simp) _) _⟩
      unfold pathInto
      rw [HP.out, HH.out.2.2]
      rfl
  · have hdb : decide ((d : Int) < (P.length : Int)) = false := by simp; omega
    have HP : Hid (P[d]? = none) := List.getElem?_eq_none (by omega)
    clear hcells
    go_enter Try.func45, Try.ntmps45
    go_wp2
    go_quiet (fail)
    go_wp2
    go_ret
    refine ⟨?_, below_drewN ((Below.refl _ _).alloc (Nat.le_refl _) _) _⟩
    unfold pathInto
    rw [HP.out]
    rfl

end Go.Proofs.Qxb6618677a
