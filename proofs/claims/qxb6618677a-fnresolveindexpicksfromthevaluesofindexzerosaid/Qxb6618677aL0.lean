/-
  The law on Resolve's index: no path; a path beyond the gate.
-/
import Derived.Test.Qxb6618677aLr
import Derived.Test.Qxb6618677aWy
namespace Go.Proofs.Qxb6618677a
open Go.RowKit

set_option maxRecDepth 100000 in
theorem law6_big (pa : Option Addr) (n c : Nat) (ix : Int) (T X : ByteArray) (tok txt skip : Int) (w : World) (h : (1048576 : Int) < n) :
    Calls Try.prog 6 #[.slice pa n c, .int .i64 ix, .string T, .string X, .int .i64 tok, .int .i64 txt, .int .i64 skip] w fun e w' => e = .returned (.bool true) ∧ Below w.heap.size w w' := by
  go_enter Try.func6, Try.ntmps6
  go_wp2_with fail
  refine (bytes20_big _ n c _ _ _ _ _ _ _ h).mono ?_
  rintro e w ⟨rfl, rfl⟩
  go_wp2
  go_ret
  exact ⟨rfl, Below.refl _ _⟩

/-- The boxes of the law, no path given. -/
structure NB (w0 : World) (bl : List (Nat × Obj)) (w : World) : Prop where
  below : Below w0.heap.size w0 w
  boxes : ∀ p ∈ bl, w.heap[p.1]? = some p.2
theorem NB.next {w0 w w' : World} {bl : List (Nat × Obj)} (h : NB w0 bl w) (hb : Below w.heap.size w w') : NB w0 bl w' :=
  ⟨h.below.trans (hb.mono h.below.size), fun p hp => (hb.block _ (Array.getElem?_eq_some_iff.1 (h.boxes p hp)).1).trans (h.boxes p hp)⟩
theorem NB.box {w0 w : World} {bl : List (Nat × Obj)} (h : NB w0 bl w) (ob : Obj) : NB w0 ((w.heap.size, ob) :: bl) (w.alloc ob) := by
  have h' := h.next ((Below.refl _ w).alloc (Nat.le_refl _) ob)
  refine ⟨h'.below, fun p hp => ?_⟩
  rcases List.mem_cons.1 hp with rfl | hp
  · exact World.alloc_heap_new w ob
  · exact h'.boxes p hp

set_option maxRecDepth 100000 in
set_option maxHeartbeats 4000000 in
theorem law6_nil (pa : Option Addr) (c : Nat) (ix : Int) (T X : ByteArray) (tok txt skip : Int) (w : World) :
    Calls Try.prog 6 #[.slice pa 0 c, .int .i64 ix, .string T, .string X, .int .i64 tok, .int .i64 txt, .int .i64 skip] w fun e w' => e = .returned (.bool true) ∧ Below w.heap.size w w' := by
  have hn0 : ((0 : Nat) : Int) ≤ 1048576 := by omega
  go_enter Try.func6, Try.ntmps6
  go_wp2_with fail
  refine (bytes20_any _ 0 c [] _ _ _ _ _ _ _ hn0 ⟨rfl, by simp, fun i q hq => by simp at hq⟩).mono ?_
  rintro e w ⟨b, rfl, rfl⟩
  cases b with
  | false =>
    go_wp2
    go_ret
    exact ⟨rfl, Below.refl _ _⟩
  | true =>
  by_cases hT : (T.size : Int) ≤ 1048576
  case neg =>
    go_wp2
    go_ret
    exact ⟨rfl, Below.refl _ _⟩
  by_cases hX : (X.size : Int) ≤ 1048576
  case neg =>
    go_wp2
    go_ret
    exact ⟨rfl, Below.refl _ _⟩
  by_cases htot : (T.size : Int) + X.size ≤ 1048576
  case neg =>
    go_wp2
    all_goals (go_ret; exact ⟨rfl, Below.refl _ _⟩)
  go_wp2_with fail
  go_loopg [15, 16] 0 (fun gk tv iv wr => ∃ (t : Int), tv = .int .i64 t ∧ iv = .int .i64 0 ∧ wr = w)
  case atStart => exact ⟨_, rfl, rfl, rfl⟩
  case round =>
    obtain ⟨t, rfl, rfl, rfl⟩ := hrel
    go_wp2_with fail
    have hT' : T.size ≤ 1048576 := by omega
    have hX' : X.size ≤ 1048576 := by omega
    refine (parse_any _ _ _ hT' hX').mono ?_
    rintro e w1 ⟨hb1, rfl | ⟨v, L, st, rfl, hch, hrun, hop, hrow⟩⟩
    · dsimp only
      go_wp2
      go_ret
      exact ⟨rfl, hb1⟩
    obtain ⟨hnl', hns⟩ := nodes_facts hch hrun
    clear hch hrun hop
    dsimp only
    go_wp2_with fail
    refine (start_any v st.nodes _ _ _ _ _ hrow (by omega) (fun d hd => by have := hns d hd; omega)).mono ?_
    rintro e w2 ⟨hb2, ⟨b, rfl⟩ | ⟨b, rfl, rfl, hst⟩⟩
    · dsimp only
      go_wp2
      go_ret
      exact ⟨rfl, hb1.trans (hb2.mono hb1.size)⟩
    have HN : Hid (NB wr [] w2) := ⟨hb1.trans (hb2.mono hb1.size), fun p hp => by cases hp⟩
    clear hst hrow hns hb1 hb2
    dsimp only
    go_wp2_with (first | (go_at_call 14; refine (newFields_any _ _ _ _ _ _).mono ?_; rintro e w3 ⟨rfl, rfl⟩))
    have HN3 : Hid (NB wr [(w2.heap.size + 1 + 1, .cells #[.pointer (some ⟨w2.heap.size + 1, 0, none⟩), .int .i64 tok, .int .i64 txt, .int .i64 0] 35)] (((w2.alloc (.cells #[.pointer (some ⟨w2.heap.size + 1, 0, none⟩), .int .i64 tok, .int .i64 txt, .int .i64 0] 35)).alloc (.cells #[.string T, .string X, .slice none 0 0] 74)).alloc (.cells #[.pointer (some ⟨w2.heap.size + 1, 0, none⟩), .int .i64 tok, .int .i64 txt, .int .i64 0] 35))) := by
      obtain ⟨hb3, _, hbx3⟩ := laid (T := T) (X := X) (tok := tok) (txt := txt) (skip := 0) (w := w2) rfl _ rfl
      exact ⟨(HN.out.next hb3).below, fun p hp => by cases List.mem_singleton.1 hp; exact hbx3⟩
    clear HN
    generalize (((w2.alloc (.cells #[.pointer (some ⟨w2.heap.size + 1, 0, none⟩), .int .i64 tok, .int .i64 txt, .int .i64 0] 35)).alloc (.cells #[.string T, .string X, .slice none 0 0] 74)).alloc (.cells #[.pointer (some ⟨w2.heap.size + 1, 0, none⟩), .int .i64 tok, .int .i64 txt, .int .i64 0] 35)) = W3 at HN3 ⊢
    generalize w2.heap.size + 1 + 1 = b20 at HN3 ⊢
    generalize w2.heap.size + 1 = bt at HN3 ⊢
    refine (resolve_empty _ _ _ _ _ _ _ _).mono ?_
    rintro e w3 ⟨rfl, hb3⟩
    have HN4 : Hid (NB wr [(w3.heap.size, .cells #[.string ByteArray.empty, .bool false, .pointer none, .int .i64 0, .int .i64 0, .int .i64 0, .slice none 0 0, .int .i64 0] 48), (b20, .cells #[.pointer (some ⟨bt, 0, none⟩), .int .i64 tok, .int .i64 txt, .int .i64 0] 35)] (w3.alloc (.cells #[.string ByteArray.empty, .bool false, .pointer none, .int .i64 0, .int .i64 0, .int .i64 0, .slice none 0 0, .int .i64 0] 48))) := (HN3.out.next hb3).box _
    clear hb3 HN3
    dsimp only
    go_wp2_with fail
    refine (zzvalues_nil _).mono ?_
    rintro e w4 ⟨hb4, rfl⟩
    have HN5 : Hid (NB wr [(w3.heap.size, .cells #[.string ByteArray.empty, .bool false, .pointer none, .int .i64 0, .int .i64 0, .int .i64 0, .slice none 0 0, .int .i64 0] 48), (b20, .cells #[.pointer (some ⟨bt, 0, none⟩), .int .i64 tok, .int .i64 txt, .int .i64 0] 35)] w4) := HN4.out.next hb4
    clear hb4 HN4
    generalize w3.heap.size = b21 at HN5 ⊢
    have hb21 : w4.heap[b21]? = some (.cells #[.string ByteArray.empty, .bool false, .pointer none, .int .i64 0, .int .i64 0, .int .i64 0, .slice none 0 0, .int .i64 0] 48) := HN5.out.boxes (b21, .cells #[.string ByteArray.empty, .bool false, .pointer none, .int .i64 0, .int .i64 0, .int .i64 0, .slice none 0 0, .int .i64 0] 48) (by simp)
    have y0 : w4.cell? ⟨b21, 0, none⟩ = some (.string ByteArray.empty) := cell_at hb21 rfl
    have y1 : w4.cell? ⟨b21, 1, none⟩ = some (.bool false) := cell_at hb21 rfl
    have y2 : w4.cell? ⟨b21, 2, none⟩ = some (.pointer none) := cell_at hb21 rfl
    have y3 : w4.cell? ⟨b21, 3, none⟩ = some (.int .i64 0) := cell_at hb21 rfl
    have y4 : w4.cell? ⟨b21, 4, none⟩ = some (.int .i64 0) := cell_at hb21 rfl
    have y5 : w4.cell? ⟨b21, 5, none⟩ = some (.int .i64 0) := cell_at hb21 rfl
    have y6 : w4.cell? ⟨b21, 6, none⟩ = some (.slice none 0 0) := cell_at hb21 rfl
    have y7 : w4.cell? ⟨b21, 7, none⟩ = some (.int .i64 0) := cell_at hb21 rfl
    dsimp only
    go_wp2_with fail
    refine (namedParts_any _ _ _ _ _ _ _ _ _ _ _).mono ?_
    rintro e w5 ⟨rfl, hb5⟩
    have HN6 : Hid (NB wr [(w5.heap.size, .cells #[.pointer none, .int .i64 0, .int .i64 0, .int .i64 0] 35), (b21, .cells #[.string ByteArray.empty, .bool false, .pointer none, .int .i64 0, .int .i64 0, .int .i64 0, .slice none 0 0, .int .i64 0] 48), (b20, .cells #[.pointer (some ⟨bt, 0, none⟩), .int .i64 tok, .int .i64 txt, .int .i64 0] 35)] (w5.alloc (.cells #[.pointer none, .int .i64 0, .int .i64 0, .int .i64 0] 35))) := (HN5.out.next hb5).box _
    have hb20 : w5.heap[b20]? = some (.cells #[.pointer (some ⟨bt, 0, none⟩), .int .i64 tok, .int .i64 txt, .int .i64 0] 35) := (HN5.out.next hb5).boxes (b20, .cells #[.pointer (some ⟨bt, 0, none⟩), .int .i64 tok, .int .i64 txt, .int .i64 0] 35) (by simp)
    have l20 : b20 < w5.heap.size := (Array.getElem?_eq_some_iff.1 hb20).1
    have f0 : w5.cell? ⟨b20, 0, none⟩ = some (.pointer (some ⟨bt, 0, none⟩)) := cell_at hb20 rfl
    have f1 : w5.cell? ⟨b20, 1, none⟩ = some (.int .i64 tok) := cell_at hb20 rfl
    have f2 : w5.cell? ⟨b20, 2, none⟩ = some (.int .i64 txt) := cell_at hb20 rfl
    have f3 : w5.cell? ⟨b20, 3, none⟩ = some (.int .i64 0) := cell_at hb20 rfl
    clear hb5 HN5 hb21 y0 y1 y2 y3 y4 y5 y6 y7 hb20
    dsimp only
    go_wp2_with fail
    clear f0 f1 f2 f3 l20
    generalize w5.alloc (.cells #[.pointer none, .int .i64 0, .int .i64 0, .int .i64 0] 35) = W6 at HN6 ⊢
    generalize w5.heap.size = b24 at HN6 ⊢
    refine (resolve_empty _ _ _ _ _ _ _ _).mono ?_
    rintro e w7 ⟨rfl, hb7⟩
    have HN7 : Hid (NB wr [(w7.heap.size, .cells #[.string ByteArray.empty, .bool false, .pointer none, .int .i64 0, .int .i64 0, .int .i64 0, .slice none 0 0, .int .i64 0] 48), (b24, .cells #[.pointer none, .int .i64 0, .int .i64 0, .int .i64 0] 35), (b21, .cells #[.string ByteArray.empty, .bool false, .pointer none, .int .i64 0, .int .i64 0, .int .i64 0, .slice none 0 0, .int .i64 0] 48), (b20, .cells #[.pointer (some ⟨bt, 0, none⟩), .int .i64 tok, .int .i64 txt, .int .i64 0] 35)] (w7.alloc (.cells #[.string ByteArray.empty, .bool false, .pointer none, .int .i64 0, .int .i64 0, .int .i64 0, .slice none 0 0, .int .i64 0] 48))) := (HN6.out.next hb7).box _
    clear hb7 HN6
    dsimp only
    go_wp2_with fail
    refine (zzvalues_nil _).mono ?_
    rintro e w8 ⟨hb8, rfl⟩
    have HN8 : Hid (NB wr [(w7.heap.size, .cells #[.string ByteArray.empty, .bool false, .pointer none, .int .i64 0, .int .i64 0, .int .i64 0, .slice none 0 0, .int .i64 0] 48), (b24, .cells #[.pointer none, .int .i64 0, .int .i64 0, .int .i64 0] 35), (b21, .cells #[.string ByteArray.empty, .bool false, .pointer none, .int .i64 0, .int .i64 0, .int .i64 0, .slice none 0 0, .int .i64 0] 48), (b20, .cells #[.pointer (some ⟨bt, 0, none⟩), .int .i64 tok, .int .i64 txt, .int .i64 0] 35)] w8) := HN7.out.next hb8
    clear hb8 HN7
    generalize w7.heap.size = b27 at HN8 ⊢
    have hb27 : w8.heap[b27]? = some (.cells #[.string ByteArray.empty, .bool false, .pointer none, .int .i64 0, .int .i64 0, .int .i64 0, .slice none 0 0, .int .i64 0] 48) := HN8.out.boxes (b27, .cells #[.string ByteArray.empty, .bool false, .pointer none, .int .i64 0, .int .i64 0, .int .i64 0, .slice none 0 0, .int .i64 0] 48) (by simp)
    have y0 : w8.cell? ⟨b27, 0, none⟩ = some (.string ByteArray.empty) := cell_at hb27 rfl
    have y1 : w8.cell? ⟨b27, 1, none⟩ = some (.bool false) := cell_at hb27 rfl
    have y2 : w8.cell? ⟨b27, 2, none⟩ = some (.pointer none) := cell_at hb27 rfl
    have y3 : w8.cell? ⟨b27, 3, none⟩ = some (.int .i64 0) := cell_at hb27 rfl
    have y4 : w8.cell? ⟨b27, 4, none⟩ = some (.int .i64 0) := cell_at hb27 rfl
    have y5 : w8.cell? ⟨b27, 5, none⟩ = some (.int .i64 0) := cell_at hb27 rfl
    have y6 : w8.cell? ⟨b27, 6, none⟩ = some (.slice none 0 0) := cell_at hb27 rfl
    have y7 : w8.cell? ⟨b27, 7, none⟩ = some (.int .i64 0) := cell_at hb27 rfl
    dsimp only
    go_wp2_with fail
    refine (namedParts_any _ _ _ _ _ _ _ _ _ _ _).mono ?_
    rintro e w9 ⟨rfl, hb9⟩
    have HN9 : Hid (NB wr [(b27, .cells #[.string ByteArray.empty, .bool false, .pointer none, .int .i64 0, .int .i64 0, .int .i64 0, .slice none 0 0, .int .i64 0] 48), (b24, .cells #[.pointer none, .int .i64 0, .int .i64 0, .int .i64 0] 35), (b21, .cells #[.string ByteArray.empty, .bool false, .pointer none, .int .i64 0, .int .i64 0, .int .i64 0, .slice none 0 0, .int .i64 0] 48), (b20, .cells #[.pointer (some ⟨bt, 0, none⟩), .int .i64 tok, .int .i64 txt, .int .i64 0] 35)] w9) := HN8.out.next hb9
    have hb21 : w9.heap[b21]? = some (.cells #[.string ByteArray.empty, .bool false, .pointer none, .int .i64 0, .int .i64 0, .int .i64 0, .slice none 0 0, .int .i64 0] 48) := HN9.out.boxes (b21, .cells #[.string ByteArray.empty, .bool false, .pointer none, .int .i64 0, .int .i64 0, .int .i64 0, .slice none 0 0, .int .i64 0] 48) (by simp)
    have hb27' : w9.heap[b27]? = some (.cells #[.string ByteArray.empty, .bool false, .pointer none, .int .i64 0, .int .i64 0, .int .i64 0, .slice none 0 0, .int .i64 0] 48) := HN9.out.boxes (b27, .cells #[.string ByteArray.empty, .bool false, .pointer none, .int .i64 0, .int .i64 0, .int .i64 0, .slice none 0 0, .int .i64 0] 48) (by simp)
    have hb24 : w9.heap[b24]? = some (.cells #[.pointer none, .int .i64 0, .int .i64 0, .int .i64 0] 35) := HN9.out.boxes (b24, .cells #[.pointer none, .int .i64 0, .int .i64 0, .int .i64 0] 35) (by simp)
    have l21 : b21 < w9.heap.size := (Array.getElem?_eq_some_iff.1 hb21).1
    have l27 : b27 < w9.heap.size := (Array.getElem?_eq_some_iff.1 hb27').1
    have l24 : b24 < w9.heap.size := (Array.getElem?_eq_some_iff.1 hb24).1
    clear y0 y1 y2 y3 y4 y5 y6 y7 hb27 HN8 hb9
    have a0 : w9.cell? ⟨b21, 0, none⟩ = some (.string ByteArray.empty) := cell_at hb21 rfl
    have a1 : w9.cell? ⟨b21, 1, none⟩ = some (.bool false) := cell_at hb21 rfl
    have e0 : w9.cell? ⟨b27, 0, none⟩ = some (.string ByteArray.empty) := cell_at hb27' rfl
    have e1 : w9.cell? ⟨b27, 1, none⟩ = some (.bool false) := cell_at hb27' rfl
    have d0 : w9.cell? ⟨b24, 0, none⟩ = some (.pointer none) := cell_at hb24 rfl
    have d1 : w9.cell? ⟨b24, 1, none⟩ = some (.int .i64 0) := cell_at hb24 rfl
    have d2 : w9.cell? ⟨b24, 2, none⟩ = some (.int .i64 0) := cell_at hb24 rfl
    have d3 : w9.cell? ⟨b24, 3, none⟩ = some (.int .i64 0) := cell_at hb24 rfl
    have hen := Try.eqn
    dsimp only
    go_wp2
    go_ret
    exact ⟨rfl, HN9.out.below.alloc HN9.out.below.size _⟩
end Go.Proofs.Qxb6618677a
