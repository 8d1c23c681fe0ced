/-
  FnWalkStops: the plain side, and its gate on the arguments' sizes.
-/
import Derived.Test.Qxb6618677aRun
import Derived.Test.Qxb6618677aZw
namespace Go.Proofs.Qxb6618677a
open Go.RowKit

/-- All fields of the run, whatever is passed over. -/
def allF (ts : List Stif.Tok) : List (Nat × Stif.Tok) := (Stif.runN 0 ts).filter Stif.isField

theorem toList_length (b : ByteArray) : b.toList.length = b.size := by
  rw [ByteArray.toList_eq, Array.length_toList]; rfl
theorem into_every {T X av : ByteArray} {i0 x0 : Nat} {ts : List Stif.Tok} {md : Int} (hav : X.size < av.size) (hmd : (T.size : Int) < md) (hch : Stif.chain T X.size i0 x0 ts T.size X.size) : ∀ p ∈ Stif.runN 0 ts, p.2.kind = 2 → intoOf X av md p.1 p.2 = true := by
  intro p hp _
  have h1 := Stif.runN_depth ts 0 p hp
  have h2 := (Stif.chain_le hch).1
  have h3 : ((X.extract p.2.txt (p.2.txt + p.2.n)).toList == av.toList) = false := by
    rw [beq_eq_false_iff_ne]
    intro e
    have := congrArg List.length e
    rw [toList_length, toList_length, ByteArray.size_extract] at this
    omega
  unfold intoOf
  rw [h3]
  have h4 : decide ((p.1 : Int) < md) = true := by rw [decide_eq_true_eq]; omega
  rw [h4]; rfl
theorem flds_every {T X av : ByteArray} {i0 x0 : Nat} {ts : List Stif.Tok} {md : Int} (hav : X.size < av.size) (hmd : (T.size : Int) < md) (hch : Stif.chain T X.size i0 x0 ts T.size X.size) : Stif.flds (intoOf X av md) 0 0 ts = allF ts :=
  Stif.flds_all _ ts 0 (Stif.chain_kind hch) (into_every hav hmd hch)
theorem allF_len {T X : ByteArray} {i0 x0 : Nat} {ts : List Stif.Tok} (hch : Stif.chain T X.size i0 x0 ts T.size X.size) : (allF ts).length ≤ T.size := by
  have h1 := Stif.runN_length ts 0
  have h2 := (Stif.chain_le hch).1
  have h3 : (allF ts).length ≤ (Stif.runN 0 ts).length := List.length_filter_le ..
  omega
theorem flds_allF {T X av : ByteArray} {i0 x0 : Nat} {ts : List Stif.Tok} {md : Int} (hch : Stif.chain T X.size i0 x0 ts T.size X.size) : (Stif.flds (intoOf X av md) 0 0 ts).Sublist (allF ts) := by
  have h := into_every (av := X ++ ⟨#[33]⟩) (md := (T.size : Int) + 1) (by rw [ByteArray.size_append]; show X.size < X.size + 1; omega) (by omega) hch
  rw [← flds_every (av := X ++ ⟨#[33]⟩) (md := (T.size : Int) + 1) (by rw [ByteArray.size_append]; show X.size < X.size + 1; omega) (by omega) hch]
  exact Stif.flds_sub _ _ ts 0 0 h
theorem allF_order {T X : ByteArray} {i0 x0 : Nat} {ts : List Stif.Tok} (hch : Stif.chain T X.size i0 x0 ts T.size X.size) : (allF ts).Pairwise fun p q => p.2.tok < q.2.tok :=
  List.Pairwise.filter _ (Stif.runN_order 0 hch)
theorem allF_rise {T X : ByteArray} {i0 x0 : Nat} {ts : List Stif.Tok} (hch : Stif.chain T X.size i0 x0 ts T.size X.size) : Stif.Rise 0 (allF ts) := by
  rw [← flds_every (av := X ++ ⟨#[33]⟩) (md := (T.size : Int) + 1) (by rw [ByteArray.size_append]; show X.size < X.size + 1; omega) (by omega) hch]
  exact Stif.flds_rise _ ts 0 0

/-- The merge walk of a sublist along its list. -/
theorem merge_miss {F A : List (Nat × Stif.Tok)} {i j : Nat} {p q : Nat × Stif.Tok} (h : (F.drop i).Sublist (A.drop j)) (hp : F[i]? = some p) (hq : A[j]? = some q) (hne : q.2.tok ≠ p.2.tok) : (F.drop i).Sublist (A.drop (j + 1)) := by
  obtain ⟨hi, e1⟩ := List.getElem?_eq_some_iff.1 hp
  obtain ⟨hj, e2⟩ := List.getElem?_eq_some_iff.1 hq
  rw [List.drop_eq_getElem_cons hi, List.drop_eq_getElem_cons hj, e1, e2] at h
  rw [List.drop_eq_getElem_cons hi, e1]
  cases h with
  | cons _ h => exact h
  | cons_cons _ h => exact absurd rfl hne
theorem merge_hit {F A : List (Nat × Stif.Tok)} {i j : Nat} {p q : Nat × Stif.Tok} (hA : A.Pairwise fun p q => p.2.tok < q.2.tok) (h : (F.drop i).Sublist (A.drop j)) (hp : F[i]? = some p) (hq : A[j]? = some q) (he : q.2.tok = p.2.tok) : p = q ∧ (F.drop (i + 1)).Sublist (A.drop (j + 1)) := by
  obtain ⟨hi, e1⟩ := List.getElem?_eq_some_iff.1 hp
  obtain ⟨hj, e2⟩ := List.getElem?_eq_some_iff.1 hq
  have hA' : (A.drop j).Pairwise fun p q => p.2.tok < q.2.tok := hA.sublist (List.drop_sublist _ _)
  rw [List.drop_eq_getElem_cons hj, e2] at h hA'
  rw [List.drop_eq_getElem_cons hi, e1] at h
  cases h with
  | cons _ h =>
    have h1 : p ∈ A.drop (j + 1) := h.subset List.mem_cons_self
    have := (List.pairwise_cons.1 hA').1 p h1
    omega
  | cons_cons _ h => exact ⟨rfl, h⟩
theorem merge_end {F A : List (Nat × Stif.Tok)} {i j : Nat} (h : (F.drop i).Sublist (A.drop j)) (hi : i < F.length) : j < A.length := by
  have := h.length_le
  simp at this
  omega

theorem nodes_facts {T X : ByteArray} {L : List Stif.Tok} {st : Stif.St} (hch : Stif.chain T X.size 0 0 L T.size X.size) (hrun : Stif.run Stif.init L = some st) : st.nodes.length ≤ T.size ∧ ∀ d ∈ st.nodes, d.txt + d.n ≤ X.size := by
  have h1 := (Stif.run_good Stif.init_good hrun).2
  have h2 := (Stif.chain_le hch).1
  refine ⟨by simp [Stif.init] at h1; omega, fun d hd => ?_⟩
  rw [Stif.nodes_of_run (Stif.chain_kind hch) hrun] at hd
  obtain ⟨i, hi⟩ := List.getElem?_of_mem hd
  obtain ⟨A, t, B, o, hL, _, hdt, _⟩ := Stif.node_split hi
  rw [hdt]
  exact (Stif.chain_mem hch t (by rw [hL]; simp)).2.2

theorem box4 {w : World} {k : Nat} {a b c d : Value} {t : TypeId} (h : w.heap[k]? = some (.cells #[a, b, c, d] t (0, 0))) : w.cell? ⟨k, 0, none⟩ = some a ∧ w.cell? ⟨k, 1, none⟩ = some b ∧ w.cell? ⟨k, 2, none⟩ = some c ∧ w.cell? ⟨k, 3, none⟩ = some d :=
  ⟨cell_at h rfl, cell_at h rfl, cell_at h rfl, cell_at h rfl⟩
def cnt (R : List Stif.Node) : Nat := (R.filter fun d => !(d.kind == 1)).length
theorem cnt_take {R : List Stif.Node} {i : Nat} {d : Stif.Node} (hd : R[i]? = some d) : cnt (R.take (i + 1)) = cnt (R.take i) + (if d.kind = 1 then 0 else 1) := by
  obtain ⟨hi, rfl⟩ := List.getElem?_eq_some_iff.1 hd
  unfold cnt
  rw [List.take_succ_eq_append_getElem hi, List.filter_append, List.length_append]
  congr 1
  by_cases hk : R[i].kind = 1
  · simp [hk]
  · simp [hk]
theorem cnt_le (R : List Stif.Node) (i : Nat) : cnt (R.take i) ≤ i := by
  have h1 : cnt (R.take i) ≤ (R.take i).length := List.length_filter_le ..
  simp at h1; omega

/-- One cell of a row of ints. -/
theorem rowCell {w : World} {base g c : Nat} {F : List (Nat × Stif.Tok)} {f : Nat × Stif.Tok → Value} (h : w.ownsRow base 3 1 (.slice (some ⟨g, 0, none⟩) F.length c) F.length (F.map f)) {i : Nat} {p : Nat × Stif.Tok} (hp : F[i]? = some p) : w.cell? ⟨g, i, none⟩ = some (f p) := by
  rw [h.cellAt i (by have := (List.getElem?_eq_some_iff.1 hp).1; omega)]
  simp [hp]

/-- The five rows that ZZWalk hands back: three of them say something. -/
structure Yield (w : World) (B : Nat) (v4 v5 v6 v7 v8 : Value) (F : List (Nat × Stif.Tok)) : Prop where
  dep : w.ownsRow B 3 1 v4 F.length (F.map fun p => .int .i64 p.1)
  tok : w.ownsRow B 3 1 v5 F.length (F.map fun p => .int .i64 p.2.tok)
  txt : w.ownsRow B 3 1 v6 F.length (F.map fun p => .int .i64 p.2.txt)
  skip : w.ownsRow B 3 1 v7 F.length (F.map fun _ => .int .i64 0)
  same : w.ownsRow B 4 1 v8 F.length (F.map fun _ => .bool true)
theorem Yield.below {w w' : World} {B B' : Nat} {v4 v5 v6 v7 v8 : Value} {F : List (Nat × Stif.Tok)} (h : Yield w B v4 v5 v6 v7 v8 F) (hb : Below B' w w') (hB : w.heap.size ≤ B') : Yield w' B v4 v5 v6 v7 v8 F :=
  ⟨ownsRow_below h.dep hb hB, ownsRow_below h.tok hb hB, ownsRow_below h.txt hb hB, ownsRow_below h.skip hb hB, ownsRow_below h.same hb hB⟩

theorem zzwalk_yield (bt : Nat) (T X av : ByteArray) (md lim : Int) (ts : List Stif.Tok) (i0 x0 k0 : Nat) (w : World)
    (hT : T.size ≤ 1048576) (hX : X.size ≤ 1048576) (htr : IsTree w bt T X) (hch : Stif.chain T X.size i0 x0 ts T.size X.size) (hbal : Stif.bal k0 ts) :
    Calls Try.prog 15 #[.agg #[.pointer (some ⟨bt, 0, none⟩), .int .i64 i0, .int .i64 x0, .int .i64 0], .int .i64 md, .string av, .int .i64 lim] w fun e w' => Below w.heap.size w w' ∧
      ∃ v4 v5 v6 v7 v8, e = .returned (.tuple #[v4, v5, v6, v7, v8]) ∧ Yield w' w.heap.size v4 v5 v6 v7 v8 ((Stif.flds (intoOf X av md) 0 0 ts).take (max lim 1).toNat) := by
  have hlen : (Stif.flds (intoOf X av md) 0 0 ts).length ≤ 1048576 := by
    have h1 := (flds_allF (av := av) (md := md) hch).length_le
    have h2 := allF_len hch
    omega
  refine (callsIn_wide.1 (zzwalk_in bt T X av md lim ts i0 x0 k0 w hT hX htr hch hbal hlen)).mono ?_
  rintro e w' ⟨hb, v4, v5, v6, v7, v8, F, rfl, rfl, h4, h5, h6, h7, h8⟩
  exact ⟨hb, v4, v5, v6, v7, v8, rfl, h4, h5, h6, h7, h8⟩

/-- A world that ZZNewFields has left, with the box of its answer. -/
theorem laid {w : World} {T X : ByteArray} {tok txt skip : Int} {bx : Value} (hbx : bx = .pointer (some ⟨w.heap.size + 1, 0, none⟩)) :
    ∀ w', w' = (((w.alloc (.cells #[bx, .int .i64 tok, .int .i64 txt, .int .i64 skip] 35)).alloc (.cells #[.string T, .string X, .slice none 0 0] 74)).alloc (.cells #[bx, .int .i64 tok, .int .i64 txt, .int .i64 skip] 35)) →
      Below w.heap.size w w' ∧ IsTree w' (w.heap.size + 1) T X ∧ w'.heap[w.heap.size + 1 + 1]? = some (.cells #[.pointer (some ⟨w.heap.size + 1, 0, none⟩), .int .i64 tok, .int .i64 txt, .int .i64 skip] 35) := by
  rintro w' rfl
  subst hbx
  obtain ⟨h1, _, h3⟩ := allocs_spec [.cells #[.pointer (some ⟨w.heap.size + 1, 0, none⟩), .int .i64 tok, .int .i64 txt, .int .i64 skip] 35, .cells #[.string T, .string X, .slice none 0 0] 74, .cells #[.pointer (some ⟨w.heap.size + 1, 0, none⟩), .int .i64 tok, .int .i64 txt, .int .i64 skip] 35] w
  exact ⟨h1, ⟨h3 1⟩, h3 2⟩

set_option maxRecDepth 100000 in
set_option maxHeartbeats 1000000 in
theorem bytes19 (T X av : ByteArray) (a2 a3 a4 a5 a7 : Int) (w : World) :
    Calls Try.prog 19 #[.string T, .string X, .int .i64 a2, .int .i64 a3, .int .i64 a4, .int .i64 a5, .string av, .int .i64 a7] w fun e w' => w' = w ∧ (e = .returned (.bool false) ∨ e = .returned (.bool true) ∧ T.size + X.size + av.size ≤ 1048576) := by
  go_enter Try.func19, Try.ntmps19
  go_wp2
  all_goals go_ret
  all_goals first | exact ⟨rfl, .inl rfl⟩ | exact ⟨rfl, .inr ⟨rfl, by omega⟩⟩

end Go.Proofs.Qxb6618677a
