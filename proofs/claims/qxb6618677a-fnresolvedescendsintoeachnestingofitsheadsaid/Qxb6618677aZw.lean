/-
  stif.ZZWalk: five slices filled by a loop over the walk.
-/
import Derived.Test.Qxb6618677aWk
import Derived.Test.Qxb6618677aPz
import Derived.Test.Qxb6618677aCol
import Derived.Sort.CutIn
import Derived.Deep.DeepMust
import Derived.LaidEqlPtr
namespace Go.Proofs.Qxb6618677a
open Go.RowKit Go.Shelf
attribute [local go_sem] Oper.semAt_some

def intoOf (X av : ByteArray) (md : Int) (d : Nat) (t : Stif.Tok) : Bool := decide ((d : Int) < md) && !((X.extract t.txt (t.txt + t.n)).toList == av.toList)

theorem Try.info74 : (Try.prog.info? 74).map (fun i => i.size) = some 3 := by kernel_rfl
theorem Try.info4 : (Try.prog.info? 4).map (fun i => (i.zero, i.size, i.bytes)) = some (some (.bool false), 1, 1) := by kernel_rfl
theorem Try.funcNil76 (fn : Fn) (f c : Array Value) (w : World) : (binOp .eql 76 (.func fn f c) .nilFunc).run Try.prog w = .ok (.bool false) w := by kernel_rfl

def allocs (w : World) : List Obj → World
  | [] => w
  | o :: r => allocs (w.alloc o) r
theorem allocs_spec : ∀ (L : List Obj) (w : World), Below w.heap.size w (allocs w L) ∧ (allocs w L).heap.size = w.heap.size + L.length ∧ ∀ j, (allocs w L).heap[w.heap.size + j]? = L[j]?
  | [], w => ⟨Below.refl _ _, rfl, fun j => by simp [allocs]⟩
  | o :: r, w => by
    obtain ⟨h1, h2, h3⟩ := allocs_spec r (w.alloc o)
    rw [World.size_alloc] at h1 h2
    refine ⟨((Below.refl _ w).alloc (Nat.le_refl _) o).trans (h1.mono (by omega)), by simp only [allocs, h2, List.length_cons]; omega, fun j => ?_⟩
    cases j with
    | zero =>
      show (allocs (w.alloc o) r).heap[w.heap.size]? = _
      rw [h1.block _ (by omega)]
      simpa using World.alloc_heap_new w o
    | succ j =>
      have := h3 j
      rw [World.size_alloc] at this
      show (allocs (w.alloc o) r).heap[w.heap.size + (j + 1)]? = _
      rw [show w.heap.size + (j + 1) = w.heap.size + 1 + j by omega, this]
      simp

/-- What the five slices hold when the fields of pre have come. -/
def colsOf (b4 b5 b6 b7 b8 : Nat) (v4 v5 v6 v7 v8 : Value) (pre : List (Nat × Stif.Tok)) : List Col :=
  [⟨b4, 37, 3, v4, pre.map fun p => .int .i64 p.1⟩, ⟨b5, 37, 3, v5, pre.map fun p => .int .i64 p.2.tok⟩, ⟨b6, 37, 3, v6, pre.map fun p => .int .i64 p.2.txt⟩, ⟨b7, 37, 3, v7, pre.map fun _ => .int .i64 0⟩, ⟨b8, 38, 4, v8, pre.map fun _ => .bool true⟩]

def frameOf (bt b0 b1 b2 b3 b4 b5 b6 b7 b8 b9 b10 bx i0 x0 : Nat) (md lim : Int) (av : ByteArray) (p : Nat × Stif.Tok) : Act := { tmps := #[.agg #[.pointer (some ⟨bt, 0, none⟩), .int .i64 i0, .int .i64 x0, .int .i64 0], .int .i64 md, .string av, .int .i64 lim, .pointer (some ⟨b0, 0, none⟩), .pointer (some ⟨b1, 0, none⟩), .pointer (some ⟨b2, 0, none⟩), .pointer (some ⟨b3, 0, none⟩), .pointer (some ⟨b4, 0, none⟩), .pointer (some ⟨b5, 0, none⟩), .pointer (some ⟨b6, 0, none⟩), .pointer (some ⟨b7, 0, none⟩), .pointer (some ⟨b8, 0, none⟩), .func (.func 40) #[] #[.pointer (some ⟨b9, 0, none⟩), .pointer (some ⟨b10, 0, none⟩)], .int .i64 p.1, .pointer (some ⟨bx, 0, none⟩), .agg #[.pointer (some ⟨bt, 0, none⟩), .int .i64 i0, .int .i64 x0, .int .i64 0], .func (.func 31) #[] #[.pointer (some ⟨b1, 0, none⟩), .pointer (some ⟨b2, 0, none⟩)], .func (.func 40) #[] #[.pointer (some ⟨b9, 0, none⟩), .pointer (some ⟨b10, 0, none⟩)], .func (.func 40) #[] #[.pointer (some ⟨b9, 0, none⟩), .pointer (some ⟨b10, 0, none⟩)], .bool false, .func (.func 40) #[] #[.pointer (some ⟨b9, 0, none⟩), .pointer (some ⟨b10, 0, none⟩)], .int .i64 p.1, .agg #[.pointer (some ⟨bt, 0, none⟩), .int .i64 p.2.tok, .int .i64 p.2.txt, .int .i64 0], undef, undef, undef, undef, undef, undef, undef, undef, undef, undef, undef, undef, undef, undef, undef, undef, undef, undef, undef, undef, undef, undef, undef, undef, undef, undef, undef, undef, undef, undef, undef], defers := [] }

theorem Upd.keep {n1 : Nat} {Bs : List Nat} {es : List TypeId} {Y : Nat → Prop} {A B : World} (h : Upd n1 Bs es A B) (hA : n1 ≤ A.heap.size) (hB : ∀ b ∈ Bs, ∃ t v, Boxed A b t v ∧ ¬ Y t) (hY : ∀ t ∈ es, ¬ Y t) : Keep (fun k => k < n1 ∧ k ∉ Bs) Y A B :=
  ⟨fun k hk => by
    have hlt : k < A.heap.size := by have := hk.1; omega
    rw [Array.getElem?_eq_getElem hlt]
    exact h.kept k _ (Array.getElem?_eq_getElem hlt) hk.2 (.inl hk.1),
   fun k c t fr ht hc => h.kept k _ hc (fun hm => by
    obtain ⟨t', v, hb, hn⟩ := hB k hm
    rw [show A.heap[k]? = _ from hb] at hc
    cases hc
    exact hn ht) (.inr fun c' t' fr' e hm => by cases e; exact hY _ hm ht)⟩

theorem boxed_of {n1 : Nat} {W : World} {b4 b5 b6 b7 b8 : Nat} {v4 v5 v6 v7 v8 : Value} {pre : List (Nat × Stif.Tok)} (h : Cols n1 W (colsOf b4 b5 b6 b7 b8 v4 v5 v6 v7 v8 pre)) : ∀ b ∈ [b4, b5, b6, b7, b8], ∃ t v, Boxed W b t v ∧ ¬ t = 78 := by
  intro b hb
  simp only [List.mem_cons, List.not_mem_nil, or_false] at hb
  rcases hb with rfl | rfl | rfl | rfl | rfl
  · exact ⟨37, v4, (h.each ⟨b, 37, 3, v4, pre.map fun p => .int .i64 p.1⟩ (by simp [colsOf])).box, by decide⟩
  · exact ⟨37, v5, (h.each ⟨b, 37, 3, v5, pre.map fun p => .int .i64 p.2.tok⟩ (by simp [colsOf])).box, by decide⟩
  · exact ⟨37, v6, (h.each ⟨b, 37, 3, v6, pre.map fun p => .int .i64 p.2.txt⟩ (by simp [colsOf])).box, by decide⟩
  · exact ⟨37, v7, (h.each ⟨b, 37, 3, v7, pre.map fun _ => .int .i64 0⟩ (by simp [colsOf])).box, by decide⟩
  · exact ⟨38, v8, (h.each ⟨b, 38, 4, v8, pre.map fun _ => .bool true⟩ (by simp [colsOf])).box, by decide⟩

/-- What the function hands back, read behind the loop. -/
theorem ends_of {w W0 W : World} {b4 b5 b6 b7 b8 D : Nat} {v4 v5 v6 v7 v8 : Value} {F G : List (Nat × Stif.Tok)} (hA : Below w.heap.size w W0) (hU : Upd W0.heap.size [b4, b5, b6, b7, b8] [3, 4] W0 W) (hC : Cols W0.heap.size W (colsOf b4 b5 b6 b7 b8 v4 v5 v6 v7 v8 F))
    (hK : W.heap[D]? = some (.deferred (some []))) (hD : W0.heap.size ≤ D) (hB : ∀ b ∈ [b4, b5, b6, b7, b8], w.heap.size ≤ b) (hs : w.heap.size ≤ W0.heap.size) (hF : F = G) :
    (W.putObj D (.deferred none)).cell? ⟨b4, 0, none⟩ = some v4 ∧ (W.putObj D (.deferred none)).cell? ⟨b5, 0, none⟩ = some v5 ∧ (W.putObj D (.deferred none)).cell? ⟨b6, 0, none⟩ = some v6 ∧ (W.putObj D (.deferred none)).cell? ⟨b7, 0, none⟩ = some v7 ∧ (W.putObj D (.deferred none)).cell? ⟨b8, 0, none⟩ = some v8 ∧
    Below w.heap.size w (W.putObj D (.deferred none)) ∧ ∃ u4 u5 u6 u7 u8 F', Ending.returned (.tuple #[v4, v5, v6, v7, v8]) = .returned (.tuple #[u4, u5, u6, u7, u8]) ∧ F' = G ∧
      (W.putObj D (.deferred none)).ownsRow w.heap.size 3 1 u4 F'.length (F'.map fun p => .int .i64 p.1) ∧ (W.putObj D (.deferred none)).ownsRow w.heap.size 3 1 u5 F'.length (F'.map fun p => .int .i64 p.2.tok) ∧ (W.putObj D (.deferred none)).ownsRow w.heap.size 3 1 u6 F'.length (F'.map fun p => .int .i64 p.2.txt) ∧ (W.putObj D (.deferred none)).ownsRow w.heap.size 3 1 u7 F'.length (F'.map fun _ => .int .i64 0) ∧ (W.putObj D (.deferred none)).ownsRow w.heap.size 4 1 u8 F'.length (F'.map fun _ => .bool true) := by
  have hC' : Cols W0.heap.size (W.putObj D (.deferred none)) (colsOf b4 b5 b6 b7 b8 v4 v5 v6 v7 v8 F) := hC.kept (grownBy_putObj' _ _ _) (fun r e => by cases e; exact ⟨_, hK, rfl⟩)
  have hb : Below w.heap.size w (W.putObj D (.deferred none)) := (hA.trans (hU.toBelow hs (Nat.le_refl _) hB)).trans (belowK_b (w := W0) hs W D _ _ hD hK rfl rfl)
  have hk : ∀ c ∈ colsOf b4 b5 b6 b7 b8 v4 v5 v6 v7 v8 F, ColIs W0.heap.size (W.putObj D (.deferred none)) c := hC'.each
  simp only [colsOf, List.mem_cons, List.not_mem_nil, or_false, forall_eq_or_imp, forall_eq] at hk
  obtain ⟨k4, k5, k6, k7, k8⟩ := hk
  have mono : ∀ {e : TypeId} {v : Value} {n : Nat} {xs : List Value}, (W.putObj D (.deferred none)).ownsRow W0.heap.size e 1 v n xs → (W.putObj D (.deferred none)).ownsRow w.heap.size e 1 v n xs := fun h => by
    rcases h.2 with ⟨h1, h2⟩ | ⟨g, cap, cur, hv, hg, hr⟩
    · exact ⟨h.1, .inl ⟨h1, h2⟩⟩
    · exact ⟨h.1, .inr ⟨g, cap, cur, hv, by omega, hr⟩⟩
  refine ⟨k4.box.cell, k5.box.cell, k6.box.cell, k7.box.cell, k8.box.cell, hb, v4, v5, v6, v7, v8, F, rfl, hF, ?_, ?_, ?_, ?_, ?_⟩
  · simpa using mono k4.row
  · simpa using mono k5.row
  · simpa using mono k6.row
  · simpa using mono k7.row
  · simpa using mono k8.row

set_option maxRecDepth 100000 in
set_option maxHeartbeats 2000000 in
theorem zzwalk_in (bt : Nat) (T X av : ByteArray) (md lim : Int) (ts0 : List Stif.Tok) (i0 x0 k0 : Nat) (w : World)
    (hT : T.size ≤ 1048576) (hX : X.size ≤ 1048576) (htr : IsTree w bt T X) (hch : Stif.chain T X.size i0 x0 ts0 T.size X.size) (hbal : Stif.bal k0 ts0) (hlen : (Stif.flds (intoOf X av md) 0 0 ts0).length ≤ 1048576) :
    CallsIn Fence.wide 5 Try.prog 15 #[.agg #[.pointer (some ⟨bt, 0, none⟩), .int .i64 i0, .int .i64 x0, .int .i64 0], .int .i64 md, .string av, .int .i64 lim] w fun e w' => Below w.heap.size w w' ∧
      ∃ v4 v5 v6 v7 v8 F, e = .returned (.tuple #[v4, v5, v6, v7, v8]) ∧ F = (Stif.flds (intoOf X av md) 0 0 ts0).take (max lim 1).toNat ∧
        w'.ownsRow w.heap.size 3 1 v4 F.length (F.map fun p => .int .i64 p.1) ∧ w'.ownsRow w.heap.size 3 1 v5 F.length (F.map fun p => .int .i64 p.2.tok) ∧ w'.ownsRow w.heap.size 3 1 v6 F.length (F.map fun p => .int .i64 p.2.txt) ∧ w'.ownsRow w.heap.size 3 1 v7 F.length (F.map fun _ => .int .i64 0) ∧ w'.ownsRow w.heap.size 4 1 v8 F.length (F.map fun _ => .bool true) := by
  have hro : Fence.wide.round = none := rfl
  have hmf : ∀ (fn : Fn) (first cap : Array Value) (w : World), (Instr.makeFunc fn first cap).run Try.prog w = .ok (.func fn first cap) w := fun _ _ _ _ => rfl
  have hfn := Try.funcNil76
  obtain ⟨i3, hi3, hz3, hs3, hb3⟩ := info_parts Try.info3
  obtain ⟨i4, hi4, hz4, hs4, hb4⟩ := info_parts Try.info4
  obtain ⟨i74, hi74, _⟩ := Option.map_eq_some_iff.1 Try.info74
  refine callsIn_of_wp_marks Try.func15 rfl trivial ?_ hro
  simp only [Try.ntmps15, List.size_toArray, List.length_cons, List.length_nil, Nat.reduceAdd, Nat.reduceSub, Array.replicate_succ, Array.replicate_zero, List.push_toArray, List.append_toArray, List.nil_append, List.cons_append]
  gi_wp2_with (first
    | (refine ⟨trivial, ?_⟩; gi_at_call 30; refine (callsIn_wide.2 (walk_any _ _ _ _ _ _ rfl _ _ rfl _)).mono ?_; rintro e w' ⟨rfl, rfl⟩))
  obtain ⟨hA1, hA2, hA3⟩ := allocs_spec [.cells #[.pointer (some ⟨bt, 0, none⟩), .int .i64 i0, .int .i64 x0, .int .i64 0] 35, .cells #[.int .i64 md] 3, .cells #[.string av] 9, .cells #[.int .i64 lim] 3, .cells #[.slice none 0 0] 37, .cells #[.slice none 0 0] 37, .cells #[.slice none 0 0] 37, .cells #[.slice none 0 0] 37, .cells #[.slice none 0 0] 38, .cells #[.pointer (some ⟨bt, 0, none⟩), .int .i64 i0, .int .i64 x0, .int .i64 0] 35, .cells #[.func (.func 31) #[] #[.pointer (some ⟨w.heap.size + 1, 0, none⟩), .pointer (some ⟨w.heap.size + 1 + 1, 0, none⟩)]] 80] w
  change Code.wpIn Fence.wide 5 Try.prog _ _ _ (allocs w [.cells #[.pointer (some ⟨bt, 0, none⟩), .int .i64 i0, .int .i64 x0, .int .i64 0] 35, .cells #[.int .i64 md] 3, .cells #[.string av] 9, .cells #[.int .i64 lim] 3, .cells #[.slice none 0 0] 37, .cells #[.slice none 0 0] 37, .cells #[.slice none 0 0] 37, .cells #[.slice none 0 0] 37, .cells #[.slice none 0 0] 38, .cells #[.pointer (some ⟨bt, 0, none⟩), .int .i64 i0, .int .i64 x0, .int .i64 0] 35, .cells #[.func (.func 31) #[] #[.pointer (some ⟨w.heap.size + 1, 0, none⟩), .pointer (some ⟨w.heap.size + 1 + 1, 0, none⟩)]] 80])
  generalize allocs w [.cells #[.pointer (some ⟨bt, 0, none⟩), .int .i64 i0, .int .i64 x0, .int .i64 0] 35, .cells #[.int .i64 md] 3, .cells #[.string av] 9, .cells #[.int .i64 lim] 3, .cells #[.slice none 0 0] 37, .cells #[.slice none 0 0] 37, .cells #[.slice none 0 0] 37, .cells #[.slice none 0 0] 37, .cells #[.slice none 0 0] 38, .cells #[.pointer (some ⟨bt, 0, none⟩), .int .i64 i0, .int .i64 x0, .int .i64 0] 35, .cells #[.func (.func 31) #[] #[.pointer (some ⟨w.heap.size + 1, 0, none⟩), .pointer (some ⟨w.heap.size + 1 + 1, 0, none⟩)]] 80] = W0 at *
  have f0 : W0.heap[w.heap.size]? = _ := hA3 0
  have f1 : W0.heap[w.heap.size + 1]? = _ := hA3 1
  have f2 : W0.heap[w.heap.size + 1 + 1]? = _ := hA3 2
  have f3 : W0.heap[w.heap.size + 1 + 1 + 1]? = _ := hA3 3
  have f4 : W0.heap[w.heap.size + 1 + 1 + 1 + 1]? = _ := hA3 4
  have f5 : W0.heap[w.heap.size + 1 + 1 + 1 + 1 + 1]? = _ := hA3 5
  have f6 : W0.heap[w.heap.size + 1 + 1 + 1 + 1 + 1 + 1]? = _ := hA3 6
  have f7 : W0.heap[w.heap.size + 1 + 1 + 1 + 1 + 1 + 1 + 1]? = _ := hA3 7
  have f8 : W0.heap[w.heap.size + 1 + 1 + 1 + 1 + 1 + 1 + 1 + 1]? = _ := hA3 8
  have f9 : W0.heap[w.heap.size + 1 + 1 + 1 + 1 + 1 + 1 + 1 + 1 + 1]? = _ := hA3 9
  have f10 : W0.heap[w.heap.size + 1 + 1 + 1 + 1 + 1 + 1 + 1 + 1 + 1 + 1]? = _ := hA3 10
  simp only [List.getElem?_cons_zero, List.getElem?_cons_succ, List.length_cons, List.length_nil] at f0 f1 f2 f3 f4 f5 f6 f7 f8 f9 f10 hA2
  clear hA3
  have o10 : w.heap.size + 1 + 1 + 1 + 1 + 1 + 1 + 1 + 1 + 1 + 1 < W0.heap.size := by omega
  have o9 : w.heap.size + 1 + 1 + 1 + 1 + 1 + 1 + 1 + 1 + 1 < w.heap.size + 1 + 1 + 1 + 1 + 1 + 1 + 1 + 1 + 1 + 1 := by omega
  generalize w.heap.size + 1 + 1 + 1 + 1 + 1 + 1 + 1 + 1 + 1 + 1 = b10 at *
  have o8 : w.heap.size + 1 + 1 + 1 + 1 + 1 + 1 + 1 + 1 < w.heap.size + 1 + 1 + 1 + 1 + 1 + 1 + 1 + 1 + 1 := by omega
  generalize w.heap.size + 1 + 1 + 1 + 1 + 1 + 1 + 1 + 1 + 1 = b9 at *
  have o7 : w.heap.size + 1 + 1 + 1 + 1 + 1 + 1 + 1 < w.heap.size + 1 + 1 + 1 + 1 + 1 + 1 + 1 + 1 := by omega
  generalize w.heap.size + 1 + 1 + 1 + 1 + 1 + 1 + 1 + 1 = b8 at *
  have o6 : w.heap.size + 1 + 1 + 1 + 1 + 1 + 1 < w.heap.size + 1 + 1 + 1 + 1 + 1 + 1 + 1 := by omega
  generalize w.heap.size + 1 + 1 + 1 + 1 + 1 + 1 + 1 = b7 at *
  have o5 : w.heap.size + 1 + 1 + 1 + 1 + 1 < w.heap.size + 1 + 1 + 1 + 1 + 1 + 1 := by omega
  generalize w.heap.size + 1 + 1 + 1 + 1 + 1 + 1 = b6 at *
  have o4 : w.heap.size + 1 + 1 + 1 + 1 < w.heap.size + 1 + 1 + 1 + 1 + 1 := by omega
  generalize w.heap.size + 1 + 1 + 1 + 1 + 1 = b5 at *
  have o3 : w.heap.size + 1 + 1 + 1 < w.heap.size + 1 + 1 + 1 + 1 := by omega
  generalize w.heap.size + 1 + 1 + 1 + 1 = b4 at *
  have o2 : w.heap.size + 1 + 1 < w.heap.size + 1 + 1 + 1 := by omega
  generalize w.heap.size + 1 + 1 + 1 = b3 at *
  have o1 : w.heap.size + 1 < w.heap.size + 1 + 1 := by omega
  generalize w.heap.size + 1 + 1 = b2 at *
  have o0 : w.heap.size < w.heap.size + 1 := by omega
  generalize w.heap.size + 1 = b1 at *
  clear hA2
  have hbt : bt < w.heap.size := (Array.getElem?_eq_some_iff.1 htr.blk).1
  have htr0 : IsTree W0 bt T X := ⟨(hA1.block _ hbt).trans htr.blk⟩
  have hseq := walk1_stops (5 - 1) (by omega) b9 b10 bt 31 #[.pointer (some ⟨b1, 0, none⟩), .pointer (some ⟨b2, 0, none⟩)] T X (intoOf X av md) (fun k => k < W0.heap.size ∧ k ∉ [b4, b5, b6, b7, b8]) (fun t => t = 78) rfl ts0 i0 x0 k0 W0 hT hX (fun k h => h.1)
    ⟨by omega, by simp; omega⟩ ⟨by omega, by simp; omega⟩ ⟨by omega, by simp; omega⟩ f9 f10 htr0 hch hbal (enters_of Try.func31 (by kernel_rfl) rfl) (fun U d i x t hk ht hn hk2 => by
      have ht2 := (Stif.tokAt_some ht).2.2.1
      have h1 : U.heap[b1]? = _ := (hk.s b1 ⟨by omega, by simp; omega⟩).trans f1
      have h2 : U.heap[b2]? = _ := (hk.s b2 ⟨by omega, by simp; omega⟩).trans f2
      have := into_any bt b1 b2 T X av md d i x t U hT hX (htr0.keep hk ⟨by omega, by simp; omega⟩) ht hn (cell_at h1 (by simp)) (cell_at h2 (by simp)) (Array.getElem?_eq_some_iff.1 h1).1 (Array.getElem?_eq_some_iff.1 h2).1
      unfold intoOf
      rw [ht2]
      exact this)
  refine wpIn_rangeFunc_ownH hro (by omega) (gf := 40) (lb := #[.pointer (some ⟨b9, 0, none⟩), .pointer (some ⟨b10, 0, none⟩)]) rfl trivial (enters_of Try.func40 (by kernel_rfl) rfl)
    hseq Keep.trans (keepK_b (fun k h => h.1)) (Below.refl _ _) (fun _ => rfl)
    (fun pre W => (∃ v4 v5 v6 v7 v8, Cols W0.heap.size W (colsOf b4 b5 b6 b7 b8 v4 v5 v6 v7 v8 pre)) ∧ Upd W0.heap.size [b4, b5, b6, b7, b8] [3, 4] W0 W ∧ (pre ≠ [] → (pre.length : Int) < lim))
    (fun c pre W => c = .exit 0 ∧ (∃ v4 v5 v6 v7 v8, Cols W0.heap.size W (colsOf b4 b5 b6 b7 b8 v4 v5 v6 v7 v8 pre)) ∧ Upd W0.heap.size [b4, b5, b6, b7, b8] [3, 4] W0 W ∧ pre.length = (max lim 1).toNat)
    ?hI ?hIx ?h0
    (fun p a' W => ∃ bx, W0.heap.size ≤ bx ∧ W.heap[bx]? = some (.cells #[.pointer (some ⟨bt, 0, none⟩), .int .i64 p.2.tok, .int .i64 p.2.txt, .int .i64 0] 78 (0, 0)) ∧ a' = frameOf bt w.heap.size b1 b2 b3 b4 b5 b6 b7 b8 b9 b10 bx i0 x0 md lim av p)
    ?hAx ?assign ?body ?done ?stop
  case hI =>
    rintro pre A B row ⟨⟨v4, v5, v6, v7, v8, hC⟩, hU, hL⟩ hg hr
    exact ⟨⟨v4, v5, v6, v7, v8, hC.kept hg (fun r e => (hr r e).2)⟩, hU.grown (Nat.le_refl _) hg (fun r e => (hr r e).1), hL⟩
  case hIx =>
    rintro c pre A B row ⟨hc, ⟨v4, v5, v6, v7, v8, hC⟩, hU, hL⟩ hg hr
    exact ⟨hc, ⟨v4, v5, v6, v7, v8, hC.kept hg (fun r e => (hr r e).2)⟩, hU.grown (Nat.le_refl _) hg (fun r e => (hr r e).1), hL⟩
  case h0 =>
    refine ⟨⟨.slice none 0 0, .slice none 0 0, .slice none 0 0, .slice none 0 0, .slice none 0 0, Cols.nils (fun c hc => ?_) ?_⟩, Upd.refl _ _ _ _, fun h => absurd rfl h⟩
    · simp only [colsOf, List.map_nil, List.mem_cons, List.not_mem_nil, or_false] at hc
      rcases hc with rfl | rfl | rfl | rfl | rfl
      · exact ⟨f4, rfl, rfl, by show b4 < _; omega⟩
      · exact ⟨f5, rfl, rfl, by show b5 < _; omega⟩
      · exact ⟨f6, rfl, rfl, by show b6 < _; omega⟩
      · exact ⟨f7, rfl, rfl, by show b7 < _; omega⟩
      · exact ⟨f8, rfl, rfl, by show b8 < _; omega⟩
    · simp [colsOf]
      omega
  case hAx =>
    rintro p a' _ A B row ⟨bx, h1, h2, h3⟩ hg hr
    refine ⟨bx, h1, ?_, h3⟩
    rw [hg.block bx (Array.getElem?_eq_some_iff.1 h2).1 (fun e => by
      obtain ⟨_, o, ho, hoc⟩ := hr bx e.symm
      rw [h2] at ho
      cases ho
      simp [Obj.isCells] at hoc)]
    exact h2
  case assign =>
    rintro l pre p W K ⟨⟨v4, v5, v6, v7, v8, hC⟩, hU, hL⟩ hK
    dsimp only [encF]
    gi_wp2
    have hUs := hU.size
    exact hK _ _ ((KeepsOthers.alloc _ _).from _) (Keep.below ((Below.refl _ _).alloc (Nat.le_refl _) _) (fun k h => by have := h.1; omega)) ⟨⟨v4, v5, v6, v7, v8, hC.alloc _⟩, hU.alloc _, hL⟩ ⟨W.heap.size, hUs, World.alloc_heap_new W _, rfl⟩
  case body =>
    rintro l pre p a' W hl ⟨r, hr⟩ ⟨⟨v4, v5, v6, v7, v8, hC⟩, hU, hlim⟩ ⟨bx, hbx, hB, rfl⟩ hlt
    have hUs := hU.size
    have HL : Hid (pre ≠ [] → (pre.length : Int) < lim) := hlim
    have HWS : Hid (W0.heap.size ≤ W.heap.size) := hUs
    have HC : Hid (Cols W0.heap.size W (colsOf b4 b5 b6 b7 b8 v4 v5 v6 v7 v8 pre)) := hC
    have HB : Hid (W.heap[bx]? = some (.cells #[.pointer (some ⟨bt, 0, none⟩), .int .i64 p.2.tok, .int .i64 p.2.txt, .int .i64 0] 78 (0, 0))) := hB
    have HU0 : Hid (Upd W0.heap.size [b4, b5, b6, b7, b8] [3, 4] W0 W) := hU
    have HW : Hid (Upd W0.heap.size [b4, b5, b6, b7, b8] [3, 4] W W) := Upd.refl _ _ _ _
    have HC0 : Hid (Cols W0.heap.size W (colsOf b4 b5 b6 b7 b8 v4 v5 v6 v7 v8 pre)) := hC
    have hpl : pre.length < 1048576 := by omega
    clear hU hlim hB hC hr hlt
    unfold frameOf
    have hbox := HC.out.each ⟨b4, 37, 3, v4, pre.map fun p => .int .i64 p.1⟩ (by simp [colsOf])
    have r4 : W.ownsRow W0.heap.size 3 1 v4 pre.length (pre.map fun p => .int .i64 p.1) := by simpa using hbox.row
    have c4 := hbox.box.cell
    dsimp only at c4
    clear hbox
    gi_upto_region 7 with (gi_at_builtin; go_must (refine wpListIn_append_own_at _ rfl _ _ 37 rfl W0.heap.size 3 i3 _ 1 8 Try.underlying37 hi3 hz3 hs3 hb3 rfl (by decide) v4 _ _ rfl (r4.alloc _) ⟨W.heap.size, 0, none⟩ 1 1 [.int .i64 p.1] rfl rfl (cell_one_new _ _ _) (by simp [Value.oneCell']) (by unfold maxLen; omega) (by omega) (by simp; omega) ?_); intro v' w1 hown hgrow _ hat; obtain ⟨g4, cap4, rfl⟩ := ownsRow_succ hown; obtain ⟨hc1, hf1, hC1, hU1⟩ := Cols.step (A := []) (c := ⟨b4, 37, 3, v4, pre.map fun p => .int .i64 p.1⟩) (es := [3, 4]) HC.out (by simp) (by simpa using hown) hgrow (by simpa using hat); dsimp only at hc1 hf1 hC1 hU1)
    have HC2 : Hid _ := hC1
    have HB2 : Hid _ := hU1.kept bx _ HB.out (by simp; omega) (.inr fun c t fr h => by cases h; decide)
    have HU2 : Hid _ := HU0.out.trans (hU1.mono (by simp))
    have HW2 : Hid _ := HW.out.trans (hU1.mono (by simp))
    have hUs2 := hU1.size
    clear HC HB HU0 HW hown hgrow hat hc1 hf1 hC1 hU1 r4 c4 
    generalize w1.setCell ⟨b4, 0, none⟩ (.slice (some ⟨g4, 0, none⟩) (pre.length + 1) cap4) = U4 at *
    have HC := HC2
    have HB := HB2
    have HU0 := HU2
    have HW := HW2
    have hUs' : W0.heap.size ≤ U4.heap.size := by omega
    clear HC2 HB2 HU2 HW2 hUs hUs2
    have hUs := hUs'
    clear hUs'
    have hbox := HC.out.each ⟨b5, 37, 3, v5, pre.map fun p => .int .i64 p.2.tok⟩ (by simp)
    have r5 : U4.ownsRow W0.heap.size 3 1 v5 pre.length (pre.map fun p => .int .i64 p.2.tok) := by simpa using hbox.row
    have c5 := hbox.box.cell
    dsimp only at c5
    clear hbox
    have e1 : U4.cell? ⟨bx, 1, none⟩ = some (.int .i64 p.2.tok) := cell_at HB.out (by simp)
    gi_upto_region 8 with (gi_at_builtin; go_must (refine wpListIn_append_own_at _ rfl _ _ 37 rfl W0.heap.size 3 i3 _ 1 8 Try.underlying37 hi3 hz3 hs3 hb3 rfl (by decide) v5 _ _ rfl (r5.alloc _) ⟨U4.heap.size, 0, none⟩ 1 1 [.int .i64 p.2.tok] rfl rfl (cell_one_new _ _ _) (by simp [Value.oneCell']) (by unfold maxLen; omega) (by omega) (by simp; omega) ?_); intro v' w1 hown hgrow _ hat; obtain ⟨g5, cap5, rfl⟩ := ownsRow_succ hown; obtain ⟨hc1, hf1, hC1, hU1⟩ := Cols.step (A := [⟨b4, 37, 3, .slice (some ⟨g4, 0, none⟩) (pre.length + 1) cap4, (pre.map fun p => .int .i64 p.1) ++ [.int .i64 p.1]⟩]) (c := ⟨b5, 37, 3, v5, pre.map fun p => .int .i64 p.2.tok⟩) (es := [3, 4]) HC.out (by simp) (by simpa using hown) hgrow (by simpa using hat); dsimp only at hc1 hf1 hC1 hU1)
    have HC2 : Hid _ := hC1
    have HB2 : Hid _ := hU1.kept bx _ HB.out (by simp; omega) (.inr fun c t fr h => by cases h; decide)
    have HU2 : Hid _ := HU0.out.trans (hU1.mono (by simp))
    have HW2 : Hid _ := HW.out.trans (hU1.mono (by simp))
    have hUs2 := hU1.size
    clear HC HB HU0 HW hown hgrow hat hc1 hf1 hC1 hU1 r5 c5 e1
    generalize w1.setCell ⟨b5, 0, none⟩ (.slice (some ⟨g5, 0, none⟩) (pre.length + 1) cap5) = U5 at *
    have HC := HC2
    have HB := HB2
    have HU0 := HU2
    have HW := HW2
    have hUs' : W0.heap.size ≤ U5.heap.size := by omega
    clear HC2 HB2 HU2 HW2 hUs hUs2
    have hUs := hUs'
    clear hUs'
    have hbox := HC.out.each ⟨b6, 37, 3, v6, pre.map fun p => .int .i64 p.2.txt⟩ (by simp)
    have r6 : U5.ownsRow W0.heap.size 3 1 v6 pre.length (pre.map fun p => .int .i64 p.2.txt) := by simpa using hbox.row
    have c6 := hbox.box.cell
    dsimp only at c6
    clear hbox
    have e2 : U5.cell? ⟨bx, 2, none⟩ = some (.int .i64 p.2.txt) := cell_at HB.out (by simp)
    gi_upto_region 9 with (gi_at_builtin; go_must (refine wpListIn_append_own_at _ rfl _ _ 37 rfl W0.heap.size 3 i3 _ 1 8 Try.underlying37 hi3 hz3 hs3 hb3 rfl (by decide) v6 _ _ rfl (r6.alloc _) ⟨U5.heap.size, 0, none⟩ 1 1 [.int .i64 p.2.txt] rfl rfl (cell_one_new _ _ _) (by simp [Value.oneCell']) (by unfold maxLen; omega) (by omega) (by simp; omega) ?_); intro v' w1 hown hgrow _ hat; obtain ⟨g6, cap6, rfl⟩ := ownsRow_succ hown; obtain ⟨hc1, hf1, hC1, hU1⟩ := Cols.step (A := [⟨b4, 37, 3, .slice (some ⟨g4, 0, none⟩) (pre.length + 1) cap4, (pre.map fun p => .int .i64 p.1) ++ [.int .i64 p.1]⟩, ⟨b5, 37, 3, .slice (some ⟨g5, 0, none⟩) (pre.length + 1) cap5, (pre.map fun p => .int .i64 p.2.tok) ++ [.int .i64 p.2.tok]⟩]) (c := ⟨b6, 37, 3, v6, pre.map fun p => .int .i64 p.2.txt⟩) (es := [3, 4]) HC.out (by simp) (by simpa using hown) hgrow (by simpa using hat); dsimp only at hc1 hf1 hC1 hU1)
    have HC2 : Hid _ := hC1
    have HB2 : Hid _ := hU1.kept bx _ HB.out (by simp; omega) (.inr fun c t fr h => by cases h; decide)
    have HU2 : Hid _ := HU0.out.trans (hU1.mono (by simp))
    have HW2 : Hid _ := HW.out.trans (hU1.mono (by simp))
    have hUs2 := hU1.size
    clear HC HB HU0 HW hown hgrow hat hc1 hf1 hC1 hU1 r6 c6 e2
    generalize w1.setCell ⟨b6, 0, none⟩ (.slice (some ⟨g6, 0, none⟩) (pre.length + 1) cap6) = U6 at *
    have HC := HC2
    have HB := HB2
    have HU0 := HU2
    have HW := HW2
    have hUs' : W0.heap.size ≤ U6.heap.size := by omega
    clear HC2 HB2 HU2 HW2 hUs hUs2
    have hUs := hUs'
    clear hUs'
    have hbox := HC.out.each ⟨b7, 37, 3, v7, pre.map fun _ => .int .i64 0⟩ (by simp)
    have r7 : U6.ownsRow W0.heap.size 3 1 v7 pre.length (pre.map fun _ => .int .i64 0) := by simpa using hbox.row
    have c7 := hbox.box.cell
    dsimp only at c7
    clear hbox
    have e3 : U6.cell? ⟨bx, 3, none⟩ = some (.int .i64 0) := cell_at HB.out (by simp)
    gi_upto_region 10 with (gi_at_builtin; go_must (refine wpListIn_append_own_at _ rfl _ _ 37 rfl W0.heap.size 3 i3 _ 1 8 Try.underlying37 hi3 hz3 hs3 hb3 rfl (by decide) v7 _ _ rfl (r7.alloc _) ⟨U6.heap.size, 0, none⟩ 1 1 [.int .i64 0] rfl rfl (cell_one_new _ _ _) (by simp [Value.oneCell']) (by unfold maxLen; omega) (by omega) (by simp; omega) ?_); intro v' w1 hown hgrow _ hat; obtain ⟨g7, cap7, rfl⟩ := ownsRow_succ hown; obtain ⟨hc1, hf1, hC1, hU1⟩ := Cols.step (A := [⟨b4, 37, 3, .slice (some ⟨g4, 0, none⟩) (pre.length + 1) cap4, (pre.map fun p => .int .i64 p.1) ++ [.int .i64 p.1]⟩, ⟨b5, 37, 3, .slice (some ⟨g5, 0, none⟩) (pre.length + 1) cap5, (pre.map fun p => .int .i64 p.2.tok) ++ [.int .i64 p.2.tok]⟩, ⟨b6, 37, 3, .slice (some ⟨g6, 0, none⟩) (pre.length + 1) cap6, (pre.map fun p => .int .i64 p.2.txt) ++ [.int .i64 p.2.txt]⟩]) (c := ⟨b7, 37, 3, v7, pre.map fun _ => .int .i64 0⟩) (es := [3, 4]) HC.out (by simp) (by simpa using hown) hgrow (by simpa using hat); dsimp only at hc1 hf1 hC1 hU1)
    have HC2 : Hid _ := hC1
    have HB2 : Hid _ := hU1.kept bx _ HB.out (by simp; omega) (.inr fun c t fr h => by cases h; decide)
    have HU2 : Hid _ := HU0.out.trans (hU1.mono (by simp))
    have HW2 : Hid _ := HW.out.trans (hU1.mono (by simp))
    have hUs2 := hU1.size
    clear HC HB HU0 HW hown hgrow hat hc1 hf1 hC1 hU1 r7 c7 e3
    generalize w1.setCell ⟨b7, 0, none⟩ (.slice (some ⟨g7, 0, none⟩) (pre.length + 1) cap7) = U7 at *
    have HC := HC2
    have HB := HB2
    have HU0 := HU2
    have HW := HW2
    have hUs' : W0.heap.size ≤ U7.heap.size := by omega
    clear HC2 HB2 HU2 HW2 hUs hUs2
    have hUs := hUs'
    clear hUs'
    have hbox := HC.out.each ⟨b8, 38, 4, v8, pre.map fun _ => .bool true⟩ (by simp)
    have r8 : U7.ownsRow W0.heap.size 4 1 v8 pre.length (pre.map fun _ => .bool true) := by simpa using hbox.row
    have c8 := hbox.box.cell
    dsimp only at c8
    clear hbox
    have e0 : U7.cell? ⟨bx, 0, none⟩ = some (.pointer (some ⟨bt, 0, none⟩)) := cell_at HB.out (by simp)
    have cfs : U7.cell? ⟨w.heap.size, 0, none⟩ = some (.pointer (some ⟨bt, 0, none⟩)) := cell_at (HU0.out.kept _ _ f0 (by simp; omega) (.inl (by omega))) (by simp)
    have heq := run_eql_ptr_same (P := Try.prog) U7 ⟨bt, 0, none⟩ Try.underlying33 hi74
    gi_upto_region 11 with (gi_at_builtin; go_must (refine wpListIn_append_own_at _ rfl _ _ 38 rfl W0.heap.size 4 i4 _ 1 1 Try.underlying38 hi4 hz4 hs4 hb4 rfl (by decide) v8 _ _ rfl (r8.alloc _) ⟨U7.heap.size, 0, none⟩ 1 1 [.bool true] rfl rfl (cell_one_new _ _ _) (by simp [Value.oneCell']) (by unfold maxLen; omega) (by omega) (by simp; omega) ?_); intro v' w1 hown hgrow _ hat; obtain ⟨g8, cap8, rfl⟩ := ownsRow_succ hown; obtain ⟨hc1, hf1, hC1, hU1⟩ := Cols.step (A := [⟨b4, 37, 3, .slice (some ⟨g4, 0, none⟩) (pre.length + 1) cap4, (pre.map fun p => .int .i64 p.1) ++ [.int .i64 p.1]⟩, ⟨b5, 37, 3, .slice (some ⟨g5, 0, none⟩) (pre.length + 1) cap5, (pre.map fun p => .int .i64 p.2.tok) ++ [.int .i64 p.2.tok]⟩, ⟨b6, 37, 3, .slice (some ⟨g6, 0, none⟩) (pre.length + 1) cap6, (pre.map fun p => .int .i64 p.2.txt) ++ [.int .i64 p.2.txt]⟩, ⟨b7, 37, 3, .slice (some ⟨g7, 0, none⟩) (pre.length + 1) cap7, (pre.map fun _ => .int .i64 0) ++ [.int .i64 0]⟩]) (c := ⟨b8, 38, 4, v8, pre.map fun _ => .bool true⟩) (es := [3, 4]) HC.out (by simp) (by simpa using hown) hgrow (by simpa using hat); dsimp only at hc1 hf1 hC1 hU1)
    have HC2 : Hid _ := hC1
    have HB2 : Hid _ := hU1.kept bx _ HB.out (by simp; omega) (.inr fun c t fr h => by cases h; decide)
    have HU2 : Hid _ := HU0.out.trans (hU1.mono (by simp))
    have HW2 : Hid _ := HW.out.trans (hU1.mono (by simp))
    have hUs2 := hU1.size
    clear HC HB HU0 HW hown hgrow hat hc1 hf1 hC1 hU1 r8 c8 e0 cfs heq
    generalize w1.setCell ⟨b8, 0, none⟩ (.slice (some ⟨g8, 0, none⟩) (pre.length + 1) cap8) = U8 at *
    have HC := HC2
    have HB := HB2
    have HU0 := HU2
    have HW := HW2
    have hUs' : W0.heap.size ≤ U8.heap.size := by omega
    clear HC2 HB2 HU2 HW2 hUs hUs2
    have hUs := hUs'
    clear hUs'
    have c4 := (HC.out.each ⟨b4, 37, 3, .slice (some ⟨g4, 0, none⟩) (pre.length + 1) cap4, (pre.map fun p => .int .i64 p.1) ++ [.int .i64 p.1]⟩ (by simp)).box.cell
    have clim : U8.cell? ⟨b3, 0, none⟩ = some (.int .i64 lim) := cell_at (HU0.out.kept _ _ f3 (by simp; omega) (.inl (by omega))) (by simp)
    dsimp only at c4
    have HK : Hid (Keep (fun k => k < W0.heap.size ∧ k ∉ [b4, b5, b6, b7, b8]) (fun t => t = 78) W U8) := HW.out.keep HWS.out (fun b hb => boxed_of HC0.out b hb) (by decide)
    have HF : Hid (Cols W0.heap.size U8 (colsOf b4 b5 b6 b7 b8 (.slice (some ⟨g4, 0, none⟩) (pre.length + 1) cap4) (.slice (some ⟨g5, 0, none⟩) (pre.length + 1) cap5) (.slice (some ⟨g6, 0, none⟩) (pre.length + 1) cap6) (.slice (some ⟨g7, 0, none⟩) (pre.length + 1) cap7) (.slice (some ⟨g8, 0, none⟩) (pre.length + 1) cap8) (pre ++ [p]))) := by
      have := HC.out
      show Cols _ _ _
      simpa [colsOf] using this
    have HBl : Hid (∀ b ∈ [b4, b5, b6, b7, b8], b < W0.heap.size) := fun b hb => by
      simp only [List.mem_cons, List.not_mem_nil, or_false] at hb
      omega
    gi_wp2
    · have hge : lim ≤ (pre.length : Int) + 1 := by assumption
      refine ⟨HW.out.from HBl.out, rfl, ⟨_, _, _, _, _, HF.out⟩, HU0.out, ?_⟩
      have hL := HL.out
      rw [List.length_append, List.length_singleton]
      by_cases hp : pre = []
      · subst hp; simp at hge ⊢; omega
      · have := hL hp; omega
    · have hlt' : (pre.length : Int) + 1 < lim := by assumption
      exact ⟨HW.out.from HBl.out, HK.out, ⟨_, _, _, _, _, HF.out⟩, HU0.out, fun _ => by simp; omega⟩
  case done =>
    rintro D ys W hD rfl ⟨⟨v4, v5, v6, v7, v8, hC⟩, hU, hL⟩ hK
    have hFt : Stif.flds (intoOf X av md) 0 0 ts0 = (Stif.flds (intoOf X av md) 0 0 ts0).take (max lim 1).toNat := by
      rw [List.take_of_length_le]
      by_cases hp : Stif.flds (intoOf X av md) 0 0 ts0 = []
      · simp [hp]
      · have := hL hp; omega
    have hE := ends_of hA1 hU hC hK hD (by simp; omega) (by omega) hFt
    clear hC hU hL hFt hseq
    gi_wp2
    refine ⟨by simp, .inl ⟨_, _, rfl, run_takeDeferred hK, ?_⟩⟩
    obtain ⟨q4, q5, q6, q7, q8, hfin⟩ := hE
    exact ⟨.tuple #[v4, v5, v6, v7, v8], (by simp [results, Try.results15, go_sem, q4, q5, q6, q7, q8]), hfin⟩
  case stop =>
    rintro D c pre W hD hpre ⟨rfl, ⟨v4, v5, v6, v7, v8, hC⟩, hU, hL⟩ hK
    have hFt : pre = (Stif.flds (intoOf X av md) 0 0 ts0).take (max lim 1).toNat := by
      rw [← hL]
      exact (List.prefix_iff_eq_take.1 hpre)
    have hE := ends_of hA1 hU hC hK hD (by simp; omega) (by omega) hFt
    clear hC hU hL hFt hseq
    gi_wp2
    refine ⟨by simp, .inl ⟨_, _, rfl, run_takeDeferred hK, ?_⟩⟩
    obtain ⟨q4, q5, q6, q7, q8, hfin⟩ := hE
    exact ⟨.tuple #[v4, v5, v6, v7, v8], (by simp [results, Try.results15, go_sem, q4, q5, q6, q7, q8]), hfin⟩

end Go.Proofs.Qxb6618677a
