/-
  The zero Named: it names nothing: ZZNamedValues of it is nil.
-/
import Derived.Test.Qxb6618677aZv
namespace Go.Proofs.Qxb6618677a
open Go.RowKit Go.Shelf
attribute [local go_sem] Oper.semAt_some

/-- A loop over an iterator that yields nothing. -/
theorem over_empty {n : Nat} {P : Program} {Z : TypeId → Prop} {g : Operand} {ps : Array Tmp} {assign body : Code} {Q : Exit → Act → World → Prop} {a : Act} {w : World} {gf : Nat} {lb : Array Value} (hg : a.eval g = .func (.func gf) #[] lb)
    (eg : ∀ args w, (callFunc gf args).run P w = .ok (.enter gf args) w) (hseq : SeqT (w.heap.size + 2) Z (n - 1) P gf lb (fun x : Empty => nomatch x) (fun _ _ => True) (fun _ => True) (fun _ => False) 0 w)
    (I : World → Prop) (hI : AbT w.heap.size Z (fun (_ : List Empty) => I)) (h0 : I w)
    (hdone : ∀ (D : Nat) (W : World), w.heap.size ≤ D → I W → W.heap[D]? = some (.deferred (some [])) → Q .normal { a with defers := { target := .collected D, args := #[] } :: a.defers } W) :
    (Code.rangeFunc g ps assign body).wpIn Fence.wide n P Q a w :=
  over_T hg eg hseq (fun _ _ => trivial) (fun _ _ _ _ _ => trivial) (Below.refl _ _) (fun x => nomatch x) (fun _ V => I V) (fun _ _ _ => False) hI (fun _ _ _ _ h _ => h) h0 (fun _ _ _ => False) (fun x => nomatch x) (fun _ _ x => nomatch x) (fun _ _ x => nomatch x)
    (fun D _ W hD _ hi hK => hdone D W hD hi hK) (fun _ _ _ _ _ h => h.elim)

set_option maxRecDepth 100000 in
theorem walk1_nil (n B b3 : Nat) (v4 : Value) (Z : TypeId → Prop) (w : World) (hb : w.heap[b3]? = some (.cells #[.pointer none, .int .i64 0, .int .i64 0, .int .i64 0] 35 (0, 0))) :
    SeqT B Z n Try.prog 40 #[.pointer (some ⟨b3, 0, none⟩), v4] (fun x : Empty => nomatch x) (fun _ _ => True) (fun _ => True) (fun _ => False) 0 w := by
  refine SeqT.deep (m := 5) ?_ n
  intro l J Jx W hW hBW hJ hJx hY h0
  have hro : Fence.wide.round = none := rfl
  have hbW := (hW.block b3 (Array.getElem?_eq_some_iff.1 hb).1).trans hb
  obtain ⟨c0, c1, c2, c3⟩ := box4 hbW
  refine callsIn_of_wp Try.func40 rfl trivial ?_ hro
  simp only [Try.ntmps40, List.size_toArray, List.length_cons, List.length_nil, Nat.reduceAdd, Nat.reduceSub, Array.replicate_succ, Array.replicate_zero, List.push_toArray, List.append_toArray, List.nil_append, List.cons_append]
  gi_wp2
  refine bodyPost_ret (results_none rfl _ _ _) rfl ?_
  exact ⟨⟨_, rfl⟩, [], h0⟩

set_option maxRecDepth 100000 in
set_option maxHeartbeats 1000000 in
theorem fields1_nil (n B bN : Nat) (Z : TypeId → Prop) (w : World) (hb : w.heap[bN]? = some (.cells #[.string ByteArray.empty, .bool false, .pointer none, .int .i64 0, .int .i64 0, .int .i64 0, .slice none 0 0, .int .i64 0] 48 (0, 0))) :
    SeqT B Z n Try.prog 44 #[.pointer (some ⟨bN, 0, none⟩)] (fun x : Empty => nomatch x) (fun _ _ => True) (fun _ => True) (fun _ => False) 0 w := by
  refine SeqT.deep (m := 5) ?_ n
  intro l J Jx W hW hBW hJ hJx hY h0
  have hro : Fence.wide.round = none := rfl
  have hmf : ∀ (fn : Fn) (first cap : Array Value) (w : World), (Instr.makeFunc fn first cap).run Try.prog w = .ok (.func fn first cap) w := fun _ _ _ _ => rfl
  have hbW := (hW.block bN (Array.getElem?_eq_some_iff.1 hb).1).trans hb
  have cN0 := cell_at (i := 0) hbW rfl
  have cN1 := cell_at (i := 1) hbW rfl
  have cN2 := cell_at (i := 2) hbW rfl
  have cN3 := cell_at (i := 3) hbW rfl
  have cN4 := cell_at (i := 4) hbW rfl
  have cN5 := cell_at (i := 5) hbW rfl
  have cN6 := cell_at (i := 6) hbW rfl
  have hbN : bN < W.heap.size := (Array.getElem?_eq_some_iff.1 hbW).1
  refine callsIn_of_wp_marks Try.func44 rfl trivial ?_ hro
  simp only [Try.ntmps44, List.size_toArray, List.length_cons, List.length_nil, Nat.reduceAdd, Nat.reduceSub, Array.replicate_succ, Array.replicate_zero, List.push_toArray, List.append_toArray, List.nil_append, List.cons_append]
  gi_wp2
  refine ⟨trivial, ?_⟩
  gi_at_call 30
  refine (callsIn_wide.2 (walk_any _ _ _ _ _ _ rfl 45 _ rfl _)).mono ?_
  rintro e w' ⟨rfl, rfl⟩
  gi_wp2
  obtain ⟨hA1, hA2, hA3⟩ := allocs_spec [.cells #[.func (.yield l) #[] #[]] 103, .cells #[.int .i64 0] 3, .cells #[.pointer none, .int .i64 0, .int .i64 0, .int .i64 0] 35, .cells #[.func (.func 45) #[] #[.pointer (some ⟨W.heap.size + 1, 0, none⟩), .pointer (some ⟨bN, 0, none⟩)]] 80] W
  change Code.wpIn Fence.wide 5 Try.prog _ _ _ (allocs W [.cells #[.func (.yield l) #[] #[]] 103, .cells #[.int .i64 0] 3, .cells #[.pointer none, .int .i64 0, .int .i64 0, .int .i64 0] 35, .cells #[.func (.func 45) #[] #[.pointer (some ⟨W.heap.size + 1, 0, none⟩), .pointer (some ⟨bN, 0, none⟩)]] 80])
  generalize allocs W [.cells #[.func (.yield l) #[] #[]] 103, .cells #[.int .i64 0] 3, .cells #[.pointer none, .int .i64 0, .int .i64 0, .int .i64 0] 35, .cells #[.func (.func 45) #[] #[.pointer (some ⟨W.heap.size + 1, 0, none⟩), .pointer (some ⟨bN, 0, none⟩)]] 80] = W0 at *
  have f2 : W0.heap[W.heap.size + 1 + 1]? = _ := hA3 2
  simp only [List.getElem?_cons_zero, List.getElem?_cons_succ, List.length_cons, List.length_nil] at f2 hA2
  have hJ0 : AbT W0.heap.size Z J := hJ.mono (by omega)
  refine over_empty (Z := Z) rfl (enters_of Try.func40 (by kernel_rfl) rfl) (walk1_nil (5 - 1) _ _ _ Z W0 f2) (fun V => J [] V) (fun _ A A' h ht => hJ0 _ A A' h ht) (hJ _ _ _ h0 (Turn.below hA1)) ?_
  intro D V hD hj hK
  gi_wp2
  refine ⟨by simp, .inl ⟨_, _, rfl, run_takeDeferred hK, ?_⟩⟩
  exact ⟨_, results_none rfl _ _ _, ⟨_, rfl⟩, .inl ⟨[], trivial, (hJ0.own (Nat.le_refl _)).putObj _ hj hD hK rfl⟩⟩

set_option maxRecDepth 100000 in
set_option maxHeartbeats 1000000 in
theorem values1_nil (n B bN : Nat) (w : World) (hb : w.heap[bN]? = some (.cells #[.string ByteArray.empty, .bool false, .pointer none, .int .i64 0, .int .i64 0, .int .i64 0, .slice none 0 0, .int .i64 0] 48 (0, 0))) :
    SeqT B Z3 n Try.prog 47 #[.pointer (some ⟨bN, 0, none⟩)] (fun x : Empty => nomatch x) (fun _ _ => True) (fun _ => True) (fun _ => False) 0 w := by
  refine SeqT.deep (m := 7) ?_ n
  intro l J Jx W hW hBW hJ hJx hY h0
  have hro : Fence.wide.round = none := rfl
  have hbW := (hW.block bN (Array.getElem?_eq_some_iff.1 hb).1).trans hb
  have cN0 := cell_at (i := 0) hbW rfl
  have cN1 := cell_at (i := 1) hbW rfl
  have cN2 := cell_at (i := 2) hbW rfl
  have cN3 := cell_at (i := 3) hbW rfl
  have cN4 := cell_at (i := 4) hbW rfl
  have cN5 := cell_at (i := 5) hbW rfl
  have cN6 := cell_at (i := 6) hbW rfl
  have cN7 := cell_at (i := 7) hbW rfl
  have hbN : bN < W.heap.size := (Array.getElem?_eq_some_iff.1 hbW).1
  refine callsIn_of_wp_marks Try.func47 rfl trivial ?_ hro
  simp only [Try.ntmps47, List.size_toArray, List.length_cons, List.length_nil, Nat.reduceAdd, Nat.reduceSub, Array.replicate_succ, Array.replicate_zero, List.push_toArray, List.append_toArray, List.nil_append, List.cons_append]
  gi_wp2
  refine ⟨trivial, ?_⟩
  gi_at_call 35
  refine (callsIn_wide.2 (namedFields_any _ _ _ _ _ _ _ _ _)).mono ?_
  rintro e w' ⟨rfl, rfl⟩
  gi_wp2
  obtain ⟨hA1, hA2, hA3⟩ := allocs_spec [.cells #[.func (.yield l) #[] #[]] 105, .cells #[.int .i64 0] 3, .cells #[.string ByteArray.empty, .bool false, .pointer none, .int .i64 0, .int .i64 0, .int .i64 0, .slice none 0 0, .int .i64 0] 48] W
  change Code.wpIn Fence.wide 7 Try.prog _ _ _ (allocs W [.cells #[.func (.yield l) #[] #[]] 105, .cells #[.int .i64 0] 3, .cells #[.string ByteArray.empty, .bool false, .pointer none, .int .i64 0, .int .i64 0, .int .i64 0, .slice none 0 0, .int .i64 0] 48])
  generalize allocs W [.cells #[.func (.yield l) #[] #[]] 105, .cells #[.int .i64 0] 3, .cells #[.string ByteArray.empty, .bool false, .pointer none, .int .i64 0, .int .i64 0, .int .i64 0, .slice none 0 0, .int .i64 0] 48] = W0 at *
  have f2 : W0.heap[W.heap.size + 1 + 1]? = _ := hA3 2
  simp only [List.getElem?_cons_zero, List.getElem?_cons_succ, List.length_cons, List.length_nil] at f2 hA2
  have hJ0 : AbT W0.heap.size Z3 J := hJ.mono (by omega)
  refine over_empty (Z := Z3) rfl (enters_of Try.func44 (by kernel_rfl) rfl) (fields1_nil (7 - 1) _ _ Z3 W0 f2) (fun V => J [] V) (fun _ A A' h ht => hJ0 _ A A' h ht) (hJ _ _ _ h0 (Turn.below hA1)) ?_
  intro D V hD hj hK
  gi_wp2
  refine ⟨by simp, .inl ⟨_, _, rfl, run_takeDeferred hK, ?_⟩⟩
  exact ⟨_, results_none rfl _ _ _, ⟨_, rfl⟩, .inl ⟨[], trivial, (hJ0.own (Nat.le_refl _)).putObj _ hj hD hK rfl⟩⟩

set_option maxRecDepth 100000 in
set_option maxHeartbeats 1000000 in
theorem zzvalues_nil (w : World) : Calls Try.prog 22 #[.agg #[.string ByteArray.empty, .bool false, .pointer none, .int .i64 0, .int .i64 0, .int .i64 0, .slice none 0 0, .int .i64 0]] w fun e w' => Below w.heap.size w w' ∧ e = .returned (.slice none 0 0) := by
  refine (callsIn_wide (n := 7)).1 ?_
  have hro : Fence.wide.round = none := rfl
  refine callsIn_of_wp_marks Try.func22 rfl trivial ?_ hro
  simp only [Try.ntmps22, List.size_toArray, List.length_cons, List.length_nil, Nat.reduceAdd, Nat.reduceSub, Array.replicate_succ, Array.replicate_zero, List.push_toArray, List.append_toArray, List.nil_append, List.cons_append]
  gi_wp2
  refine ⟨trivial, ?_⟩
  gi_at_call 37
  refine (callsIn_wide.2 (namedValues_any _ _ _ _ _ _ _ _ _)).mono ?_
  rintro e w' ⟨rfl, rfl⟩
  gi_wp2
  obtain ⟨hA1, hA2, hA3⟩ := allocs_spec [.cells #[.string ByteArray.empty, .bool false, .pointer none, .int .i64 0, .int .i64 0, .int .i64 0, .slice none 0 0, .int .i64 0] 48, .cells #[.slice none 0 0] 45, .cells #[.string ByteArray.empty, .bool false, .pointer none, .int .i64 0, .int .i64 0, .int .i64 0, .slice none 0 0, .int .i64 0] 48] w
  change Code.wpIn Fence.wide 7 Try.prog _ _ _ (allocs w [.cells #[.string ByteArray.empty, .bool false, .pointer none, .int .i64 0, .int .i64 0, .int .i64 0, .slice none 0 0, .int .i64 0] 48, .cells #[.slice none 0 0] 45, .cells #[.string ByteArray.empty, .bool false, .pointer none, .int .i64 0, .int .i64 0, .int .i64 0, .slice none 0 0, .int .i64 0] 48])
  generalize allocs w [.cells #[.string ByteArray.empty, .bool false, .pointer none, .int .i64 0, .int .i64 0, .int .i64 0, .slice none 0 0, .int .i64 0] 48, .cells #[.slice none 0 0] 45, .cells #[.string ByteArray.empty, .bool false, .pointer none, .int .i64 0, .int .i64 0, .int .i64 0, .slice none 0 0, .int .i64 0] 48] = W0 at *
  have f1 : W0.heap[w.heap.size + 1]? = _ := hA3 1
  have f2 : W0.heap[w.heap.size + 1 + 1]? = _ := hA3 2
  simp only [List.getElem?_cons_zero, List.getElem?_cons_succ, List.length_cons, List.length_nil] at f1 f2 hA2
  refine over_empty (Z := Z3) rfl (enters_of Try.func47 (by kernel_rfl) rfl) (values1_nil (7 - 1) _ _ W0 f2) (fun V => Below W0.heap.size W0 V) (fun _ A A' h ht => h.trans (turn_below ht (Nat.le_refl _) h.size rfl)) (Below.refl _ _) ?_
  intro D V hD hj hK
  have c1 := cell_at (i := 0) ((hj.block _ (by omega)).trans f1) rfl
  have hlt : w.heap.size ≤ W0.heap.size := hA1.size
  have HB : Hid (Below w.heap.size w V) := hA1.trans (hj.mono hlt)
  clear hj hA3
  gi_wp2
  refine ⟨by simp, .inl ⟨_, _, rfl, run_takeDeferred hK, ?_⟩⟩
  exact ⟨_, results_tmp rfl _ _ _, HB.out.trans (below_putObj (by omega)), rfl⟩
end Go.Proofs.Qxb6618677a
