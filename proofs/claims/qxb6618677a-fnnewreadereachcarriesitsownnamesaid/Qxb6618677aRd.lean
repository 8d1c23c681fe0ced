/-
  bufio.NewReaderSize, stif.ZZNewReaderString, stif.ZZReaderPos: what each call lays and reads.
-/
import Derived.Test.Qxb6618677aProg
import Derived.WalkKit
import Derived.WalkSpells
import Derived.WalkLawsBesides
import Derived.Deep.OwnRows
import Derived.LaidEqlPtr
import Derived.BigQuiet
namespace Go.Proofs.Qxb6618677a
open Go.RowKit

theorem Try.info5 : (Try.prog.info? 5).map (fun i => (i.zero, i.size, i.bytes)) = some (some (.int .u8 0), 1, 1) := by kernel_rfl
theorem Try.notBufio (v : Value) (w : World) : (Instr.typeAssert (.iface 60 v) 91 107 true).run Try.prog w = .ok (.tuple #[.pointer none, .bool false]) w := by kernel_rfl
def zerosN (k : Nat) : Array Value := madeCells #[.int .u8 0] k

set_option maxRecDepth 100000 in
set_option maxHeartbeats 400000 in
theorem newReaderSize_any (a : Addr) (n : Int) (w : World) (h1 : 16 ≤ n) (h2 : n ≤ 65536) :
    Calls Try.prog 53 #[.iface 60 (.pointer (some a)), .int .i64 n] w fun e w' => e = .returned (.pointer (some ⟨w.heap.size, 0, none⟩)) ∧ ∃ cs zs, w' = (w.alloc (.cells cs 122)).alloc (.cells zs 5) := by
  obtain ⟨k, rfl⟩ := Int.eq_ofNat_of_zero_le (show 0 ≤ n by omega)
  have hmk := fun w => run_make_row' (P := Try.prog) 96 5 (.int .u8 0) 1 Try.underlying96 Try.info5 rfl .i64 .i64 k (by omega) (by omega) w
  change ∀ w : World, (Instr.makeSlice 96 (.int .i64 (k : Int)) (.int .i64 (k : Int))).run Try.prog w = .ok (.slice (some ⟨w.heap.size, 0, none⟩) k k) (w.alloc (.cells (zerosN k) 5)) at hmk
  have hta := Try.notBufio
  go_enter Try.func53, Try.ntmps53
  go_wp2
  go_end0
  go_wp2
  go_ret
  exact ⟨rfl, _, _, rfl⟩

/-- The world behind ZZNewReaderString: six new blocks. -/
def rdWorld (src name : ByteArray) (cs zs : Array Value) (w : World) : World :=
  (((((w.alloc (.cells #[.string src, .int .i64 0, .int .i64 (-1)] 94)).alloc (.cells cs 122)).alloc (.cells zs 5)).alloc
    (.cells #[.pointer (some ⟨w.heap.size + 1, 0, none⟩), .string name, .int .i64 0, .slice none 0 0, .nilIface, .bool false, .slice none 0 0, .bool false, .bool false] 111)).alloc
    (.cells #[.pointer (some ⟨w.heap.size + 3, 0, none⟩), .slice none 0 0, .bool false, .bool false, .bool false] 98)).alloc (.cells #[.pointer (some ⟨w.heap.size + 4, 0, none⟩)] 66)

set_option maxRecDepth 100000 in
set_option maxHeartbeats 400000 in
theorem newReaderString_any (src name : ByteArray) (w : World) :
    Calls Try.prog 9 #[.string src, .string name] w fun e w' => e = .returned (.pointer (some ⟨w.heap.size + 5, 0, none⟩)) ∧ ∃ cs zs, w' = rdWorld src name cs zs w := by
  go_enter Try.func9, Try.ntmps9
  go_wp2_with (first | (go_at_call 53; refine (newReaderSize_any _ _ _ (by omega) (by omega)).mono ?_; rintro e w' ⟨rfl, cs, zs, rfl⟩) | go_in)
  go_ret
  exact ⟨rfl, _, _, rfl⟩

set_option maxRecDepth 100000 in
set_option maxHeartbeats 400000 in
theorem linesPos_any (d : Nat) (name : ByteArray) (w : World) (ld : d < w.heap.size)
    (h1 : w.cell? ⟨d, 1, none⟩ = some (.string name)) (h2 : w.cell? ⟨d, 1 + 1, none⟩ = some (.int .i64 0)) :
    Calls Try.prog 39 #[.pointer (some ⟨d, 0, none⟩)] w fun e w' => e = .returned (.agg #[.string name, .int .i64 0]) ∧ w' = w.alloc (.cells #[.string name, .int .i64 0] 63) := by
  go_enter Try.func39, Try.ntmps39
  go_wp2
  exact bodyPost_ret (v := .agg #[.string name, .int .i64 0]) (by simp [results, Try.results39, go_sem]) rfl ⟨rfl, rfl⟩

set_option maxRecDepth 100000 in
set_option maxHeartbeats 400000 in
theorem unfolderPos_any (c d : Nat) (name : ByteArray) (w : World) (lc : c < w.heap.size) (ld : d < w.heap.size) (hc : w.cell? ⟨c, 0, none⟩ = some (.pointer (some ⟨d, 0, none⟩)))
    (h1 : w.cell? ⟨d, 1, none⟩ = some (.string name)) (h2 : w.cell? ⟨d, 1 + 1, none⟩ = some (.int .i64 0)) :
    Calls Try.prog 29 #[.pointer (some ⟨c, 0, none⟩)] w fun e w' => e = .returned (.agg #[.string name, .int .i64 0]) ∧ w' = (w.alloc (.cells #[.string name, .int .i64 0] 63)).alloc (.cells #[.string name, .int .i64 0] 63) := by
  have h1' : ∀ o, (w.alloc o).cell? ⟨d, 1, none⟩ = some (.string name) := fun o => cell_later ((Below.refl _ w).alloc (Nat.le_refl _) o) h1
  have h2' : ∀ o, (w.alloc o).cell? ⟨d, 1 + 1, none⟩ = some (.int .i64 0) := fun o => cell_later ((Below.refl _ w).alloc (Nat.le_refl _) o) h2
  go_enter Try.func29, Try.ntmps29
  go_wp2_with (go_at_call 39; refine (linesPos_any d name _ ?_ ?_ ?_).mono ?_; simp; omega; exact h1' _; exact h2' _; rintro e w' ⟨rfl, rfl⟩)
  exact bodyPost_ret (v := .agg #[.string name, .int .i64 0]) (by simp [results, Try.results29, go_sem]) rfl ⟨rfl, rfl⟩

set_option maxRecDepth 100000 in
set_option maxHeartbeats 400000 in
theorem readerPos_any (b c d : Nat) (name : ByteArray) (w : World) (_lb : b < w.heap.size) (lc : c < w.heap.size) (ld : d < w.heap.size) (hb : w.cell? ⟨b, 0, none⟩ = some (.pointer (some ⟨c, 0, none⟩))) (hc : w.cell? ⟨c, 0, none⟩ = some (.pointer (some ⟨d, 0, none⟩)))
    (h1 : w.cell? ⟨d, 1, none⟩ = some (.string name)) (h2 : w.cell? ⟨d, 1 + 1, none⟩ = some (.int .i64 0)) :
    Calls Try.prog 10 #[.pointer (some ⟨b, 0, none⟩)] w fun e w' => e = .returned (.tuple #[.string name, .int .i64 0]) ∧ Grown w w' := by
  go_enter Try.func10, Try.ntmps10
  go_wp2_with (go_at_call 29; refine (unfolderPos_any c d name _ lc ld hc h1 h2).mono ?_; rintro e w' ⟨rfl, rfl⟩)
  go_quiet (fail)
  go_wp2
  go_ret2
  exact ⟨rfl, by repeat (first | exact Grown.refl _ | apply Grown.drew | apply Grown.alloc)⟩

theorem heapAt_old {w : World} {k : Nat} {o x : Obj} (h : w.heap[k]? = some x) : (w.alloc o).heap[k]? = some x := by
  have hlt := (Array.getElem?_eq_some_iff.1 h).1
  show (w.heap.push o)[k]? = _
  simp only [Array.getElem?_push, Nat.ne_of_lt hlt, if_false]
  exact h
theorem heapAt_new {w : World} {n : Nat} (o : Obj) (hn : w.heap.size = n) : (w.alloc o).heap[n]? = some o := by
  subst hn
  show (w.heap.push o)[w.heap.size]? = _
  simp
theorem size_alloc' {w : World} {n : Nat} (o : Obj) (hn : w.heap.size = n) : (w.alloc o).heap.size = n + 1 := by
  subst hn
  show (w.heap.push o).size = _
  simp
theorem cellAt {w : World} {k i : Nat} {c : Array Value} {t : TypeId} {v : Value} (h : w.heap[k]? = some (.cells c t (0, 0))) (hi : c[i]? = some v) : w.cell? ⟨k, i, none⟩ = some v := by
  simp [World.cell?, h, hi]

section
variable (src name : ByteArray) (cs zs : Array Value) (w : World)
theorem rd_size : (rdWorld src name cs zs w).heap.size = w.heap.size + 6 :=
  size_alloc' _ (size_alloc' _ (size_alloc' _ (size_alloc' _ (size_alloc' _ (size_alloc' _ rfl)))))
theorem rd_top : (rdWorld src name cs zs w).heap[w.heap.size + 5]? = some (.cells #[.pointer (some ⟨w.heap.size + 4, 0, none⟩)] 66 (0, 0)) :=
  heapAt_new _ (size_alloc' _ (size_alloc' _ (size_alloc' _ (size_alloc' _ (size_alloc' _ rfl)))))
theorem rd_unf : (rdWorld src name cs zs w).heap[w.heap.size + 4]? = some (.cells #[.pointer (some ⟨w.heap.size + 3, 0, none⟩), .slice none 0 0, .bool false, .bool false, .bool false] 98 (0, 0)) :=
  heapAt_old (heapAt_new _ (size_alloc' _ (size_alloc' _ (size_alloc' _ (size_alloc' _ rfl)))))
theorem rd_lines : (rdWorld src name cs zs w).heap[w.heap.size + 3]? = some (.cells #[.pointer (some ⟨w.heap.size + 1, 0, none⟩), .string name, .int .i64 0, .slice none 0 0, .nilIface, .bool false, .slice none 0 0, .bool false, .bool false] 111 (0, 0)) :=
  heapAt_old (heapAt_old (heapAt_new _ (size_alloc' _ (size_alloc' _ (size_alloc' _ rfl)))))
theorem rd_old {k : Nat} {x : Obj} (h : w.heap[k]? = some x) : (rdWorld src name cs zs w).heap[k]? = some x :=
  heapAt_old (heapAt_old (heapAt_old (heapAt_old (heapAt_old (heapAt_old h)))))
theorem rd_grown {W : World} (h : Grown W w) : Grown W (rdWorld src name cs zs w) :=
  (((((h.alloc _ _).alloc _ _).alloc _ _).alloc _ _).alloc _ _).alloc _ _
end

/-- What a reader at block b that carries 'name' is, in memory. -/
structure Reads (w : World) (b : Nat) (name : ByteArray) : Prop where
  top : w.heap[b + 5]? = some (.cells #[.pointer (some ⟨b + 4, 0, none⟩)] 66 (0, 0))
  unf : w.heap[b + 4]? = some (.cells #[.pointer (some ⟨b + 3, 0, none⟩), .slice none 0 0, .bool false, .bool false, .bool false] 98 (0, 0))
  lines : w.heap[b + 3]? = some (.cells #[.pointer (some ⟨b + 1, 0, none⟩), .string name, .int .i64 0, .slice none 0 0, .nilIface, .bool false, .slice none 0 0, .bool false, .bool false] 111 (0, 0))
theorem Reads.new (src name : ByteArray) (cs zs : Array Value) (w : World) : Reads (rdWorld src name cs zs w) w.heap.size name := ⟨rd_top .., rd_unf .., rd_lines ..⟩
theorem Reads.later {w : World} {b : Nat} {name : ByteArray} (h : Reads w b name) (src' name' : ByteArray) (cs zs : Array Value) : Reads (rdWorld src' name' cs zs w) b name :=
  ⟨rd_old _ _ _ _ _ h.top, rd_old _ _ _ _ _ h.unf, rd_old _ _ _ _ _ h.lines⟩
theorem Reads.grown {w w' : World} {b : Nat} {name : ByteArray} (h : Reads w b name) (g : Grown w w') : Reads w' b name :=
  ⟨((World.keptBut_none_iff.1 g.1).2.2 _ (Array.getElem?_eq_some_iff.1 h.top).1).trans h.top, ((World.keptBut_none_iff.1 g.1).2.2 _ (Array.getElem?_eq_some_iff.1 h.unf).1).trans h.unf, ((World.keptBut_none_iff.1 g.1).2.2 _ (Array.getElem?_eq_some_iff.1 h.lines).1).trans h.lines⟩

/-- ZZReaderPos at such a reader. -/
theorem readerPos (b : Nat) (name : ByteArray) (w : World) (h : Reads w b name) :
    Calls Try.prog 10 #[.pointer (some ⟨b + 5, 0, none⟩)] w fun e w' => e = .returned (.tuple #[.string name, .int .i64 0]) ∧ Grown w w' :=
  readerPos_any (b + 5) (b + 4) (b + 3) name w (Array.getElem?_eq_some_iff.1 h.top).1 (Array.getElem?_eq_some_iff.1 h.unf).1 (Array.getElem?_eq_some_iff.1 h.lines).1
    (cellAt h.top (by simp)) (cellAt h.unf (by simp)) (cellAt h.lines (by simp)) (cellAt h.lines (by simp))

end Go.Proofs.Qxb6618677a
