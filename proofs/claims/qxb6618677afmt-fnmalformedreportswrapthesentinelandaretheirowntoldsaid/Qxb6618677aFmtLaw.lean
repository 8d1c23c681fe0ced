/-
  THE LAW's OWN WALK (function 3): two reports by 'mal_any', five calls of errors.Is by their contracts.
-/
import Derived.Test.Qxb6618677aFmtMal
import Derived.Stop.LaidErr
namespace Go.Proofs.Qxb6618677aFmt
open Go.RowKit Go.Extern.Stop Go.Stop Go.Extern

theorem heap_alloc_old {w : World} {k : Nat} {o x : Obj} (h : w.heap[k]? = some x) : (w.alloc o).heap[k]? = some x := by
  have hlt : k < w.heap.size := by
    rcases Nat.lt_or_ge k w.heap.size with h' | h'
    · exact h'
    · simp [Array.getElem?_eq_none h'] at h
  show (w.heap.push o)[k]? = _
  simp only [Array.getElem?_push, Nat.ne_of_lt hlt, if_false]
  exact h
theorem heap_alloc_at (w : World) (o : Obj) : (w.alloc o).heap[w.heap.size]? = some o := by
  show (w.heap.push o)[w.heap.size]? = _
  simp

theorem mal_size (a : Addr) (r t : ByteArray) (w : World) : (malWorld a r t w).heap.size = w.heap.size + 2 := by
  show ((w.heap.push _).push _).size = _
  simp
theorem mal_old {a : Addr} {r t : ByteArray} {w : World} {k : Nat} {x : Obj} (h : w.heap[k]? = some x) : (malWorld a r t w).heap[k]? = some x :=
  heap_alloc_old (heap_alloc_old h)
theorem mal_new (a : Addr) (r t : ByteArray) (w : World) : (malWorld a r t w).heap[w.heap.size + 1]? = some (.cells #[.string t, .iface 46 (.pointer (some a))] 75 (0, 0)) := by
  have := heap_alloc_at (w.alloc (.cells #[.iface 46 (.pointer (some a)), .iface 9 (.string r)] 20)) (.cells #[.string t, .iface 46 (.pointer (some a))] 75)
  have e : (w.alloc (.cells #[.iface 46 (.pointer (some a)), .iface 9 (.string r)] 20)).heap.size = w.heap.size + 1 := by
    show (w.heap.push _).size = _
    simp
  rw [e] at this
  exact this
theorem cell_of_heap {w : World} {k i : Nat} {c : Array Value} {t : TypeId} {v : Value} (h : w.heap[k]? = some (.cells c t (0, 0))) (hi : c[i]? = some v) : w.cell? ⟨k, i, none⟩ = some v := by
  simp [World.cell?, h, hi]
theorem mal_cell {a : Addr} {r t : ByteArray} {w : World} {b : Addr} {v : Value} (h : w.cell? b = some v) : (malWorld a r t w).cell? b = some v :=
  cell?_alloc_old _ (cell?_alloc_old _ h)
theorem mal_inner (a : Addr) (r t : ByteArray) (w : World) : (malWorld a r t w).cell? ⟨w.heap.size + 1, 0 + 1, none⟩ = some (.iface 46 (.pointer (some a))) :=
  cell_of_heap (mal_new a r t w) (by simp)
theorem mal_tape (a : Addr) (r t : ByteArray) (w : World) : (malWorld a r t w).tape = w.tape := rfl

set_option maxHeartbeats 400000 in
theorem law_big (r1 r2 : ByteArray) (w : World) (h1 : r1.size ≤ maxLen) (h2 : r2.size ≤ maxLen) (h : 1048576 < r1.size + r2.size) :
    Calls Tryf.prog 3 #[.string r1, .string r2] w fun e w' => e = .returned (.bool true) ∧ w' = w := by
  unfold maxLen at h1 h2
  by_cases c1 : 1048576 < r1.size
  · go_enter Tryf.func3, Tryf.ntmps3
    go_wp2
    go_ret
    exact ⟨rfl, rfl⟩
  · by_cases c2 : 1048576 < r2.size
    · go_enter Tryf.func3, Tryf.ntmps3
      go_wp2
      go_ret
      exact ⟨rfl, rfl⟩
    · go_enter Tryf.func3, Tryf.ntmps3
      go_wp2
      go_ret
      exact ⟨rfl, rfl⟩

set_option maxHeartbeats 400000 in
theorem law_small (F : Interp) (r1 r2 : ByteArray) (a : Addr) (s : ByteArray) (w : World) (hF : F.answers w.tape) (hg : w.cell? ⟨0, 0, none⟩ = some (.iface 46 (.pointer (some a)))) (hc : w.cell? a = some (.string s))
    (h : r1.size + r2.size ≤ 1048576) :
    Calls Tryf.prog 3 #[.string r1, .string r2] w fun e w' => e = .returned (.bool true) ∧ ∃ t1 t2, w' = malWorld a r2 t2 (malWorld a r1 t1 w) := by
  go_enter Tryf.func3, Tryf.ntmps3
  go_wp2_with (go_at_call 4; go_in)
  refine (mal_any F r1 a s _ hF hg (cell?_alloc_old _ hc)).mono ?_
  rintro e w1 ⟨rfl, t1, rfl⟩
  have hF1 : F.answers (malWorld a r1 t1 w).tape := hF
  have hg1 := mal_cell (a := a) (r := r1) (t := t1) hg
  have hc1 := mal_cell (a := a) (r := r1) (t := t1) hc
  have hz1 := mal_size a r1 t1 w
  have hi1 := mal_inner a r1 t1 w
  have hn1 := mal_new a r1 t1 w
  generalize hW1 : malWorld a r1 t1 w = W1 at *
  have HW1 : Hid (malWorld a r1 t1 w = W1) := hW1
  clear hW1
  have HZ1 : Hid (W1.heap.size = w.heap.size + 2) := hz1
  clear hz1
  go_wp2_with fail
  refine (mal_any F r2 a s _ hF1 hg1 (cell?_alloc_old _ hc1)).mono ?_
  rintro e w2 ⟨rfl, t2, rfl⟩
  have hg2 := mal_cell (a := a) (r := r2) (t := t2) hg1
  have hi12 := mal_cell (a := a) (r := r2) (t := t2) hi1
  have hi2 := mal_inner a r2 t2 W1
  have hn12 := mal_old (a := a) (r := r2) (t := t2) hn1
  have hn2 := mal_new a r2 t2 W1
  generalize hW2 : malWorld a r2 t2 W1 = W2 at *
  have HW2 : Hid (malWorld a r2 t2 W1 = W2) := hW2
  clear hW2
  have hne : w.heap.size + 1 ≠ W1.heap.size + 1 := by have := HZ1.out; omega
  generalize hP : w.heap.size + 1 = p at *
  generalize hQ : W1.heap.size + 1 = q at *
  clear hP hQ HZ1 hg hc hg1 hc1 hi1 hn1
  have HN1 : Hid (W2.heap[p]? = some (.cells #[.string t1, .iface 46 (.pointer (some a))] 75 (0, 0))) := hn12
  have HN2 : Hid (W2.heap[q]? = some (.cells #[.string t2, .iface 46 (.pointer (some a))] 75 (0, 0))) := hn2
  clear hn12 hn2
  go_wp2_with fail
  refine (is_wrap_same p 0 a _ hi12).mono ?_
  rintro e w' ⟨rfl, rfl⟩
  go_wp2_with fail
  refine (is_wrap_same q 0 a _ hi2).mono ?_
  rintro e w' ⟨rfl, rfl⟩
  go_wp2_with fail
  refine (is_wrap_wrap p q a _ _ _ _ _ hi12 hne HN1.out HN2.out).mono ?_
  rintro e w' ⟨rfl, rfl⟩
  go_wp2_with fail
  refine (is_wrap_wrap q p a _ _ _ _ _ hi2 hne.symm HN2.out HN1.out).mono ?_
  rintro e w' ⟨rfl, rfl⟩
  go_wp2_with fail
  refine (is_plain_wrap p a _).mono ?_
  rintro e w' ⟨rfl, rfl⟩
  go_wp2_with fail
  go_ret
  exact ⟨rfl, t1, t2, by rw [HW1.out, HW2.out]⟩

end Go.Proofs.Qxb6618677aFmt
