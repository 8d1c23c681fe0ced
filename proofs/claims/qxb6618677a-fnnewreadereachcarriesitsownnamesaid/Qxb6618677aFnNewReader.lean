import Derived.Test.Qxb6618677aRd
namespace Go.Proofs.Qxb6618677a
open Go.RowKit
theorem Try.info66 : (Try.prog.info? 66).map (fun i => i.size) = some 1 := by kernel_rfl
theorem grown_trans {A B C : World} (h : Grown A B) (k : Grown B C) : Grown A C :=
  ⟨World.keptBut_trans h.1 k.1, fun a => (k.2.1 a).trans (h.2.1 a), Nat.le_trans h.2.2 k.2.2⟩

set_option maxRecDepth 100000 in
set_option maxHeartbeats 1000000 in
theorem new_small (a0 a1 a2 a3 : ByteArray) (w : World) (h : a0.size + a1.size + a2.size + a3.size ≤ 1048576) :
    Calls Try.prog 3 #[.string a0, .string a1, .string a2, .string a3] w fun e w' => e = .returned (.bool true) ∧ Grown w w' := by
  obtain ⟨j, hj, hjs⟩ := Option.map_eq_some_iff.1 Try.info66
  go_enter Try.func3, Try.ntmps3
  go_wp2_with (go_at_call 8; go_in)
  refine (newReaderString_any a0 a1 _).mono ?_
  rintro e w1 ⟨rfl, cs, zs, rfl⟩
  have hR1 := Reads.new a0 a1 cs zs w
  have hz1 := rd_size a0 a1 cs zs w
  have hG1 := rd_grown a0 a1 cs zs w (Grown.refl w)
  generalize rdWorld a0 a1 cs zs w = W1 at *
  have HR1 : Hid (Reads W1 w.heap.size a1) := hR1
  have HG1 : Hid (Grown w W1) := hG1
  have HZ1 : Hid (W1.heap.size = w.heap.size + 6) := hz1
  clear hR1 hG1 hz1
  go_wp2_with fail
  refine (newReaderString_any a2 a3 _).mono ?_
  rintro e w2 ⟨rfl, cs', zs', rfl⟩
  have HR2 : Hid (Reads (rdWorld a2 a3 cs' zs' W1) W1.heap.size a3) := Reads.new a2 a3 cs' zs' W1
  have HR1' : Hid (Reads (rdWorld a2 a3 cs' zs' W1) w.heap.size a1) := HR1.out.later a2 a3 cs' zs'
  have HG2 : Hid (Grown w (rdWorld a2 a3 cs' zs' W1)) := rd_grown a2 a3 cs' zs' W1 HG1.out
  generalize rdWorld a2 a3 cs' zs' W1 = W2 at *
  have hne : (⟨w.heap.size + 5, 0, none⟩ : Addr) ≠ ⟨W1.heap.size + 5, 0, none⟩ := by
    have := HZ1.out
    intro hh
    have := congrArg Addr.block hh
    simp at this
    omega
  have heq := run_eql_ptr_other (P := Try.prog) (w := W2) Try.underlying23 hj (by rw [hjs]; decide) hne HR1'.out.top HR2.out.top
  clear hne
  go_wp2_with fail
  refine (readerPos _ a1 _ HR1'.out).mono ?_
  rintro e w3 ⟨rfl, hG3⟩
  have HR3 : Hid (Reads w3 W1.heap.size a3) := HR2.out.grown hG3
  have HG3 : Hid (Grown w w3) := grown_trans HG2.out hG3
  clear hG3 heq
  go_wp2_with fail
  refine (readerPos _ a3 _ HR3.out).mono ?_
  rintro e w4 ⟨rfl, hG4⟩
  have HG4 : Hid (Grown w w4) := grown_trans HG3.out hG4
  clear hG4
  go_wp2_with fail
  go_ret
  exact ⟨rfl, HG4.out⟩

set_option maxRecDepth 100000 in
set_option maxHeartbeats 1000000 in
theorem new_big (a0 a1 a2 a3 : ByteArray) (w0 : a0.size ≤ maxLen) (w1 : a1.size ≤ maxLen) (w2 : a2.size ≤ maxLen) (w3 : a3.size ≤ maxLen) (w : World) (h : 1048576 < a0.size + a1.size + a2.size + a3.size) :
    Calls Try.prog 3 #[.string a0, .string a1, .string a2, .string a3] w fun e w' => e = .returned (.bool true) ∧ Grown w w' := by
  unfold maxLen at w0 w1 w2 w3
  go_enter Try.func3, Try.ntmps3
  go_wp2
  all_goals
    go_ret
    exact ⟨rfl, Grown.refl _⟩
end Go.Proofs.Qxb6618677a
