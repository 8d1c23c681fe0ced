/-
  ZZNamedParts.
-/
import Derived.Test.Qxb6618677aCl
import Derived.Deep.RegionHeld3
namespace Go.Proofs.Qxb6618677a
open Go.RowKit Go.Shelf

set_option maxRecDepth 100000 in
set_option maxHeartbeats 1000000 in
theorem namedParts_any (nm : ByteArray) (nest : Bool) (tp : Option Addr) (i0 x0 sk : Int) (pa : Option Addr) (pl pc : Nat) (ix : Int) (w : World) :
    Calls Try.prog 23 #[.agg #[.string nm, .bool nest, .pointer tp, .int .i64 i0, .int .i64 x0, .int .i64 sk, .slice pa pl pc, .int .i64 ix]] w fun e w' => e = .returned (.tuple #[.agg #[.pointer tp, .int .i64 i0, .int .i64 x0, .int .i64 sk], .slice pa pl pc, .int .i64 ix]) ∧ Below w.heap.size w w' := by
  go_enter Try.func23, Try.ntmps23
  go_wp2
  obtain ⟨hA1, hA2, hA3⟩ := allocs_spec [.cells #[.string nm, .bool nest, .pointer tp, .int .i64 i0, .int .i64 x0, .int .i64 sk, .slice pa pl pc, .int .i64 ix] 48, .cells #[.pointer none, .int .i64 0, .int .i64 0, .int .i64 0] 35] w
  change Code.wp Try.prog _ _ _ (allocs w [.cells #[.string nm, .bool nest, .pointer tp, .int .i64 i0, .int .i64 x0, .int .i64 sk, .slice pa pl pc, .int .i64 ix] 48, .cells #[.pointer none, .int .i64 0, .int .i64 0, .int .i64 0] 35])
  generalize allocs w [.cells #[.string nm, .bool nest, .pointer tp, .int .i64 i0, .int .i64 x0, .int .i64 sk, .slice pa pl pc, .int .i64 ix] 48, .cells #[.pointer none, .int .i64 0, .int .i64 0, .int .i64 0] 35] = W0 at *
  have f0 : W0.heap[w.heap.size]? = _ := hA3 0
  have f1 : W0.heap[w.heap.size + 1]? = _ := hA3 1
  simp only [List.getElem?_cons_zero, List.getElem?_cons_succ, List.length_cons, List.length_nil] at f0 f1 hA2
  clear hA3
  have c2 : W0.cell? ⟨w.heap.size, 2, none⟩ = some (.pointer tp) := cell_at f0 rfl
  have c3 : W0.cell? ⟨w.heap.size, 3, none⟩ = some (.int .i64 i0) := cell_at f0 rfl
  have c4 : W0.cell? ⟨w.heap.size, 4, none⟩ = some (.int .i64 x0) := cell_at f0 rfl
  have c5 : W0.cell? ⟨w.heap.size, 5, none⟩ = some (.int .i64 sk) := cell_at f0 rfl
  have c6 : W0.cell? ⟨w.heap.size, 6, none⟩ = some (.slice pa pl pc) := cell_at f0 rfl
  have c7 : W0.cell? ⟨w.heap.size, 7, none⟩ = some (.int .i64 ix) := cell_at f0 rfl
  have d0 : W0.cell? ⟨w.heap.size + 1, 0, none⟩ = some (.pointer none) := cell_at f1 rfl
  have d1 : W0.cell? ⟨w.heap.size + 1, 1, none⟩ = some (.int .i64 0) := cell_at f1 rfl
  have d2 : W0.cell? ⟨w.heap.size + 1, 2, none⟩ = some (.int .i64 0) := cell_at f1 rfl
  have d3 : W0.cell? ⟨w.heap.size + 1, 3, none⟩ = some (.int .i64 0) := cell_at f1 rfl
  have e0 : W0.frozen? ⟨w.heap.size + 1, 0, none⟩ = false := by simp [World.frozen?, f1]
  have e1 : W0.frozen? ⟨w.heap.size + 1, 1, none⟩ = false := by simp [World.frozen?, f1]
  have e2 : W0.frozen? ⟨w.heap.size + 1, 2, none⟩ = false := by simp [World.frozen?, f1]
  have e3 : W0.frozen? ⟨w.heap.size + 1, 3, none⟩ = false := by simp [World.frozen?, f1]
  have HA : Hid (Below w.heap.size w W0) := hA1
  have n1 : w.heap.size + 1 ≠ w.heap.size := by omega
  have n2 : w.heap.size ≤ w.heap.size + 1 := by omega
  generalize w.heap.size + 1 = b1 at *
  clear f0 f1 hA1 hA2
  go_region_held3 (fun w' => w'.cell? ⟨w.heap.size, 2, none⟩ = some (.pointer tp) ∧ w'.cell? ⟨w.heap.size, 3, none⟩ = some (.int .i64 i0) ∧ w'.cell? ⟨w.heap.size, 4, none⟩ = some (.int .i64 x0) ∧ w'.cell? ⟨w.heap.size, 5, none⟩ = some (.int .i64 sk) ∧ w'.cell? ⟨w.heap.size, 6, none⟩ = some (.slice pa pl pc) ∧ w'.cell? ⟨w.heap.size, 7, none⟩ = some (.int .i64 ix)) (go_keep) (fail)
  all_goals go_wp2
  all_goals (try simp only [Exit.inBlock, Exit.then])
  all_goals refine bodyPost_ret (v := .tuple #[.agg #[.pointer tp, .int .i64 i0, .int .i64 x0, .int .i64 sk], .slice pa pl pc, .int .i64 ix]) ?_ rfl ⟨rfl, ?_⟩
  all_goals first
    | exact ((((HA.out.setCell n2 _).setCell n2 _).setCell n2 _).setCell n2 _).drew
    | simp [results, Try.results23, go_sem, d0, d1, d2, d3]
end Go.Proofs.Qxb6618677a
