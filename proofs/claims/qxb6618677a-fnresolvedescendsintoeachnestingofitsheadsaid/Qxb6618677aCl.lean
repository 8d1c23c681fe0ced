/-
  slices.Clone of a []string; ZZNamedParts.
-/
import Derived.Test.Qxb6618677aNl
namespace Go.Proofs.Qxb6618677a
open Go.RowKit Go.Shelf

theorem Try.nil45 (w : World) (a : Option Addr) (n c : Nat) : (binOp .eql 45 (.slice a n c) (.slice none 0 0)).run Try.prog w = .ok (.bool a.isNone) w := Lib.run_eql_slice_nil w 45 9 a n c 0 0 Try.underlying45

set_option maxRecDepth 100000 in
theorem clone_any (v : Value) (g : Nat) (P : List ByteArray) (w : World) (h : StrRow w v g P) (hl : P.length ≤ 1048576) :
    Calls Try.prog 33 #[v] w fun e w' => Below w.heap.size w w' ∧ ∃ v' g', e = .returned v' ∧ StrRow w' v' g' P ∧ w.heap.size ≤ g' := by
  obtain ⟨o, c, rfl, hc, hcm, hcell⟩ := h.ex
  have hlt := h.lt
  obtain ⟨i9, hi9, hz9, hs9, hb9⟩ := info_parts Try.info9
  have hnl := Try.nil45
  have hnews : ∀ j u, (P.map Value.string)[j]? = some u → (w.alloc (.cells #[] 9)).cell? ((⟨g, o, none⟩ : Addr).add j) = some u := fun j u hu => by
    rw [List.getElem?_map] at hu
    obtain ⟨p, hp, rfl⟩ := Option.map_eq_some_iff.1 hu
    rw [Go.WideShapes.add_plain]
    have := hcell j p hp
    rw [World.cell?_of_block (w := w) (Below.heap_alloc w _ g hlt)]
    exact this
  have hone : ∀ u ∈ P.map Value.string, u.oneCell' = true := fun u hu => by
    obtain ⟨p, _, rfl⟩ := List.mem_map.1 hu
    rfl
  have hmade := World.ownsRow_made (base := w.heap.size) (e := 9) (size := 1) w #[] 0 (Nat.le_refl _) (by simp) rfl
  have HN : Hid ((∀ j u, (P.map Value.string)[j]? = some u → (w.alloc (.cells #[] 9)).cell? ((⟨g, o, none⟩ : Addr).add j) = some u) ∧ (∀ u ∈ P.map Value.string, u.oneCell' = true) ∧ (w.alloc (.cells #[] 9)).ownsRow w.heap.size 9 1 (.slice (some ⟨w.heap.size, 0, none⟩) 0 0) 0 []) := ⟨hnews, hone, hmade⟩
  clear hnews hone hmade hcell h
  go_enter Try.func33, Try.ntmps33
  go_wp2_with (at_builtin; go_must (refine wpList_append_own_at _ rfl _ _ 45 rfl w.heap.size 9 i9 _ 1 16 Try.underlying45 hi9 hz9 hs9 hb9 rfl (by decide) _ _ _ rfl HN.out.2.2 ⟨g, o, none⟩ P.length c (P.map .string) rfl (by simp) HN.out.1 HN.out.2.1 (by unfold maxLen; omega) (by omega) (by simp) ?_); intro v' w1 hown hgrow hnil hat)
  go_ret
  have hB : Below w.heap.size w w1 := (((Below.refl _ w).alloc (Nat.le_refl _) _).grown hgrow (by simp) (fun k hk => by cases hk; exact Nat.le_refl _))
  rcases hown.2 with ⟨h1, _⟩ | ⟨g', cap, cur, hv, hg, hh, hn, hm, hsz, hr⟩
  · exact absurd (hnil.1 h1).1 (by simp [Act.eval])
  · subst hv
    refine ⟨hB, _, g', rfl, ⟨⟨0, cap, by simp, by omega, hm, fun i q hq => ?_⟩, (Array.getElem?_eq_some_iff.1 hh).1⟩, hg⟩
    have hi : i < P.length := (List.getElem?_eq_some_iff.1 hq).1
    have := hown.cellAt i (by omega)
    rw [Nat.zero_add, this, List.nil_append, List.getElem?_map, hq]
    rfl
end Go.Proofs.Qxb6618677a
