/-
  stif.ZZNamedValues: a slice of what (Named).Values yields.
-/
import Derived.Test.Qxb6618677aHs
namespace Go.Proofs.Qxb6618677a
open Go.RowKit Go.Shelf
attribute [local go_sem] Oper.semAt_some

theorem Try.info9 : (Try.prog.info? 9).map (fun i => (i.zero, i.size, i.bytes)) = some (some (.string ByteArray.empty), 1, 16) := by kernel_rfl

theorem Upd.turn {n1 : Nat} {Bs : List Nat} {es : List TypeId} {Z : TypeId → Prop} {W0 A A' : World} (h : Upd n1 Bs es W0 A) (hn : W0.heap.size ≤ n1) (ht : Turn n1 Z A A') : Upd n1 Bs es W0 A' :=
  ⟨ht.os.trans h.os, ht.tape.trans h.tape, ht.output.trans h.output, Nat.le_trans h.size ht.size, fun k o ho hB hc => by
    have h1 := h.kept k o ho hB hc
    have := (Array.getElem?_eq_some_iff.1 ho).1
    exact (ht.low k (by omega) (Array.getElem?_eq_some_iff.1 h1).1).trans h1⟩
theorem ColIs.turn {n1 : Nat} {c : Col} {Z : TypeId → Prop} {A A' : World} (h : ColIs n1 A c) (hZ : ¬ Z c.e) (ht : Turn n1 Z A A') : ColIs n1 A' c := by
  refine ⟨(ht.low c.b h.lt (Array.getElem?_eq_some_iff.1 (show A.heap[c.b]? = _ from h.box)).1).trans h.box, ⟨h.row.1, ?_⟩, h.lt⟩
  rcases h.row.2 with h1 | ⟨g, cap, cur, hv, hg, hh, hr⟩
  · exact .inl h1
  · exact .inr ⟨g, cap, cur, hv, hg, (ht.high g _ _ _ hh hZ).trans hh, hr⟩
theorem Cols.one {n1 : Nat} {c : Col} {A : World} (h : ColIs n1 A c) : Cols n1 A [c] := ⟨fun d hd => by cases List.mem_singleton.1 hd; exact h, by simp⟩
theorem Upd.keepB {n1 b B : Nat} {S : Nat → Prop} {A A' : World} {v : Value} (h : Upd n1 [b] [9] A A') (hS : ∀ k, S k → k < n1 ∧ k ≠ b) (hA : n1 ≤ A.heap.size) (hb : Boxed A b 45 v) (hbB : b < B) : KeepB B S Y0 A A' := by
  refine ⟨h.size, fun k hk => ?_, fun k c t fr hy hc => h.kept k _ hc (fun hm => ?_) (.inr fun c' t' fr' e hm => ?_), fun k c fr hB hc => h.kept k _ hc (by simp; omega) (.inr fun c' t' fr' e hm => by cases e; simp at hm), fun k ob hB hc ho => h.kept k _ hc (by simp; omega) (.inr fun c' t' fr' e => by subst e; cases ho)⟩
  · obtain ⟨h1, h2⟩ := hS k hk
    have hlt : k < A.heap.size := by omega
    rw [Array.getElem?_eq_getElem hlt]
    exact h.kept k _ (Array.getElem?_eq_getElem hlt) (by simpa using h2) (.inl h1)
  · have e := List.mem_singleton.1 hm
    subst e
    rw [show A.heap[k]? = _ from hb] at hc
    cases hc
    rcases hy with h | h | h | h | h | h <;> cases h
  · cases e
    cases List.mem_singleton.1 hm
    rcases hy with h | h | h | h | h | h <;> cases h

set_option maxRecDepth 100000 in
set_option maxHeartbeats 2000000 in
theorem zzvalues_any (bt g : Nat) (T X : ByteArray) (P : List ByteArray) (nm : ByteArray) (nest : Bool) (pv : Value) (ix : Int) (ts : List Stif.Tok) (i0 x0 k0 : Nat) (w : World)
    (hT : T.size ≤ 1048576) (hX : X.size ≤ 1048576) (htr : IsTree w bt T X) (hp : StrRow w pv g P) (hch : Stif.chain T X.size i0 x0 ts T.size X.size) (hbal : Stif.bal k0 ts) :
    Calls Try.prog 22 #[.agg #[.string nm, .bool nest, .pointer (some ⟨bt, 0, none⟩), .int .i64 i0, .int .i64 x0, .int .i64 0, pv, .int .i64 ix]] w fun e w' => Below w.heap.size w w' ∧
      ∃ v, e = .returned v ∧ w'.ownsRow w.heap.size 9 1 v (picks ix (allv X ts (named X P nm nest ts))).length ((picks ix (allv X ts (named X P nm nest ts))).map .string) := by
  refine (callsIn_wide (n := 7)).1 ?_
  have hro : Fence.wide.round = none := rfl
  obtain ⟨i9, hi9, hz9, hs9, hb9⟩ := info_parts Try.info9
  refine callsIn_of_wp_marks Try.func22 rfl trivial ?_ hro
  simp only [Try.ntmps22, List.size_toArray, List.length_cons, List.length_nil, Nat.reduceAdd, Nat.reduceSub, Array.replicate_succ, Array.replicate_zero, List.push_toArray, List.append_toArray, List.nil_append, List.cons_append]
  gi_wp2
  refine ⟨trivial, ?_⟩
  gi_at_call 37
  refine (callsIn_wide.2 (namedValues_any _ _ _ _ _ _ _ _ _)).mono ?_
  rintro e w' ⟨rfl, rfl⟩
  gi_wp2
  obtain ⟨hA1, hA2, hA3⟩ := allocs_spec [.cells #[.string nm, .bool nest, .pointer (some ⟨bt, 0, none⟩), .int .i64 i0, .int .i64 x0, .int .i64 0, pv, .int .i64 ix] 48, .cells #[.slice none 0 0] 45, .cells #[.string nm, .bool nest, .pointer (some ⟨bt, 0, none⟩), .int .i64 i0, .int .i64 x0, .int .i64 0, pv, .int .i64 ix] 48] w
  change Code.wpIn Fence.wide 7 Try.prog _ _ _ (allocs w [.cells #[.string nm, .bool nest, .pointer (some ⟨bt, 0, none⟩), .int .i64 i0, .int .i64 x0, .int .i64 0, pv, .int .i64 ix] 48, .cells #[.slice none 0 0] 45, .cells #[.string nm, .bool nest, .pointer (some ⟨bt, 0, none⟩), .int .i64 i0, .int .i64 x0, .int .i64 0, pv, .int .i64 ix] 48])
  generalize allocs w [.cells #[.string nm, .bool nest, .pointer (some ⟨bt, 0, none⟩), .int .i64 i0, .int .i64 x0, .int .i64 0, pv, .int .i64 ix] 48, .cells #[.slice none 0 0] 45, .cells #[.string nm, .bool nest, .pointer (some ⟨bt, 0, none⟩), .int .i64 i0, .int .i64 x0, .int .i64 0, pv, .int .i64 ix] 48] = W0 at *
  have f0 : W0.heap[w.heap.size]? = _ := hA3 0
  have f1 : W0.heap[w.heap.size + 1]? = _ := hA3 1
  have f2 : W0.heap[w.heap.size + 1 + 1]? = _ := hA3 2
  simp only [List.getElem?_cons_zero, List.getElem?_cons_succ, List.length_cons, List.length_nil] at f0 f1 f2 hA2
  clear hA3
  have o2 : w.heap.size + 1 + 1 < W0.heap.size := by omega
  have o1 : w.heap.size + 1 < W0.heap.size := by omega
  have o0 : w.heap.size < W0.heap.size := by omega
  have l1 : w.heap.size ≤ w.heap.size + 1 := by omega
  have n12 : w.heap.size + 1 + 1 ≠ w.heap.size + 1 := by omega
  have hbtw : bt < w.heap.size := (Array.getElem?_eq_some_iff.1 htr.blk).1
  have nbt : bt ≠ w.heap.size + 1 := by omega
  have ng : g ≠ w.heap.size + 1 := by have := hp.lt; omega
  generalize w.heap.size + 1 + 1 = b2 at *
  generalize w.heap.size + 1 = b1 at *
  have htr0 : IsTree W0 bt T X := ⟨(hA1.block _ hbtw).trans htr.blk⟩
  have hN2 : IsNamed W0 b2 bt nm nest i0 x0 pv ix := ⟨f2⟩
  have hp0 : StrRow W0 pv g P := hp.of_block (hA1.block g hp.lt)
  have hSw0 : ∀ k, (k = b2 ∨ k = bt ∨ k = g) → k < W0.heap.size ∧ k ≠ b1 := fun k hk => by
    rcases hk with rfl | rfl | rfl
    · exact ⟨o2, n12⟩
    · exact ⟨by omega, nbt⟩
    · exact ⟨by have := hp.lt; omega, ng⟩
  have hseq := (values1_T (W0.heap.size + 2) b2 bt g T X P nm nest pv ix (fun k => k = b2 ∨ k = bt ∨ k = g) ts i0 x0 k0 W0 hT hX (fun k hk => (hSw0 k hk).1) (.inl rfl) (.inr (.inl rfl)) (.inr (.inr rfl)) htr0 hN2 hp0 hch hbal).deep (7 - 1)
  refine over_T (gf := 47) (lb := #[.pointer (some ⟨b2, 0, none⟩)]) (Z := Z3) rfl (enters_of Try.func47 (by kernel_rfl) rfl) hseq KeepB.trans ?hKb (Below.refl _ _) (fun _ => rfl)
    (fun pre V => (∃ v, Cols W0.heap.size V [⟨b1, 45, 9, v, pre.map .string⟩]) ∧ Upd W0.heap.size [b1] [9] W0 V)
    (fun _ _ _ => False)
    ?hI ?hIx ?h0
    (fun x a' _ => a' = { tmps := #[.agg #[.string nm, .bool nest, .pointer (some ⟨bt, 0, none⟩), .int .i64 i0, .int .i64 x0, .int .i64 0, pv, .int .i64 ix], .pointer (some ⟨w.heap.size, 0, none⟩), .slice none 0 0, .pointer (some ⟨b1, 0, none⟩), .string x, .agg #[.string nm, .bool nest, .pointer (some ⟨bt, 0, none⟩), .int .i64 i0, .int .i64 x0, .int .i64 0, pv, .int .i64 ix], .func (.func 47) #[] #[.pointer (some ⟨b2, 0, none⟩)], .string x, undef, undef, undef, undef, undef], defers := [] })
    (fun _ _ _ _ _ _ hs _ _ => hs) ?assign ?body ?done ?stop
  case hKb => exact fun V o o' ho hc => KeepB.putObj o' (by omega) (fun h => by have := (hSw0 _ h).1; omega) ho hc
  case hI => exact fun pre A A' ⟨⟨v, hC⟩, hU⟩ ht => ⟨⟨v, Cols.one ((hC.each _ (List.mem_singleton.2 rfl)).turn (fun h => by cases h) ht)⟩, hU.turn (Nat.le_refl _) ht⟩
  case hIx => exact fun c pre A A' h ht => h
  case h0 => exact ⟨⟨.slice none 0 0, Cols.nils (fun c hc => by cases List.mem_singleton.1 hc; exact ⟨f1, rfl, rfl, o1⟩) (by simp)⟩, Upd.refl _ _ _ _⟩
  case assign =>
    rintro ll pre x V K hI hK
    gi_wp2
    exact hK _ _ (KeepsFrom.refl _ _) (KeepB.refl _ _ _ _) hI rfl
  case body =>
    rintro l pre x a' V hl ⟨r, hr⟩ ⟨⟨v1, hC⟩, hU⟩ rfl hlt
    have hUs := hU.size
    have hbox := hC.each ⟨b1, 45, 9, v1, pre.map .string⟩ (by simp)
    have r1 : V.ownsRow W0.heap.size 9 1 v1 pre.length (pre.map .string) := by simpa using hbox.row
    have c1 := hbox.box.cell
    dsimp only at c1
    have HC : Hid (Cols W0.heap.size V [⟨b1, 45, 9, v1, pre.map .string⟩] ∧ Upd W0.heap.size [b1] [9] W0 V ∧ W0.heap.size ≤ V.heap.size ∧ Boxed V b1 45 v1) := ⟨hC, hU, hUs, hbox.box⟩
    have HSW : Hid (∀ k, (k = b2 ∨ k = bt ∨ k = g) → k < W0.heap.size ∧ k ≠ b1) := hSw0
    clear hC hU hr hbox hseq hSw0 htr0 hN2 hp0 htr hp hch hbal f0 f1 f2 hA1 hA2
    gi_wp2_with (gi_at_builtin; go_must (refine wpListIn_append_own_at _ rfl _ _ 45 rfl W0.heap.size 9 i9 _ 1 16 Try.underlying45 hi9 hz9 hs9 hb9 rfl (by decide) v1 _ _ rfl (r1.alloc _) ⟨V.heap.size, 0, none⟩ 1 1 [.string x] rfl rfl (cell_one_new _ _ _) (by simp [Value.oneCell']) (by unfold maxLen; omega) (by omega) (by simp; omega) ?_); intro v' w1 hown hgrow _ hat; obtain ⟨g4, cap4, rfl⟩ := ownsRow_succ hown; obtain ⟨hc1, hf1, hC1, hU1⟩ := Cols.step (A := []) (c := ⟨b1, 45, 9, v1, pre.map .string⟩) (es := [9]) HC.out.1 (by simp) (by simpa using hown) hgrow (by simpa using hat); dsimp only at hc1 hf1 hC1 hU1)
    exact ⟨hU1.from (by simp; omega), hU1.keepB HSW.out HC.out.2.2.1 HC.out.2.2.2 (by omega), ⟨_, by simpa using hC1⟩, HC.out.2.1.trans hU1⟩
  case done =>
    rintro D ys V hD hys ⟨⟨v1, hC⟩, hU⟩ hK
    have hbox := hC.each ⟨b1, 45, 9, v1, ys.map .string⟩ (by simp)
    have r1 : V.ownsRow W0.heap.size 9 1 v1 ys.length (ys.map .string) := by simpa using hbox.row
    have c1 := hbox.box.cell
    dsimp only at c1
    have hBe : Below w.heap.size w V := hA1.trans (hU.toBelow (by omega) (Nat.le_refl _) (by simp; omega))
    clear hseq htr0 hN2 hp0 hC hU f0 f1 f2
    gi_wp2
    refine ⟨by simp, .inl ⟨_, _, rfl, run_takeDeferred hK, ?_⟩⟩
    refine ⟨_, results_tmp rfl _ _ _, hBe.trans (below_putObj (by omega)), v1, rfl, ?_⟩
    rw [← hys]
    have r2 := r1.kept (grownBy_putObj' V D (.deferred none)) ?_
    · rcases r2.2 with ⟨h1, h2⟩ | ⟨g, cap, cur, hv, hg, hr⟩
      · exact ⟨r2.1, .inl ⟨h1, h2⟩⟩
      · exact ⟨r2.1, .inr ⟨g, cap, cur, hv, by omega, hr⟩⟩
    · rcases r1.2 with ⟨h1, _⟩ | ⟨g, cap, cur, hv, _, hh, _⟩
      · exact .inl (by rw [h1]; rfl)
      · refine .inr fun e => ?_
        rw [hv] at e
        cases e
        rw [hK] at hh
        cases hh
  case stop => exact fun D c pre V hD hpre h hK => h.elim
end Go.Proofs.Qxb6618677a
