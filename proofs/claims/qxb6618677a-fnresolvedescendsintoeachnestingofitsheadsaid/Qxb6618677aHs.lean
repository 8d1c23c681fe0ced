/-
  has[Field], has[string], (Named).Values.
-/
import Derived.Test.Qxb6618677aVs
namespace Go.Proofs.Qxb6618677a
open Go.RowKit Go.Shelf
attribute [local go_sem] Oper.semAt_some

theorem turn_below {B g : Nat} {Z : TypeId → Prop} {w A A' : World} (ht : Turn B Z A A') (hB : g ≤ B) (hs : w.heap.size ≤ A.heap.size) (hg : w.heap.size = g) : Below g A A' :=
  ⟨ht.os, ht.tape, ht.output, ht.size, fun k hk => ht.low k (by omega) (by omega)⟩
theorem below_putObj {g D : Nat} {V : World} {o : Obj} (h : g ≤ D) : Below g V (V.putObj D o) :=
  ⟨rfl, rfl, rfl, by simp, fun k hk => World.putObj_heap_other (by omega)⟩
theorem set4_keepsFrom {U : World} {b B' : Nat} {u v : Value} (h : U.heap[b]? = some (.cells #[u] 4 (0, 0))) : KeepsFrom B' U (U.setCell ⟨b, 0, none⟩ v) :=
  ⟨by simp [World.setCell], fun k o _ hk ho => (Below.heap_setCell _ _ _ _ (by
    intro e
    simp only at e
    subst e
    rw [h] at hk
    cases hk
    cases ho)).trans hk⟩
theorem set4_keepB {U : World} {b B' : Nat} {S' : Nat → Prop} {u v : Value} (h : U.heap[b]? = some (.cells #[u] 4 (0, 0))) (hS : ¬ S' b) : KeepB B' S' Y0 U (U.setCell ⟨b, 0, none⟩ v) := by
  have e : ∀ (k : Nat) (o : Obj), U.heap[k]? = some o → (∀ c, o ≠ .cells c 4 (0, 0)) → (U.setCell ⟨b, 0, none⟩ v).heap[k]? = some o := fun k o hk ho => by
    rw [Below.heap_setCell _ _ _ _ (by
      intro e
      simp only at e
      subst e
      rw [h] at hk
      cases hk
      exact ho _ rfl)]
    exact hk
  refine ⟨by simp [World.setCell], fun k hk => Below.heap_setCell _ _ _ _ (fun h' => hS (by simp only at h'; subst h'; exact hk)), fun k c t fr hy hc => e k _ hc (fun c' h' => ?_), fun k c fr hk hc => e k _ hc (fun c' h' => by cases h'), fun k ob hk hc ho => e k _ hc (fun c' h' => by subst h'; cases ho)⟩
  cases h'
  rcases hy with h | h | h | h | h | h <;> cases h

set_option maxRecDepth 100000 in
set_option maxHeartbeats 1000000 in
theorem has34_any {α : Type} (gf : Nat) (lb : Array Value) (enc : α → Value) (Z : TypeId → Prop) (S0 : Nat → Prop) (S Sp : List α → Prop) (N : Nat) (res : Bool) (w : World) (hS0 : ∀ k, S0 k → k < w.heap.size)
    (eg : ∀ args w, (callFunc gf args).run Try.prog w = .ok (.enter gf args) w)
    (hseq : SeqT (w.heap.size + 3) Z 5 Try.prog gf lb (fun x => #[enc x]) (KeepB (w.heap.size + 3) S0 Y0) S Sp N w) (h1 : S [] → res = false) (h2 : ∀ pre, pre ≠ [] → Sp pre → res = true) :
    Calls Try.prog 34 #[.func (.func gf) #[] lb] w fun e w' => e = .returned (.bool res) ∧ Below w.heap.size w w' := by
  refine (callsIn_wide (n := 6)).1 ?_
  have hro : Fence.wide.round = none := rfl
  refine callsIn_of_wp_marks Try.func34 rfl trivial ?_ hro
  simp only [Try.ntmps34, List.size_toArray, List.length_cons, List.length_nil, Nat.reduceAdd, Nat.reduceSub, Array.replicate_succ, Array.replicate_zero, List.push_toArray, List.append_toArray, List.nil_append, List.cons_append]
  gi_wp2
  have hsz : (w.alloc (.cells #[.bool false] 4)).heap.size = w.heap.size + 1 := by simp
  have hA : Below w.heap.size w (w.alloc (.cells #[.bool false] 4)) := (Below.refl _ _).alloc (Nat.le_refl _) _
  have hb : (w.alloc (.cells #[.bool false] 4)).heap[w.heap.size]? = some (.cells #[.bool false] 4 (0, 0)) := World.alloc_heap_new w _
  generalize w.alloc (.cells #[.bool false] 4) = w1 at *
  have hseq' : SeqT (w1.heap.size + 2) Z (6 - 1) Try.prog gf lb (fun x => #[enc x]) (KeepB (w1.heap.size + 2) S0 Y0) S Sp N w := by rw [hsz]; exact hseq
  have hlt : w.heap.size < w1.heap.size := by omega
  have hne : ¬ S0 w.heap.size := fun h => by have := hS0 _ h; omega
  generalize hg : w.heap.size = g at hb hsz hlt hne ⊢
  refine over_T (gf := gf) (lb := lb) (Z := Z) rfl eg hseq' KeepB.trans ?hKb hA (fun _ => rfl)
    (fun pre V => pre = [] ∧ V.heap[g]? = some (.cells #[.bool false] 4 (0, 0)) ∧ Below g w V)
    (fun c pre V => c = .ret ∧ pre ≠ [] ∧ V.heap[g]? = some (.cells #[.bool true] 4 (0, 0)) ∧ Below g w V)
    ?hI ?hIx ?h0
    (fun x a' _ => a' = { tmps := #[.func (.func gf) #[] lb, undef, .pointer (some ⟨g, 0, none⟩), .func (.func gf) #[] lb, enc x], defers := [] })
    (fun _ _ _ _ _ _ hs _ _ => hs) ?assign ?body ?done ?stop
  case hKb => exact fun V o o' ho hc => KeepB.putObj o' (by omega) (fun h => by have := hS0 _ h; omega) ho hc
  case hI => exact fun pre A A' ⟨k1, k2, k3⟩ ht => ⟨k1, (ht.low g hlt (Array.getElem?_eq_some_iff.1 k2).1).trans k2, k3.trans (turn_below ht (by omega) k3.size hg)⟩
  case hIx => exact fun c pre A A' ⟨k0, k1, k2, k3⟩ ht => ⟨k0, k1, (ht.low g hlt (Array.getElem?_eq_some_iff.1 k2).1).trans k2, k3.trans (turn_below ht (by omega) k3.size hg)⟩
  case h0 => exact ⟨rfl, hb, hg ▸ hA⟩
  case assign =>
    rintro ll pre x V K hI hK
    gi_wp2
    exact hK _ _ (KeepsFrom.refl _ _) (KeepB.refl _ _ _ _) hI (by simp)
  case body =>
    rintro ll pre x a' V hl ⟨r, hr⟩ ⟨rfl, k2, k3⟩ rfl hN
    have y1 := cell_at (i := 0) k2 rfl
    have y2 := frozen_at0 k2
    have HS : Hid (V.heap[g]? = some (.cells #[.bool false] 4 (0, 0)) ∧ Below g w V) := ⟨k2, k3⟩
    have HZ : Hid (w1.heap.size = g + 1 ∧ ¬ S0 g) := ⟨hsz, hne⟩
    clear k2 k3 hr hseq hseq' hb hsz
    gi_wp2
    refine ⟨set4_keepsFrom HS.out.1, set4_keepB HS.out.1 HZ.out.2, rfl, by simp, set_blk HS.out.1, HS.out.2.setCell (Nat.le_refl _) _⟩
  case done =>
    rintro D ys V hD hys ⟨rfl, k2, k3⟩ hK
    have hres := h1 hys
    have hDg : D ≠ g := by omega
    have HS : Hid (V.heap[g]? = some (.cells #[.bool false] 4 (0, 0)) ∧ Below g w V ∧ V.heap[D]? = some (.deferred (some []))) := ⟨k2, k3, hK⟩
    have y1 := cell_at (i := 0) k2 rfl
    have y2 := frozen_at0 k2
    have HG : Hid (w.heap.size = g) := hg
    clear k2 k3 hK hseq hseq' hb hsz hg
    gi_wp2
    have hK2 : (V.setCell ⟨g, 0, none⟩ (.bool false)).heap[D]? = some (.deferred (some [])) := (Below.heap_setCell _ _ _ _ hDg).trans HS.out.2.2
    refine ⟨by simp, .inl ⟨_, _, rfl, run_takeDeferred hK2, ?_⟩⟩
    have hbl : ((V.setCell ⟨g, 0, none⟩ (.bool false)).putObj D (.deferred none)).heap[g]? = some (.cells #[.bool false] 4 (0, 0)) := (World.putObj_heap_other (fun h => hDg h.symm)).trans (set_blk HS.out.1)
    have hce := cell_at (i := 0) hbl rfl
    refine ⟨.bool false, by simp [results, Try.results34, go_sem, hce], by rw [hres], ?_⟩
    rw [HG.out]
    exact (HS.out.2.1.setCell (Nat.le_refl _) _).trans (below_putObj (by omega))
  case stop =>
    rintro D c pre V hD hpre ⟨rfl, k1, k2, k3⟩ hK
    have hres := h2 pre k1 hpre
    have hDg : D ≠ g := by omega
    gi_wp2
    refine ⟨by simp, .inl ⟨_, _, rfl, run_takeDeferred hK, ?_⟩⟩
    have hbl : (V.putObj D (.deferred none)).heap[g]? = some (.cells #[.bool true] 4 (0, 0)) := (World.putObj_heap_other (fun h => hDg h.symm)).trans k2
    have hce := cell_at (i := 0) hbl rfl
    refine ⟨.bool true, by simp [results, Try.results34, go_sem, hce], by rw [hres], ?_⟩
    rw [hg]
    exact k3.trans (below_putObj (by omega))

set_option maxRecDepth 100000 in
set_option maxHeartbeats 1000000 in
theorem has36_any {α : Type} (gf : Nat) (lb : Array Value) (enc : α → Value) (Z : TypeId → Prop) (S0 : Nat → Prop) (S Sp : List α → Prop) (N : Nat) (res : Bool) (w : World) (hS0 : ∀ k, S0 k → k < w.heap.size)
    (eg : ∀ args w, (callFunc gf args).run Try.prog w = .ok (.enter gf args) w)
    (hseq : SeqT (w.heap.size + 3) Z 5 Try.prog gf lb (fun x => #[enc x]) (KeepB (w.heap.size + 3) S0 Y0) S Sp N w) (h1 : S [] → res = false) (h2 : ∀ pre, pre ≠ [] → Sp pre → res = true) :
    Calls Try.prog 36 #[.func (.func gf) #[] lb] w fun e w' => e = .returned (.bool res) ∧ Below w.heap.size w w' := by
  refine (callsIn_wide (n := 6)).1 ?_
  have hro : Fence.wide.round = none := rfl
  refine callsIn_of_wp_marks Try.func36 rfl trivial ?_ hro
  simp only [Try.ntmps36, List.size_toArray, List.length_cons, List.length_nil, Nat.reduceAdd, Nat.reduceSub, Array.replicate_succ, Array.replicate_zero, List.push_toArray, List.append_toArray, List.nil_append, List.cons_append]
  gi_wp2
  have hsz : (w.alloc (.cells #[.bool false] 4)).heap.size = w.heap.size + 1 := by simp
  have hA : Below w.heap.size w (w.alloc (.cells #[.bool false] 4)) := (Below.refl _ _).alloc (Nat.le_refl _) _
  have hb : (w.alloc (.cells #[.bool false] 4)).heap[w.heap.size]? = some (.cells #[.bool false] 4 (0, 0)) := World.alloc_heap_new w _
  generalize w.alloc (.cells #[.bool false] 4) = w1 at *
  have hseq' : SeqT (w1.heap.size + 2) Z (6 - 1) Try.prog gf lb (fun x => #[enc x]) (KeepB (w1.heap.size + 2) S0 Y0) S Sp N w := by rw [hsz]; exact hseq
  have hlt : w.heap.size < w1.heap.size := by omega
  have hne : ¬ S0 w.heap.size := fun h => by have := hS0 _ h; omega
  generalize hg : w.heap.size = g at hb hsz hlt hne ⊢
  refine over_T (gf := gf) (lb := lb) (Z := Z) rfl eg hseq' KeepB.trans ?hKb hA (fun _ => rfl)
    (fun pre V => pre = [] ∧ V.heap[g]? = some (.cells #[.bool false] 4 (0, 0)) ∧ Below g w V)
    (fun c pre V => c = .ret ∧ pre ≠ [] ∧ V.heap[g]? = some (.cells #[.bool true] 4 (0, 0)) ∧ Below g w V)
    ?hI ?hIx ?h0
    (fun x a' _ => a' = { tmps := #[.func (.func gf) #[] lb, undef, .pointer (some ⟨g, 0, none⟩), .func (.func gf) #[] lb, enc x], defers := [] })
    (fun _ _ _ _ _ _ hs _ _ => hs) ?assign ?body ?done ?stop
  case hKb => exact fun V o o' ho hc => KeepB.putObj o' (by omega) (fun h => by have := hS0 _ h; omega) ho hc
  case hI => exact fun pre A A' ⟨k1, k2, k3⟩ ht => ⟨k1, (ht.low g hlt (Array.getElem?_eq_some_iff.1 k2).1).trans k2, k3.trans (turn_below ht (by omega) k3.size hg)⟩
  case hIx => exact fun c pre A A' ⟨k0, k1, k2, k3⟩ ht => ⟨k0, k1, (ht.low g hlt (Array.getElem?_eq_some_iff.1 k2).1).trans k2, k3.trans (turn_below ht (by omega) k3.size hg)⟩
  case h0 => exact ⟨rfl, hb, hg ▸ hA⟩
  case assign =>
    rintro ll pre x V K hI hK
    gi_wp2
    exact hK _ _ (KeepsFrom.refl _ _) (KeepB.refl _ _ _ _) hI (by simp)
  case body =>
    rintro ll pre x a' V hl ⟨r, hr⟩ ⟨rfl, k2, k3⟩ rfl hN
    have y1 := cell_at (i := 0) k2 rfl
    have y2 := frozen_at0 k2
    have HS : Hid (V.heap[g]? = some (.cells #[.bool false] 4 (0, 0)) ∧ Below g w V) := ⟨k2, k3⟩
    have HZ : Hid (w1.heap.size = g + 1 ∧ ¬ S0 g) := ⟨hsz, hne⟩
    clear k2 k3 hr hseq hseq' hb hsz
    gi_wp2
    refine ⟨set4_keepsFrom HS.out.1, set4_keepB HS.out.1 HZ.out.2, rfl, by simp, set_blk HS.out.1, HS.out.2.setCell (Nat.le_refl _) _⟩
  case done =>
    rintro D ys V hD hys ⟨rfl, k2, k3⟩ hK
    have hres := h1 hys
    have hDg : D ≠ g := by omega
    have HS : Hid (V.heap[g]? = some (.cells #[.bool false] 4 (0, 0)) ∧ Below g w V ∧ V.heap[D]? = some (.deferred (some []))) := ⟨k2, k3, hK⟩
    have y1 := cell_at (i := 0) k2 rfl
    have y2 := frozen_at0 k2
    have HG : Hid (w.heap.size = g) := hg
    clear k2 k3 hK hseq hseq' hb hsz hg
    gi_wp2
    have hK2 : (V.setCell ⟨g, 0, none⟩ (.bool false)).heap[D]? = some (.deferred (some [])) := (Below.heap_setCell _ _ _ _ hDg).trans HS.out.2.2
    refine ⟨by simp, .inl ⟨_, _, rfl, run_takeDeferred hK2, ?_⟩⟩
    have hbl : ((V.setCell ⟨g, 0, none⟩ (.bool false)).putObj D (.deferred none)).heap[g]? = some (.cells #[.bool false] 4 (0, 0)) := (World.putObj_heap_other (fun h => hDg h.symm)).trans (set_blk HS.out.1)
    have hce := cell_at (i := 0) hbl rfl
    refine ⟨.bool false, by simp [results, Try.results36, go_sem, hce], by rw [hres], ?_⟩
    rw [HG.out]
    exact (HS.out.2.1.setCell (Nat.le_refl _) _).trans (below_putObj (by omega))
  case stop =>
    rintro D c pre V hD hpre ⟨rfl, k1, k2, k3⟩ hK
    have hres := h2 pre k1 hpre
    have hDg : D ≠ g := by omega
    gi_wp2
    refine ⟨by simp, .inl ⟨_, _, rfl, run_takeDeferred hK, ?_⟩⟩
    have hbl : (V.putObj D (.deferred none)).heap[g]? = some (.cells #[.bool true] 4 (0, 0)) := (World.putObj_heap_other (fun h => hDg h.symm)).trans k2
    have hce := cell_at (i := 0) hbl rfl
    refine ⟨.bool true, by simp [results, Try.results36, go_sem, hce], by rw [hres], ?_⟩
    rw [hg]
    exact k3.trans (below_putObj (by omega))

set_option maxRecDepth 100000 in
theorem namedValues_any (a b c d e f g h : Value) (w : World) :
    Calls Try.prog 37 #[.agg #[a, b, c, d, e, f, g, h]] w fun r w' => r = .returned (.func (.func 47) #[] #[.pointer (some ⟨w.heap.size, 0, none⟩)]) ∧ w' = w.alloc (.cells #[a, b, c, d, e, f, g, h] 48) := by
  go_enter Try.func37, Try.ntmps37
  go_wp2
  go_ret
  exact ⟨rfl, rfl⟩

theorem hasFields (bN bt g : Nat) (T X : ByteArray) (P : List ByteArray) (nm : ByteArray) (nest : Bool) (pv : Value) (ix : Int) (ts : List Stif.Tok) (i0 x0 k0 : Nat) (w : World)
    (hT : T.size ≤ 1048576) (hX : X.size ≤ 1048576) (htr : IsTree w bt T X) (hN : IsNamed w bN bt nm nest i0 x0 pv ix) (hp : StrRow w pv g P) (hch : Stif.chain T X.size i0 x0 ts T.size X.size) (hbal : Stif.bal k0 ts) :
    Calls Try.prog 34 #[.func (.func 44) #[] #[.pointer (some ⟨bN, 0, none⟩)]] w fun e w' => e = .returned (.bool (!(named X P nm nest ts).isEmpty)) ∧ Below w.heap.size w w' := by
  have hS : ∀ k, (k = bN ∨ k = bt ∨ k = g) → k < w.heap.size := fun k hk => by
    rcases hk with rfl | rfl | rfl
    · exact (Array.getElem?_eq_some_iff.1 hN.blk).1
    · exact (Array.getElem?_eq_some_iff.1 htr.blk).1
    · exact hp.lt
  refine has34_any 44 _ _ (fun _ => False) (fun k => k = bN ∨ k = bt ∨ k = g) _ _ _ _ w hS (enters_of Try.func44 (by kernel_rfl) rfl)
    ((fields1_T (w.heap.size + 3) bN bt g (fun _ => False) T X P nm nest pv ix (fun k => k = bN ∨ k = bt ∨ k = g) ts i0 x0 k0 w hT hX hS (.inl rfl) (.inr (.inl rfl)) (.inr (.inr rfl)) htr hN hp hch hbal).deep 5) ?_ ?_
  · intro h
    rw [← h]; rfl
  · intro pre hne h
    cases hn : named X P nm nest ts with
    | nil =>
      have hl := h.length_le
      have hl0 : (named X P nm nest ts).length = 0 := by rw [hn]; rfl
      rw [List.length_map] at hl
      exact absurd (List.eq_nil_of_length_eq_zero (by omega)) hne
    | cons a l => rfl

theorem hasValues (bN bt g : Nat) (T X : ByteArray) (P : List ByteArray) (nm : ByteArray) (nest : Bool) (pv : Value) (ix : Int) (ts : List Stif.Tok) (i0 x0 k0 : Nat) (w : World)
    (hT : T.size ≤ 1048576) (hX : X.size ≤ 1048576) (htr : IsTree w bt T X) (hN : IsNamed w bN bt nm nest i0 x0 pv ix) (hp : StrRow w pv g P) (hch : Stif.chain T X.size i0 x0 ts T.size X.size) (hbal : Stif.bal k0 ts) :
    Calls Try.prog 36 #[.func (.func 47) #[] #[.pointer (some ⟨bN, 0, none⟩)]] w fun e w' => e = .returned (.bool (!(picks ix (allv X ts (named X P nm nest ts))).isEmpty)) ∧ Below w.heap.size w w' := by
  have hS : ∀ k, (k = bN ∨ k = bt ∨ k = g) → k < w.heap.size := fun k hk => by
    rcases hk with rfl | rfl | rfl
    · exact (Array.getElem?_eq_some_iff.1 hN.blk).1
    · exact (Array.getElem?_eq_some_iff.1 htr.blk).1
    · exact hp.lt
  refine has36_any 47 _ _ Z3 (fun k => k = bN ∨ k = bt ∨ k = g) _ _ _ _ w hS (enters_of Try.func47 (by kernel_rfl) rfl)
    ((values1_T (w.heap.size + 3) bN bt g T X P nm nest pv ix (fun k => k = bN ∨ k = bt ∨ k = g) ts i0 x0 k0 w hT hX hS (.inl rfl) (.inr (.inl rfl)) (.inr (.inr rfl)) htr hN hp hch hbal).deep 5) ?_ ?_
  · intro h
    rw [← h]; rfl
  · intro pre hne h
    cases hn : picks ix (allv X ts (named X P nm nest ts)) with
    | nil => rw [hn] at h; exact absurd (List.prefix_nil.1 h) hne
    | cons a l => rfl
end Go.Proofs.Qxb6618677a
