/-
  The argument of type []Tok, opened.
-/
import Derived.Test.Qxb6618748aRw
import Derived.Test.Qxb6618748aOpn
namespace Go.Proofs.Qxb6618748a
open Go.ChangeShapes Go.WideShapes Go.RowKit Go.Deep Go.Joins

theorem slice_spot {P : Program} {w : World} {r : Reach} {base : Nat} {t e : TypeId} {a : Addr} {l c : Nat} (ht : P.underlying t = some (.slice e)) (h : Value.okWide P w r base t (.slice (some a) l c)) : a.spot = none := by
  unfold Value.okWide at h
  rw [ht] at h
  simp only at h
  unfold Cell.okWide at h
  rw [ht] at h
  simp only at h
  unfold Cell.ok at h
  rw [ht] at h
  exact h.2.2.2.1
theorem list_of {α : Type} (n : Nat) (f : Nat → α) : ∃ L : List α, L.length = n ∧ ∀ (i : Nat) x, L[i]? = some x → i < n ∧ x = f i := by
  refine ⟨(List.range n).map f, by simp, fun i x hx => ?_⟩
  obtain ⟨hl, he⟩ := List.getElem?_eq_some_iff.1 hx
  simp at hl he
  exact ⟨hl, he.symm⟩

theorem Try.cells24 : Try.prog.cellsOf 24 = 1 := by kernel_rfl
section
variable {H : Type} {enc : TypeId × Value → H} {w : World} {held : Bool}

theorem trod_f64 {P : Program} {base : Nat} {spare : Nat → Bool} {t : TypeId} {fuel : Nat} {cs : List Value} {x : DataW H × List MemPlace} (ht : P.underlying t = some (.float .f64)) (h : DataW.trod enc P w base spare held fuel t cs = some x) :
    ∃ b : Nat, cs = [.float .f64 b] ∧ b < 18446744073709551616 := by
  obtain ⟨b, rfl⟩ := trod_float ht h
  refine ⟨b, rfl, ?_⟩
  cases fuel with
  | zero => simp [DataW.trod] at h
  | succ n =>
    unfold DataW.trod at h
    rw [ht] at h
    simp only [Lit.wf, decide_eq_true_eq, true_and] at h
    split at h
    · assumption
    · cases h
theorem ints_r {fuel : Nat} {v : Value} {x : DataW H × List MemPlace} (h : DataW.trod enc Try.prog w 0 (fun _ => true) held fuel 23 [v] = some x) : ∃ a c, ∃ I : List Int, v = .slice a I.length c ∧ IntsR (fun b => b < w.heap.size) w a I := by
  rcases open_ints Try.underlying23 Try.underlying3 Try.cells3 h with ⟨hcs, _⟩ | ⟨a, l, c, zs, hcs, _, hl, hm, hz, _, hcell, hwf⟩
  · simp at hcs
    exact ⟨none, 0, [], hcs, fun _ => rfl, fun i x hx => by simp at hx⟩
  · simp at hcs
    simp only [if_true] at hz
    have hlen : (zs.take l).length = l := by rw [List.length_take]; omega
    refine ⟨some a, c, zs.take l, by rw [hlen]; exact hcs, (fun hx => by cases hx), fun i x hx => ?_⟩
    have hi : i < l := by have := (List.getElem?_eq_some_iff.1 hx).1; omega
    rw [List.getElem?_take_of_lt hi] at hx
    have hw := hwf x (List.mem_of_getElem? hx)
    have hs := spot_of (hcell 0 (by omega))
    have hc := hcell i (by omega)
    rw [List.getD_eq_getElem?_getD, hx] at hc
    obtain ⟨b, o, sp⟩ := a
    simp only at hs
    subst hs
    rw [add_plain] at hc
    simp only [Lit.wf, Bool.and_eq_true, decide_eq_true_eq] at hw
    exact ⟨hw.1, hw.2, b, o, rfl, cell_lt hc, hc⟩
/-- The cells of a text with its number and bytes. -/
theorem text_r {n0 n1 n2 : Nat} {v0 v1 v2 : Value} {y0 y1 y2 : DataW H × List MemPlace} (h0 : DataW.trod enc Try.prog w 0 (fun _ => true) held n0 9 [v0] = some y0) (h1 : DataW.trod enc Try.prog w 0 (fun _ => true) held n1 22 [v1] = some y1) (h2 : DataW.trod enc Try.prog w 0 (fun _ => true) held n2 23 [v2] = some y2) :
    ∃ (t : Tx) (a : Option Addr) (c : Nat), v0 = .string t.s ∧ v1 = .float .f64 t.f ∧ v2 = .slice a t.I.length c ∧ a.isNone = t.bn ∧ IntsR (fun b => b < w.heap.size) w a t.I ∧ t.f < 18446744073709551616 := by
  obtain ⟨s, e0, _, hs⟩ := DataW.trod_string Try.underlying9 h0
  obtain ⟨b, e1, hb⟩ := trod_f64 Try.underlying22 h1
  obtain ⟨a, c, I, e2, hi⟩ := ints_r h2
  simp at e0 e1
  subst e0 e1 e2
  exact ⟨⟨s, b, a.isNone, I⟩, a, c, rfl, rfl, rfl, rfl, hi, hb⟩
theorem text_at {g o : Nat} {t : Tx} {a : Option Addr} {c : Nat} (c0 : w.cell? ⟨g, o, none⟩ = some (.string t.s)) (c1 : w.cell? ⟨g, o + 1, none⟩ = some (.float .f64 t.f)) (c2 : w.cell? ⟨g, o + 2, none⟩ = some (.slice a t.I.length c)) (h : a.isNone = t.bn ∧ IntsR (fun b => b < w.heap.size) w a t.I ∧ t.f < 18446744073709551616) : TxR (fun b => b < w.heap.size) w g o t a c :=
  ⟨cell_lt c0, c0, c1, c2, h.1, h.2.1, h.2.2⟩
/-- The empty text and the empty token. -/
def Tx.zero : Tx := ⟨ByteArray.empty, 0, true, []⟩
def Tk.zero : Tk := ⟨Tx.zero, true, []⟩
theorem cands_r {fuel : Nat} {v : Value} {x : DataW H × List MemPlace} (h : DataW.trod enc Try.prog w 0 (fun _ => true) held fuel 24 [v] = some x) : ∃ a c, ∃ C : List Tx, v = .slice a C.length c ∧ CandsR (fun b => b < w.heap.size) w a C := by
  rcases open_slice Try.underlying24 h with ⟨hcs, _⟩ | ⟨a, l, c, m, n, D, Pl, hcs, _, hl, hm, hmm, _, hel⟩
  · simp at hcs
    exact ⟨none, 0, [], hcs, fun _ => rfl, fun i x hx => by simp at hx⟩
  · simp at hcs
    simp only [if_true] at hmm
    rw [Try.cells62] at hel
    have hin : Inhabited Tx := ⟨Tx.zero⟩
    obtain ⟨f, hf⟩ := choose_lt (α := Tx) (n := l) (p := fun i t => ∃ g o a' c', a = ⟨g, o, none⟩ ∧ TxR (fun b => b < w.heap.size) w g (o + i * 3) t a' c') (fun i hi => by
      obtain ⟨cs, h1, h2⟩ := hel i (by omega)
      obtain ⟨y0, y1, y2, n', _, hlen, t0, t1, t2⟩ := trod_struct3 Try.underlying62 h2
      rw [Try.cells62] at hlen
      match cs, hlen with
      | [v0, v1, v2], _ =>
        simp only [Try.cells9, Try.cells22, Try.cells23, List.drop_zero, List.drop_succ_cons, List.take_succ_cons, List.take_zero] at t0 t1 t2
        obtain ⟨t, a', c', rfl, rfl, rfl, ht⟩ := text_r t0 t1 t2
        obtain ⟨_, _, h4⟩ := World.cells?_some h1
        have e0 := h4 0 (by omega)
        have e1 := h4 1 (by omega)
        have e2 := h4 2 (by omega)
        obtain ⟨cs0, k1, _⟩ := hel 0 (by omega)
        obtain ⟨_, k2, k3⟩ := World.cells?_some k1
        have k4 := k3 0 (by omega)
        rw [List.getElem?_eq_getElem (by omega)] at k4
        obtain ⟨b, o, sp⟩ := a
        have hs : sp = none := by simpa [Addr.add] using World.cell?_spot k4
        subst hs
        rw [add_plain, add_plain] at e0 e1 e2
        exact ⟨t, b, o, a', c', rfl, text_at e0 e1 e2 ht⟩)
    obtain ⟨C, hCl, hC⟩ := list_of l f
    refine ⟨some a, c, C, by rw [hCl]; exact hcs, (fun hx => by cases hx), fun i x hx => ?_⟩
    obtain ⟨hi, rfl⟩ := hC i x hx
    obtain ⟨g, o, a', c', h1, h2⟩ := hf i hi
    exact ⟨g, o, a', c', by rw [h1], h2⟩
theorem toks_r {fuel : Nat} {v : Value} {x : DataW H × List MemPlace} {r : Reach} {base : Nat} (hok : Value.okWide Try.prog w r base 36 v) (h : DataW.trod enc Try.prog w 0 (fun _ => true) held fuel 36 [v] = some x) : ∃ a n c TS, v = .slice a n c ∧ ToksR (fun b => b < w.heap.size) w a n c TS := by
  rcases open_slice Try.underlying36 h with ⟨hcs, _⟩ | ⟨a, l, c, m, n, D, Pl, hcs, _, hl, hm, hmm, _, hel⟩
  · simp at hcs
    exact ⟨none, 0, 0, [], hcs, rfl, Nat.le_refl _, Nat.zero_le _, fun _ => rfl, (fun x hx => by cases hx), fun i x hx => by simp at hx⟩
  · simp at hcs
    subst hcs
    have hsp := slice_spot Try.underlying36 hok
    simp only [if_true] at hmm
    rw [Try.cells26] at hel
    obtain ⟨b, o, sp⟩ := a
    simp only at hsp
    subst hsp
    have hin : Inhabited Tk := ⟨Tk.zero⟩
    obtain ⟨f, hf⟩ := choose_lt (α := Tk) (n := l) (p := fun i t => ∃ a' c' ca cc, TkR (fun b => b < w.heap.size) w b (o + i * 4) t a' c' ca cc) (fun i hi => by
      obtain ⟨cs, h1, h2⟩ := hel i (by omega)
      obtain ⟨y0, y1, y2, y3, n', _, hlen, t0, t1, t2, t3⟩ := trod_struct4 Try.underlying26 h2
      rw [Try.cells26] at hlen
      match cs, hlen with
      | [v0, v1, v2, v3], _ =>
        simp only [Try.cells9, Try.cells22, Try.cells23, Try.cells24, List.drop_zero, List.drop_succ_cons, List.take_succ_cons, List.take_zero] at t0 t1 t2 t3
        obtain ⟨t, a', c', rfl, rfl, rfl, ht⟩ := text_r t0 t1 t2
        obtain ⟨ca, cc, C, rfl, hC⟩ := cands_r t3
        obtain ⟨_, _, h4⟩ := World.cells?_some h1
        have e0 := h4 0 (by omega)
        have e1 := h4 1 (by omega)
        have e2 := h4 2 (by omega)
        have e3 := h4 3 (by omega)
        rw [add_plain, add_plain] at e0 e1 e2 e3
        exact ⟨⟨t, ca.isNone, C⟩, a', c', ca, cc, text_at e0 e1 e2 ht, e3, rfl, hC⟩)
    obtain ⟨TS, hTl, hT⟩ := list_of l f
    refine ⟨some ⟨b, o, none⟩, l, c, TS, rfl, hTl.symm, hl, hm, (fun hx => by cases hx), (fun x hx => by cases hx; rfl), fun i t ht => ?_⟩
    obtain ⟨hi, rfl⟩ := hT i t ht
    obtain ⟨a', c', ca, cc, h2⟩ := hf i hi
    exact ⟨b, o, a', c', ca, cc, rfl, h2⟩
end
end Go.Proofs.Qxb6618748a
