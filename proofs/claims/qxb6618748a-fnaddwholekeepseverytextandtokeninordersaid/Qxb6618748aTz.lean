/-
  The length of what is packed; toksSize; ZZpiecesData, ZZpiecesN.
-/
import Derived.Test.Qxb6618748aRw
import Derived.Test.Qxb6618748aTk
import Derived.Test.Qxb6618748aAc
namespace Go.Proofs.Qxb6618748a
open Go.RowKit

theorem flat_len {α : Type} (f : α → List UInt8) (g : α → Nat) (k : Nat) (L : List α) (h : ∀ x ∈ L, (f x).length ≤ k + 28 * g x) : (L.flatMap f).length ≤ k * L.length + 28 * (L.map g).sum := by
  induction L with
  | nil => simp
  | cons x L ih =>
    have h1 := h x (by simp)
    have h2 := ih fun y hy => h y (by simp [hy])
    simp only [List.flatMap_cons, List.length_append, List.map_cons, List.sum_cons, List.length_cons, Nat.mul_add, Nat.mul_one]
    omega
def InR (I : List Int) : Prop := ∀ x ∈ I, -9223372036854775808 ≤ x ∧ x ≤ 9223372036854775807
theorem ints_len (I : List Int) (h : InR I) : (I.flatMap (fun x => Lib.uvarint (Lib.zigzag x))).length ≤ 10 * I.length := by
  induction I with
  | nil => simp
  | cons x L ih =>
    have h1 := Lib.uvarint_length64 (x := Lib.zigzag x) (by have := h x (by simp); unfold Lib.zigzag; split <;> omega)
    have h2 := ih fun y hy => h y (by simp [hy])
    simp only [List.flatMap_cons, List.length_append, List.length_cons]
    omega
theorem text_len (s : ByteArray) (bn : Bool) (I : List Int) (h : InR I) (hs : s.size ≤ 1048576) (hI : I.length ≤ 1048576) : (encText s bn I).length ≤ 20 + 10 * (s.size + I.length) := by
  have h1 := Lib.uvarint_length64 (x := s.size * 4 + mk s bn I) (by have := mk_lt s bn I; omega)
  have h2 := Lib.uvarint_length64 (x := I.length) (by omega)
  have h3 := ints_len I h
  unfold encText
  rw [List.length_append, List.length_append, size_list]
  split
  · rw [List.length_append]; omega
  · simp only [List.length_nil]; omega
theorem cand_len (t x : Tx) (h : InR x.I) (hs : csz x ≤ 1048576) : (encCand t x).length ≤ 28 + 28 * csz x := by
  have e : csz x = x.s.size + x.I.length := rfl
  have h1 := text_len x.s x.bn x.I h (by omega) (by omega)
  have h2 := Lib.uvarint_length64 (x := 3) (by omega)
  unfold encCand
  split
  · omega
  · rw [List.length_append, le8_len]; omega
theorem tok_len (t : Tk) (h : InR t.x.I) (hC : ∀ x ∈ t.C, InR x.I) (hs : tsz t ≤ 1048576) : t.enc.length ≤ 38 + 28 * tsz t := by
  have e : tsz t = t.x.s.size + t.x.I.length + t.C.length + (t.C.map csz).sum := rfl
  have h1 := text_len t.x.s t.x.bn t.x.I h (by omega) (by omega)
  have h2 := Lib.uvarint_length64 (x := t.C.length + 1) (by omega)
  have h3 := Lib.uvarint_length64 (x := 0) (by omega)
  have h4 := flat_len (encCand t.x) csz 28 t.C fun x hx => cand_len t.x x (hC x hx) (by
    obtain ⟨i, hi⟩ := List.getElem?_of_mem hx
    have := mem_sum csz hi
    omega)
  unfold Tk.enc encTok
  rw [List.length_append, List.length_append, le8_len]
  split
  · omega
  · rw [List.length_append]; omega
theorem IntsR.inR {Q : Nat → Prop} {w : World} {a : Option Addr} {I : List Int} (h : IntsR Q w a I) : InR I := fun x hx => by
  obtain ⟨i, hi⟩ := List.getElem?_of_mem hx
  obtain ⟨h1, h2, _⟩ := h.cell i x hi
  exact ⟨h1, h2⟩
theorem toks_len {Q : Nat → Prop} {w : World} {a : Option Addr} {n c : Nat} {TS : List Tk} (h : ToksR Q w a n c TS) (hs : Small 1048576 TS) : (TS.flatMap Tk.enc).length ≤ 38 * 1048576 := by
  have h1 := hs.le
  have h4 := flat_len Tk.enc tsz 38 TS fun t ht => by
    obtain ⟨i, hi⟩ := List.getElem?_of_mem ht
    obtain ⟨g, o, a', c', ca, cc, _, hT⟩ := h.cell i t hi
    refine tok_len t hT.tx.ints.inR (fun x hx => ?_) (by have := mem_sum tsz hi; omega)
    obtain ⟨j, hj⟩ := List.getElem?_of_mem hx
    obtain ⟨g2, o2, a2, c2, _, hX⟩ := hT.cands.cell j x hj
    exact hX.ints.inR
  omega

/-- The candidates as the other texts name them. -/
structure CdOf (Q : Nat → Prop) (w : World) (C : List Tx) (K : Nat → Cd) : Prop where
  of : ∀ (i : Nat) x, C[i]? = some x → (K i).s = x.s ∧ (K i).f = x.f ∧ (K i).l = x.I.length ∧ (K i).a.isNone = x.bn ∧ IntsR Q w (K i).a x.I ∧ x.f < 18446744073709551616
theorem IntsR.is {Q : Nat → Prop} {w : World} {a : Option Addr} {I : List Int} (h : IntsR Q w a I) (hl : I.length ≤ 1048576) : IsInts w a I.length := by
  refine ⟨fun e => by rw [h.nil e]; rfl, by simp only [maxLen]; omega, fun x hx i hi => ?_⟩
  obtain ⟨_, _, g, o, h3, _, h5⟩ := h.cell i I[i] (List.getElem?_eq_getElem hi)
  rw [hx] at h3
  cases h3
  exact ⟨rfl, _, h5⟩
theorem CandsR.cds {Q : Nat → Prop} {w : World} {ca : Option Addr} {C : List Tx} (h : CandsR Q w ca C) (hl : C.length + (C.map csz).sum ≤ 1048576) : ∃ K, IsCands w ca C.length K ∧ CdOf Q w C K := by
  have hk : ∀ i : Nat, ∃ k : Cd, ∀ x, C[i]? = some x → (k.s = x.s ∧ k.f = x.f ∧ k.l = x.I.length ∧ k.a.isNone = x.bn ∧ IntsR Q w k.a x.I ∧ x.f < 18446744073709551616) ∧ ∃ g o, ca = some ⟨g, o, none⟩ ∧ CandAt w g (o + i * 3) k := by
    intro i
    cases hx : C[i]? with
    | none => exact ⟨Cd.zero, fun x hx => by cases hx⟩
    | some y =>
      obtain ⟨g, o, a, c, h1, h2⟩ := h.cell i y hx
      have e : csz y = y.s.size + y.I.length := rfl
      have h3 := mem_sum csz hx
      refine ⟨⟨y.s, y.f, a, y.I.length, c⟩, fun x hx => ?_⟩
      cases hx
      exact ⟨⟨rfl, rfl, rfl, h2.bn, h2.ints, h2.f64⟩, g, o, h1, h2.c0, h2.c1, h2.c2, h2.ints.is (by omega), by simp only [maxLen]; omega⟩
  refine ⟨fun i => (hk i).choose, ⟨fun e => by rw [h.nil e]; rfl, by simp only [maxLen]; omega, fun x hx i hi => ?_⟩, ⟨fun i x hx => ((hk i).choose_spec x hx).1⟩⟩
  obtain ⟨g, o, h1, h2⟩ := ((hk i).choose_spec C[i] (List.getElem?_eq_getElem hi)).2
  rw [hx] at h1
  cases h1
  exact ⟨rfl, h2⟩

/-- Some number. -/
def SomeInt (w : World) (e : Ending) (w' : World) : Prop := (∃ r : Int, e = .returned (.int .i64 r)) ∧ ∃ n, w' = w.drewN n
set_option maxRecDepth 100000 in
set_option maxHeartbeats 1000000 in
theorem toksSize_any (a : Option Addr) (n tc : Nat) (TS : List Tk) (bd : Int) (Q : Nat → Prop) (w : World) (h : ToksR Q w a n tc TS) (hs : Small 1048576 TS) :
    Calls Try.prog 13 #[.slice a n tc, .int .i64 bd] w (SomeInt w) := by
  have hle : (n : Int) ≤ 1048576 := by have := hs.le; have := h.len; omega
  have H : Hid (ToksR Q w a n tc TS ∧ Small 1048576 TS) := ⟨h, hs⟩
  clear h hs
  go_enter Try.func13, Try.ntmps13
  go_wp2
  go_loopg [5, 9] n (fun gk tv iv wr => ∃ (i m0 : Nat) (t : Int), gk = n - i ∧ i ≤ n ∧ tv = .int .i64 t ∧ iv = .int .i64 i ∧ wr = w.drewN m0)
  case atStart => exact ⟨0, 0, 0, by omega, by omega, rfl, rfl, rfl⟩
  case round =>
    obtain ⟨i, m0, t, hgk, hi, rfl, rfl, rfl⟩ := hrel
    by_cases hlt : i < n
    · obtain ⟨tk, ht⟩ : ∃ t, TS[i]? = some t := ⟨_, List.getElem?_eq_getElem (by have := H.out.1.len; omega)⟩
      obtain ⟨g, o, a', c', ca, cc, hx, hT⟩ := H.out.1.cell i tk ht
      subst hx
      have c0 := hT.tx.c0
      have c2 := hT.tx.c2
      have c3 := hT.c3
      obtain ⟨K, hK, _⟩ := hT.cands.cds (by have h1 := mem_sum tsz ht; have h2 := H.out.2.le; have e : tsz tk = tk.x.s.size + tk.x.I.length + tk.C.length + (tk.C.map csz).sum := rfl; omega)
      have HK : Hid (IsCands w ca tk.C.length K) := hK
      clear hT ht hK
      have hltb : decide ((i : Int) < (n : Int)) = true := by simp; omega
      have hlt' : (i : Int) < (n : Int) := by omega
      go_wp2
      go_quiet ((go_at_call 26; refine (grow_any _ _ _ _ _).mono ?_; rintro e w' ⟨rfl, rfl⟩; exact ⟨rfl, _, rfl⟩))
      go_wp2_with fail
      · go_ret
        exact ⟨⟨_, rfl⟩, _, rfl⟩
      · refine (candsSize_any ca tk.C.length cc K _ _ (HK.out.below (below_drewN (Below.refl _ _) _))).mono ?_
        rintro e w' ⟨⟨r, rfl⟩, n2, rfl⟩
        dsimp only
        go_wp2_with fail
        refine (grow_any _ _ _ _ _).mono ?_
        rintro e w' ⟨rfl, rfl⟩
        dsimp only
        go_wp2
        · go_ret
          exact ⟨⟨_, rfl⟩, _, rfl⟩
        · go_roundg (n - (i + 1))
          case measure => omega
          case rel => exact ⟨i + 1, _, _, rfl, by omega, rfl, by go_num, rfl⟩
    · have hltb : decide ((i : Int) < (n : Int)) = false := by simp; omega
      go_wp2
      go_ret
      exact ⟨⟨_, rfl⟩, _, rfl⟩
theorem piecesData_any (bp base N : Nat) (v : Value) (D : List UInt8) (w : World) (h : PAt bp base w v N D) : Calls Try.prog 16 #[.pointer (some ⟨bp, 0, none⟩)] w fun e w' => e = .returned v ∧ w' = w := by
  obtain ⟨a, n, c, rfl⟩ := dat_slice h.dat
  have q0 : w.cell? ⟨bp, 0, none⟩ = some (.slice a n c) := cell_atB h.box rfl
  clear h
  go_enter Try.func16, Try.ntmps16
  go_wp2
  go_ret
  exact ⟨rfl, rfl⟩
theorem piecesN_any (bp N : Nat) (v : Value) (w : World) (h : w.heap[bp]? = some (.cells #[v, .int .i64 (N : Int)] 41)) : Calls Try.prog 21 #[.pointer (some ⟨bp, 0, none⟩)] w fun e w' => e = .returned (.int .i64 (N : Int)) ∧ w' = w := by
  have q0 : w.cell? ⟨bp, 1, none⟩ = some (.int .i64 (N : Int)) := cell_atB h rfl
  clear h
  go_enter Try.func21, Try.ntmps21
  go_wp2
  go_ret
  exact ⟨rfl, rfl⟩
end Go.Proofs.Qxb6618748a
