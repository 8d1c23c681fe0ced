/-
  What the pieces say, plainly.
-/
import Derived.Test.Qxb6618748aTy
import Derived.Test.Qxb6618748aAw
import Derived.Test.Qxb6618748aDk
namespace Go.Proofs.Qxb6618748a
open Go.RowKit

structure Whole (r c : List UInt8) (TS : List Tk) (P : List Pc) : Prop where
  ok : ∀ p ∈ P, p.ok
  r : P.flatMap Pc.r = r
  c : P.flatMap Pc.c = c
  T : P.flatMap Pc.T = TS
  ord : ∀ (i : Nat) p, P[i]? = some p → p.r ≠ [] → (P.take i).flatMap Pc.c = []
theorem whole_of {r c : List UInt8} {T1 T2 : List Tk} {ps qs : List Pc} (h : Adds r [] T1 ps) (k : Adds [] c T2 qs) : Whole r c (T1 ++ T2) (ps ++ qs) := by
  refine ⟨fun p hp => (List.mem_append.1 hp).elim (h.ok p) (k.ok p), by rw [List.flatMap_append, h.r, k.r, List.append_nil], by rw [List.flatMap_append, h.c, k.c, List.nil_append], by rw [List.flatMap_append, h.T, k.T], fun i p hp hr => ?_⟩
  by_cases hi : i < ps.length
  · rw [List.take_append_of_le_length (by omega)]
    exact List.flatMap_eq_nil_iff.2 fun q hq => h.noc q (List.mem_of_mem_take hq)
  · rw [List.getElem?_append_right (by omega)] at hp
    exact absurd (k.nor p (List.mem_of_getElem? hp)) hr
theorem split_at {α : Type} {L : List α} {i : Nat} {x : α} (h : L[i]? = some x) : L = L.take i ++ (x :: L.drop (i + 1)) := by
  have hlt := (List.getElem?_eq_some_iff.1 h).1
  rw [← (List.getElem?_eq_some_iff.1 h).2, ← List.drop_eq_getElem_cons hlt, List.take_append_drop]
theorem flat_at {α β : Type} (f : α → List β) {L : List α} {i : Nat} {x : α} (h : L[i]? = some x) : L.flatMap f = (L.take i).flatMap f ++ (f x ++ (L.drop (i + 1)).flatMap f) := by
  rw [congrArg (List.flatMap f) (split_at h), List.flatMap_append, List.flatMap_cons]
theorem flat_succ {α β : Type} (f : α → List β) {L : List α} {i : Nat} {x : α} (h : L[i]? = some x) : ((L.take (i + 1)).flatMap f).length = ((L.take i).flatMap f).length + (f x).length := by
  rw [List.take_add_one, h]; simp
theorem flat_drop {α β : Type} (f : α → List β) {L : List α} {i : Nat} {x : α} (h : L[i]? = some x) : (L.drop i).flatMap f = f x ++ (L.drop (i + 1)).flatMap f := by
  have hlt := (List.getElem?_eq_some_iff.1 h).1
  rw [List.drop_eq_getElem_cons hlt, (List.getElem?_eq_some_iff.1 h).2, List.flatMap_cons]
theorem mid_take {α : Type} {L A B C : List α} (h : L = A ++ (B ++ C)) : B = (L.drop A.length).take B.length ∧ A.length + B.length ≤ L.length := by
  subst h
  rw [List.drop_left, List.take_left, List.length_append, List.length_append]
  exact ⟨rfl, by omega⟩
theorem Whole.mem {r c : List UInt8} {TS : List Tk} {P : List Pc} (h : Whole r c TS P) {i : Nat} {p : Pc} (hp : P[i]? = some p) : p.ok := h.ok p (List.mem_of_getElem? hp)
/-- The tokens of the i-th piece. -/
theorem Whole.tok {r c : List UInt8} {TS : List Tk} {P : List Pc} (h : Whole r c TS P) {i j : Nat} {p : Pc} {t : Tk} (hp : P[i]? = some p) (ht : p.T[j]? = some t) : TS[((P.take i).flatMap Pc.T).length + j]? = some t := by
  have hj := (List.getElem?_eq_some_iff.1 ht).1
  rw [← h.T, flat_at Pc.T hp, List.getElem?_append_right (by omega), show ((P.take i).flatMap Pc.T).length + j - ((P.take i).flatMap Pc.T).length = j by omega, List.getElem?_append_left hj]
  exact ht
theorem Whole.rs {r c : List UInt8} {TS : List Tk} {P : List Pc} (h : Whole r c TS P) {i : Nat} {p : Pc} (hp : P[i]? = some p) : p.r = (r.drop ((P.take i).flatMap Pc.r).length).take p.r.length ∧ ((P.take i).flatMap Pc.r).length + p.r.length ≤ r.length :=
  mid_take (h.r.symm.trans (flat_at Pc.r hp))
theorem Whole.cs {r c : List UInt8} {TS : List Tk} {P : List Pc} (h : Whole r c TS P) {i : Nat} {p : Pc} (hp : P[i]? = some p) : p.c = (c.drop ((P.take i).flatMap Pc.c).length).take p.c.length ∧ ((P.take i).flatMap Pc.c).length + p.c.length ≤ c.length :=
  mid_take (h.c.symm.trans (flat_at Pc.c hp))
theorem cat_at {T : List Tk} {j : Nat} {t : Tk} (h : T[j]? = some t) : cat T = cat (T.take j) ++ (t.x.s.data.toList ++ cat (T.drop (j + 1))) := flat_at (fun t : Tk => t.x.s.data.toList) h
theorem cat_succ {T : List Tk} {j : Nat} {t : Tk} (h : T[j]? = some t) : (cat (T.take (j + 1))).length = (cat (T.take j)).length + t.x.s.size := by
  have := flat_succ (fun t : Tk => t.x.s.data.toList) h
  simpa [cat] using this
/-- Where a text of a piece is its tokens' text, a token's text lies in it. -/
theorem cat_mid {L A B : List UInt8} {T : List Tk} {j : Nat} {t : Tk} (h : L = A ++ (cat T ++ B)) (ht : T[j]? = some t) : t.x.s.data.toList = (L.drop (A.length + (cat (T.take j)).length)).take t.x.s.size ∧ A.length + (cat (T.take j)).length + t.x.s.size ≤ L.length := by
  have := mid_take (L := L) (A := A ++ cat (T.take j)) (B := t.x.s.data.toList) (C := cat (T.drop (j + 1)) ++ B) (by rw [h, cat_at ht]; simp only [List.append_assoc])
  rw [List.length_append, size_list] at this
  exact this
theorem Whole.rt {r c : List UInt8} {TS : List Tk} {P : List Pc} (h : Whole r c TS P) {i j : Nat} {p : Pc} {t : Tk} (hp : P[i]? = some p) (hf : p.f = 1) (ht : p.T[j]? = some t) : t.x.s.data.toList = (r.drop (((P.take i).flatMap Pc.r).length + (cat (p.T.take j)).length)).take t.x.s.size ∧ ((P.take i).flatMap Pc.r).length + (cat (p.T.take j)).length + t.x.s.size ≤ r.length := by
  have e := h.r.symm.trans (flat_at Pc.r hp)
  rw [((h.mem hp).f1 hf).2] at e
  exact cat_mid e ht
theorem Whole.ct {r c : List UInt8} {TS : List Tk} {P : List Pc} (h : Whole r c TS P) {i j : Nat} {p : Pc} {t : Tk} (hp : P[i]? = some p) (hf : p.f = 0) (ht : p.T[j]? = some t) : t.x.s.data.toList = (c.drop (((P.take i).flatMap Pc.c).length + (cat (p.T.take j)).length)).take t.x.s.size ∧ ((P.take i).flatMap Pc.c).length + (cat (p.T.take j)).length + t.x.s.size ≤ c.length := by
  have e := h.c.symm.trans (flat_at Pc.c hp)
  rw [((h.mem hp).f0 hf).2] at e
  exact cat_mid e ht
/-- Where a token has a text in the reasoning, no content came before. -/
theorem Whole.ot {r c : List UInt8} {TS : List Tk} {P : List Pc} (h : Whole r c TS P) {i j : Nat} {p : Pc} {t : Tk} (hp : P[i]? = some p) (hf : p.f = 1) (ht : p.T[j]? = some t) (hs : 0 < t.x.s.size) : ((P.take i).flatMap Pc.c).length = 0 := by
  rw [h.ord i p hp fun e => ?_]
  · rfl
  · rw [((h.mem hp).f1 hf).2, cat_at ht] at e
    have := congrArg List.length e
    simp only [List.length_append, size_list, List.length_nil] at this
    omega
theorem Whole.oc {r c : List UInt8} {TS : List Tk} {P : List Pc} (h : Whole r c TS P) {i : Nat} {p : Pc} (hp : P[i]? = some p) (hs : 0 < p.r.length) : ((P.take i).flatMap Pc.c).length = 0 := by
  rw [h.ord i p hp fun e => by rw [e] at hs; cases hs]
  rfl
theorem enc_pos (p : Pc) : 1 ≤ p.enc.length := by
  have := Lib.uvarint_pos (p.T.length * 4 + p.f)
  unfold Pc.enc
  rw [List.length_append, List.length_append]
  omega
/-- How far the reader is. -/
structure Far (D : List UInt8) (P : List Pc) (i p : Nat) : Prop where
  le : p ≤ D.length
  ile : i ≤ P.length
  eq : D.drop p = (P.drop i).flatMap Pc.enc
theorem Far.lt_iff {D : List UInt8} {P : List Pc} {i p : Nat} (h : Far D P i p) : p < D.length ↔ i < P.length := by
  constructor
  · intro hp
    rcases Nat.lt_or_ge i P.length with hi | hi
    · exact hi
    · have e := h.eq
      rw [List.drop_eq_nil_of_le hi] at e
      have := congrArg List.length e
      rw [List.length_drop, List.flatMap_nil, List.length_nil] at this
      omega
  · intro hi
    have e := h.eq
    rw [flat_drop Pc.enc (List.getElem?_eq_getElem hi)] at e
    have := congrArg List.length e
    rw [List.length_drop, List.length_append] at this
    have := enc_pos P[i]
    omega
theorem far_start (P : List Pc) : Far (P.flatMap Pc.enc) P 0 0 := ⟨Nat.zero_le _, Nat.zero_le _, by simp⟩
/-- Where the reader stands inside a piece: its tokens are left. -/
structure In (D : List UInt8) (P : List Pc) (i : Nat) (pc : Pc) (j p : Nat) : Prop where
  le : p ≤ D.length
  eq : D.drop p = (pc.T.drop j).flatMap Tk.enc ++ (P.drop (i + 1)).flatMap Pc.enc
theorem In.next {D : List UInt8} {P : List Pc} {i j p : Nat} {pc : Pc} {t : Tk} (h : In D P i pc j p) (ht : pc.T[j]? = some t) : D.drop p = t.enc ++ ((pc.T.drop (j + 1)).flatMap Tk.enc ++ (P.drop (i + 1)).flatMap Pc.enc) ∧ In D P i pc (j + 1) (p + t.enc.length) := by
  have e : D.drop p = t.enc ++ ((pc.T.drop (j + 1)).flatMap Tk.enc ++ (P.drop (i + 1)).flatMap Pc.enc) := by rw [h.eq, flat_drop Tk.enc ht, List.append_assoc]
  exact ⟨e, drop_le e h.le, drop_next e⟩
theorem In.done {D : List UInt8} {P : List Pc} {i j p : Nat} {pc : Pc} (h : In D P i pc j p) (hj : pc.T.length ≤ j) (hi : i < P.length) : Far D P (i + 1) p :=
  ⟨h.le, hi, by rw [h.eq, List.drop_eq_nil_of_le hj]; rfl⟩
/-- The head of a piece. -/
theorem Far.head {D : List UInt8} {P : List Pc} {i p : Nat} {pc : Pc} (h : Far D P i p) (hp : P[i]? = some pc) : ∃ R, D.drop p = Lib.uvarint (pc.T.length * 4 + pc.f) ++ R ∧ (pc.f ≠ 2 → In D P i pc 0 (p + (Lib.uvarint (pc.T.length * 4 + pc.f)).length)) ∧ (pc.f = 2 → R = Lib.uvarint pc.r.length ++ (pc.r ++ (Lib.uvarint pc.c.length ++ (pc.c ++ (pc.T.flatMap Tk.enc ++ (P.drop (i + 1)).flatMap Pc.enc))))) := by
  have e := h.eq
  rw [flat_drop Pc.enc hp] at e
  rw [show pc.enc = Lib.uvarint (pc.T.length * 4 + pc.f) ++ (if pc.f = 2 then Lib.uvarint pc.r.length ++ pc.r ++ Lib.uvarint pc.c.length ++ pc.c else []) ++ pc.T.flatMap Tk.enc from rfl] at e
  by_cases hf : pc.f = 2
  · rw [if_pos hf] at e
    simp only [List.append_assoc] at e
    exact ⟨_, e, fun h => absurd hf h, fun _ => rfl⟩
  · rw [if_neg hf] at e
    simp only [List.append_assoc, List.nil_append] at e
    exact ⟨_, e, fun _ => ⟨drop_le e h.le, by rw [drop_next e, List.drop_zero]⟩, fun h => absurd h hf⟩
end Go.Proofs.Qxb6618748a
