/-
  The plain side of (Named).Values: the values that a Named names.
-/
import Derived.Test.Qxb6618677aFv
namespace Go.Proofs.Qxb6618677a
open Go.RowKit

/-- The tokens behind t. -/
def tailOf (ts : List Stif.Tok) (t : Stif.Tok) : List Stif.Tok := (ts.dropWhile fun u => !(u.tok == t.tok)).tail
theorem tail_split {T : ByteArray} {N : Nat} : ∀ {ts : List Stif.Tok} {i x i' x' : Nat} {t : Stif.Tok}, Stif.chain T N i x ts i' x' → t ∈ ts → Stif.chain T N t.next (t.txt + t.n) (tailOf ts t) i' x'
  | [], _, _, _, _, t, _, ht => by simp at ht
  | a :: L, i, x, i', x', t, h, ht => by
    have ha := Stif.tokAt_some h.1
    by_cases e : a.tok = t.tok
    · have : a = t := by
        rcases List.mem_cons.1 ht with rfl | ht
        · rfl
        · have := (Stif.chain_mem h.2.2 t ht).1
          omega
      subst this
      unfold tailOf
      rw [List.dropWhile_cons, if_neg (by simp), List.tail_cons, ha.2.2.1]
      exact h.2.2
    · rcases List.mem_cons.1 ht with rfl | ht
      · exact absurd rfl e
      · have := tail_split h.2.2 ht
        unfold tailOf at this ⊢
        rw [List.dropWhile_cons, if_pos (by simp [e])]
        exact this
theorem tail_len (ts : List Stif.Tok) (t : Stif.Tok) : (tailOf ts t).length ≤ ts.length := by
  unfold tailOf
  have : (ts.dropWhile fun u => !(u.tok == t.tok)).length ≤ ts.length := (List.dropWhile_suffix _).length_le
  simp; omega

def fvals (X : ByteArray) (ts : List Stif.Tok) (p : Nat × Stif.Tok) : List ByteArray := valsOf X (tailOf ts p.2)
theorem fvals_len (X : ByteArray) (ts : List Stif.Tok) (p : Nat × Stif.Tok) : (fvals X ts p).length ≤ ts.length := by
  have h1 : (fvals X ts p).length ≤ (tailOf ts p.2).length := by
    unfold fvals valsOf
    rw [List.length_map]
    exact (List.takeWhile_prefix _).length_le
  have := tail_len ts p.2
  omega
theorem flat_len {α β : Type} (f : α → List β) (M : Nat) (h : ∀ a, (f a).length ≤ M) : ∀ l : List α, (l.flatMap f).length ≤ l.length * M
  | [] => by simp
  | a :: l => by
    have := flat_len f M h l
    have := h a
    rw [List.flatMap_cons, List.length_append, List.length_cons, Nat.add_mul]
    omega

/-- All values of the fields; those that an index picks. -/
def allv (X : ByteArray) (ts : List Stif.Tok) (G : List (Nat × Stif.Tok)) : List ByteArray := G.flatMap (fvals X ts)
def picks (ix : Int) (all : List ByteArray) : List ByteArray := if ix = 0 then all else if 1 ≤ ix then (all.drop (ix.toNat - 1)).take 1 else []
/-- What has been yielded when so many values have been met and the picked one not yet. -/
def sofar (ix : Int) (l : List ByteArray) : List ByteArray := if ix = 0 then l else []

theorem allv_len {T X : ByteArray} {i0 x0 : Nat} {ts : List Stif.Tok} {into : Nat → Stif.Tok → Bool} (hT : T.size ≤ 1048576) (hch : Stif.chain T X.size i0 x0 ts T.size X.size) {G : List (Nat × Stif.Tok)} (hG : G.Sublist (Stif.flds into 0 0 ts)) : (allv X ts G).length ≤ 1099511627776 := by
  have h1 := flat_len (fvals X ts) T.size (fun a => by have := fvals_len X ts a; have := (Stif.chain_le hch).1; omega) G
  have h2 : G.length ≤ T.size := by
    have h3 := hG.length_le
    have h := into_every (av := X ++ ⟨#[33]⟩) (md := (T.size : Int) + 1) (by rw [ByteArray.size_append]; show X.size < X.size + 1; omega) (by omega) hch
    have h4 := (Stif.flds_sub into _ ts 0 0 h).length_le
    rw [show (0 + 0 : Nat) = 0 from rfl, flds_every (by rw [ByteArray.size_append]; show X.size < X.size + 1; omega) (by omega) hch] at h4
    have := allF_len hch
    omega
  have h5 : G.length * T.size ≤ 1048576 * 1048576 := Nat.mul_le_mul (by omega) hT
  unfold allv
  omega

theorem picks_hit {ix : Int} {a b : List ByteArray} {v : ByteArray} (h0 : ix ≠ 0) (h : ((a.length + 1 : Nat) : Int) = ix) : picks ix (a ++ v :: b) = [v] := by
  unfold picks
  rw [if_neg h0, if_pos (by omega)]
  have : ix.toNat - 1 = a.length := by omega
  rw [this, List.drop_left]
  rfl
theorem picks_miss {ix : Int} {a : List ByteArray} (h0 : ix ≠ 0) (h : ¬ (1 ≤ ix ∧ ix ≤ (a.length : Int))) : picks ix a = [] := by
  unfold picks
  rw [if_neg h0]
  split
  · rw [List.drop_eq_nil_of_le (by omega)]; rfl
  · rfl

end Go.Proofs.Qxb6618677a
