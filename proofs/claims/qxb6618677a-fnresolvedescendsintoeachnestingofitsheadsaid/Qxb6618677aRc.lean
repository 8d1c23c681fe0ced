/-
  THE PLAIN SIDE, part 4: which tokens of a run a walk comes to, told by each node's parent.
-/
import Derived.Test.Qxb6618677aStif3
namespace Go.Proofs.Qxb6618677a
namespace Stif

/-- Of every token of the run (but an end): does the walk come to it? (d: depth of what it has gone into; k: nestings that it is passing over) -/
def reachN (into : Nat → Tok → Bool) : Nat → Nat → List Tok → List Bool
  | _, _, [] => []
  | d, 0, t :: r => if t.kind = 3 then (if d = 0 then [] else reachN into (d - 1) 0 r) else if t.kind = 2 then true :: (if into d t then reachN into (d + 1) 0 r else reachN into d 1 r) else true :: reachN into d 0 r
  | d, k + 1, t :: r => if t.kind = 3 then reachN into d k r else if t.kind = 2 then false :: reachN into d (k + 2) r else false :: reachN into d (k + 1) r

theorem reachN_length (into : Nat → Tok → Bool) : ∀ (ts : List Tok) (d k : Nat), (reachN into d k ts).length = (runN (d + k) ts).length
  | [], d, k => by cases k <;> simp [reachN, runN]
  | a :: L, d, 0 => by
    unfold reachN runN
    split
    · split
      · rename_i h; simp [h]
      · rename_i h; simp only [Nat.add_zero, h, if_false]; exact reachN_length into L (d - 1) 0
    · split
      · split
        · simp only [List.length_cons]; rw [reachN_length into L (d + 1) 0]
        · simp only [List.length_cons]; rw [reachN_length into L d 1]
      · simp only [List.length_cons]; rw [reachN_length into L d 0]
  | a :: L, d, k + 1 => by
    unfold reachN runN
    split
    · rw [if_neg (by omega), reachN_length into L d k]; rfl
    · split
      · simp only [List.length_cons]; rw [reachN_length into L d (k + 2)]; rfl
      · simp only [List.length_cons]; rw [reachN_length into L d (k + 1)]

def sel (q : (Nat × Tok) × Bool) : Bool := q.2 && isField q.1
theorem flds_reach (into : Nat → Tok → Bool) : ∀ (ts : List Tok) (d k : Nat), (∀ t ∈ ts, t.kind ≤ 3) → flds into d k ts = (((runN (d + k) ts).zip (reachN into d k ts)).filter sel).map Prod.fst
  | [], d, k, _ => by cases k <;> simp [flds, runN]
  | a :: L, d, 0, h => by
    have h' : ∀ t ∈ L, t.kind ≤ 3 := fun t ht => h t (List.mem_cons_of_mem _ ht)
    unfold flds reachN runN
    by_cases k3 : a.kind = 3
    · simp only [k3, if_true, Nat.add_zero]
      by_cases hd : d = 0
      · simp [hd]
      · simp only [hd, if_false]; exact flds_reach into L (d - 1) 0 h'
    · simp only [k3, if_false]
      by_cases k2 : a.kind = 2
      · have k0 : ¬ a.kind = 0 := by omega
        simp only [if_pos k2, if_neg k0]
        have hs : sel ((d + 0, a), true) = true := by simp [sel, isField, k2]
        rw [List.zip_cons_cons, List.filter_cons, if_pos hs, List.map_cons]
        congr 1
        split
        · exact flds_reach into L (d + 1) 0 h'
        · exact flds_reach into L d 1 h'
      · simp only [k2, if_false]
        have ih := flds_reach into L d 0 h'
        rw [List.zip_cons_cons, List.filter_cons]
        by_cases k0 : a.kind = 0
        · have hs : sel ((d + 0, a), true) = true := by simp [sel, isField, k0]
          rw [if_pos k0, if_pos hs, List.map_cons, ih]; rfl
        · have k1 : a.kind = 1 := by have := h a List.mem_cons_self; omega
          have hs : ¬ sel ((d + 0, a), true) = true := by simp [sel, isField, k1]
          rw [if_neg k0, if_neg hs, ih]
  | a :: L, d, k + 1, h => by
    have h' : ∀ t ∈ L, t.kind ≤ 3 := fun t ht => h t (List.mem_cons_of_mem _ ht)
    have hs : ∀ p, ¬ sel (p, false) = true := fun p => by simp [sel]
    unfold flds reachN runN
    by_cases k3 : a.kind = 3
    · have e : d + (k + 1) - 1 = d + k := by omega
      have k2 : ¬ a.kind = 2 := by omega
      rw [if_neg k2, if_pos k3, if_pos k3, if_pos k3, if_neg (by omega), e]
      exact flds_reach into L d k h'
    · by_cases k2 : a.kind = 2
      · simp only [k2, if_true]
        rw [if_neg (by omega), if_neg (by omega), List.zip_cons_cons, List.filter_cons, if_neg (hs _)]
        exact flds_reach into L d (k + 2) h'
      · simp only [k2, k3, if_false]
        rw [List.zip_cons_cons, List.filter_cons, if_neg (hs _)]
        exact flds_reach into L d (k + 1) h'

/-- Whether what lies under the innermost open nesting is come to. -/
def gate (bd : Nat) (rA eA : Nat → Bool) (op : List Nat) : Bool :=
  if op.length = bd then true else match op with
    | x :: _ => rA x && eA x
    | [] => true

theorem gate_push {bd : Nat} {rA eA : Nat → Bool} {x : Nat} {op : List Nat} (h : bd ≤ op.length) : gate bd rA eA (x :: op) = (rA x && eA x) := by
  unfold gate
  rw [if_neg (by simp; omega)]

/-- EVERY NODE's PARENT TELLS whether the walk comes to it. -/
theorem parents (into : Nat → Tok → Bool) (rA eA : Nat → Bool) (b : Int) (bd s : Nat) : ∀ (L : List Tok) (op : List Nat) (k d kk : Nat),
    s ≤ k → op.length = bd + (d + kk) → (∀ i, i ≤ d + kk → gate bd rA eA (op.drop i) = decide (kk ≤ i)) → parentOf (op.drop (d + kk)) = b → (∀ x ∈ op.take (d + kk), s ≤ x ∧ x < k) →
    (∀ (j : Nat) r, (reachN into d kk L)[j]? = some r → rA (k + j) = r) → (∀ (j : Nat) p, (runN (d + kk) L)[j]? = some p → eA (k + j) = (p.2.kind == 2 && into p.1 p.2)) →
    ∀ (j : Nat) nd, j < (runN (d + kk) L).length → (nodesOf op k L)[j]? = some nd → (nd.parent = b ∧ rA (k + j) = true) ∨ ∃ x : Nat, nd.parent = (x : Int) ∧ s ≤ x ∧ x < k + j ∧ rA (k + j) = (rA x && eA x)
  | [], _, _, _, _, _, _, _, _, _, _, _, j, nd, hj, _ => by simp [runN] at hj
  | a :: L, op, k, d, kk, hsk, hl, hg, hp, hx, hr, he, j, nd, hj, hnd => by
    by_cases k3 : a.kind = 3
    · have hm : ¬ d + kk = 0 := by
        intro e
        simp [runN, k3, e] at hj
      rw [runN, if_pos k3, if_neg hm] at hj he
      rw [nodesOf, if_pos k3] at hnd
      have ht : ∀ i, op.tail.drop i = op.drop (i + 1) := fun i => by rw [List.drop_tail]
      have hxt : ∀ x ∈ op.tail.take (d + kk - 1), s ≤ x ∧ x < k := fun x h => by
        refine hx x ?_
        rw [← List.drop_one, ← List.drop_take] at h
        exact List.mem_of_mem_drop h
      cases kk with
      | zero =>
        have hm' : d ≠ 0 := by omega
        rw [reachN, if_pos k3, if_neg hm'] at hr
        have e : d + 0 - 1 = d - 1 + 0 := by omega
        rw [e] at hj he hxt
        exact parents into rA eA b bd s L op.tail k (d - 1) 0 hsk (by simp; omega) (fun i hi => by rw [ht, hg (i + 1) (by omega)]; simp) (by rw [ht, show d - 1 + 0 + 1 = d + 0 by omega]; exact hp) hxt hr he j nd hj hnd
      | succ kk =>
        rw [reachN, if_pos k3] at hr
        have e : d + (kk + 1) - 1 = d + kk := by omega
        rw [e] at hj he hxt
        exact parents into rA eA b bd s L op.tail k d kk hsk (by simp; omega) (fun i hi => by rw [ht, hg (i + 1) (by omega)]; simp) (by rw [ht, show d + kk + 1 = d + (kk + 1) by omega]; exact hp) hxt hr he j nd hj hnd
    · -- the node itself
      have hself : rA k = decide (kk = 0) → ∀ v, nd = mkNode a op v → (nd.parent = b ∧ rA (k + 0) = true) ∨ ∃ x : Nat, nd.parent = (x : Int) ∧ s ≤ x ∧ x < k + 0 ∧ rA (k + 0) = (rA x && eA x) := by
        intro h0 v hv
        subst hv
        by_cases hm : d + kk = 0
        · left
          rw [hm] at hp
          refine ⟨by simpa [mkNode] using hp, ?_⟩
          have : kk = 0 := by omega
          simp [h0, this]
        · right
          cases op with
          | nil => simp at hl; omega
          | cons x o =>
            have h1 := hg 0 (by omega)
            have h2 := hx x (by cases h : d + kk with | zero => omega | succ m => simp)
            refine ⟨x, rfl, h2.1, by omega, ?_⟩
            rw [List.drop_zero, gate_push (by simp at hl; omega)] at h1
            rw [h1, Nat.add_zero, h0]
            simp
      have hr0 : rA k = decide (kk = 0) := by
        cases kk with
        | zero =>
          have := hr 0 true (by rw [reachN, if_neg k3]; split <;> simp)
          simpa using this
        | succ kk =>
          have := hr 0 false (by rw [reachN, if_neg k3]; split <;> simp)
          simpa using this
      rw [runN, if_neg k3] at hj he
      rw [nodesOf, if_neg k3] at hnd
      by_cases k2 : a.kind = 2
      · rw [if_pos k2] at hj he hnd
        have he0 : eA k = into (d + kk) a := by
          have := he 0 (d + kk, a) (by simp)
          simpa [k2] using this
        cases j with
        | zero => exact hself hr0 0 (by simpa using hnd.symm)
        | succ j =>
          have hj' : j < (runN (d + kk + 1) L).length := by simpa using hj
          have hnd' : (nodesOf (k :: op) (k + 1) L)[j]? = some nd := by simpa using hnd
          have he' : ∀ (j : Nat) p, (runN (d + kk + 1) L)[j]? = some p → eA (k + 1 + j) = (p.2.kind == 2 && into p.1 p.2) := fun j p h => by
            have := he (j + 1) p (by simpa using h)
            rwa [show k + (j + 1) = k + 1 + j by omega] at this
          have hg0 : gate bd rA eA (k :: op) = (rA k && eA k) := gate_push (by omega)
          have hxx : ∀ x ∈ (k :: op).take (d + kk + 1), s ≤ x ∧ x < k + 1 := fun x h => by
            rw [List.take_succ_cons] at h
            rcases List.mem_cons.1 h with rfl | h
            · exact ⟨hsk, by omega⟩
            · have := hx x h; omega
          have step : ∀ d' kk', d' + kk' = d + kk + 1 → (∀ (j : Nat) r, (reachN into d' kk' L)[j]? = some r → rA (k + 1 + j) = r) → (∀ i, i ≤ d' + kk' → gate bd rA eA ((k :: op).drop i) = decide (kk' ≤ i)) →
              (nd.parent = b ∧ rA (k + 1 + j) = true) ∨ ∃ x : Nat, nd.parent = (x : Int) ∧ s ≤ x ∧ x < k + 1 + j ∧ rA (k + 1 + j) = (rA x && eA x) := fun d' kk' e hr' hg' =>
            parents into rA eA b bd s L (k :: op) (k + 1) d' kk' (by omega) (by simp; omega) hg' (by rw [e]; simpa using hp) (by rw [e]; exact hxx) hr' (by rw [e]; exact he') j nd (by rw [e]; exact hj') hnd'
          rw [show k + (j + 1) = k + 1 + j by omega]
          have shift : ∀ (q : Bool) (l : List Bool), (∀ (j : Nat) r, (q :: l)[j]? = some r → rA (k + j) = r) → ∀ (j : Nat) r, l[j]? = some r → rA (k + 1 + j) = r := fun q l h j r hjr => by
            have := h (j + 1) r (by simpa using hjr)
            rwa [show k + (j + 1) = k + 1 + j by omega] at this
          cases kk with
          | zero =>
            rw [reachN, if_neg k3, if_pos k2] at hr
            by_cases hi : into d a = true
            · rw [if_pos hi] at hr
              refine step (d + 1) 0 (by omega) (shift _ _ hr) (fun i hi' => ?_)
              cases i with
              | zero => rw [List.drop_zero, hg0, hr0, he0]; simpa using hi
              | succ i => rw [List.drop_succ_cons, hg i (by omega)]; simp
            · rw [if_neg hi] at hr
              refine step d 1 (by omega) (shift _ _ hr) (fun i hi' => ?_)
              cases i with
              | zero => rw [List.drop_zero, hg0, hr0, he0]; simpa using hi
              | succ i => rw [List.drop_succ_cons, hg i (by omega)]; simp
          | succ kk =>
            rw [reachN, if_neg k3, if_pos k2] at hr
            refine step d (kk + 2) (by omega) (shift _ _ hr) (fun i hi' => ?_)
            cases i with
            | zero => rw [List.drop_zero, hg0, hr0]; simp
            | succ i => rw [List.drop_succ_cons, hg i (by omega)]; simp
      · rw [if_neg k2] at hj he hnd
        cases j with
        | zero => exact hself hr0 _ (by simpa using hnd.symm)
        | succ j =>
          have hj' : j < (runN (d + kk) L).length := by simpa using hj
          have hnd' : (nodesOf op (k + 1) L)[j]? = some nd := by simpa using hnd
          have he' : ∀ (j : Nat) p, (runN (d + kk) L)[j]? = some p → eA (k + 1 + j) = (p.2.kind == 2 && into p.1 p.2) := fun j p h => by
            have := he (j + 1) p (by simpa using h)
            rwa [show k + (j + 1) = k + 1 + j by omega] at this
          have hr' : ∀ (j : Nat) r, (reachN into d kk L)[j]? = some r → rA (k + 1 + j) = r := fun j r h => by
            have := hr (j + 1) r (by
              cases kk with
              | zero => rw [reachN, if_neg k3, if_neg k2]; simpa using h
              | succ kk => rw [reachN, if_neg k3, if_neg k2]; simpa using h)
            rwa [show k + (j + 1) = k + 1 + j by omega] at this
          rw [show k + (j + 1) = k + 1 + j by omega]
          exact parents into rA eA b bd s L op (k + 1) d kk (by omega) hl hg hp (fun x h => by have := hx x h; omega) hr' he' j nd hj' hnd'

theorem filter_at {α : Type} (f : α → Bool) (P : List α) (i : Nat) (a : α) (h : P[i]? = some a) (hf : f a = true) : (P.filter f)[((P.take i).filter f).length]? = some a := by
  obtain ⟨hi, rfl⟩ := List.getElem?_eq_some_iff.1 h
  have e : P = P.take i ++ P[i] :: P.drop (i + 1) := by rw [← List.drop_eq_getElem_cons hi, List.take_append_drop]
  conv => lhs; arg 1; rw [e]
  rw [List.filter_append, List.filter_cons, if_pos hf, List.getElem?_append_right (Nat.le_refl _)]
  simp
theorem filter_count {α : Type} (f : α → Bool) (P : List α) (i : Nat) (a : α) (h : P[i]? = some a) : ((P.take (i + 1)).filter f).length = ((P.take i).filter f).length + (if f a then 1 else 0) := by
  obtain ⟨hi, rfl⟩ := List.getElem?_eq_some_iff.1 h
  rw [List.take_succ_eq_append_getElem hi, List.filter_append, List.length_append]
  congr 1
  cases hf : f P[i] <;> simp [hf]

end Stif
end Go.Proofs.Qxb6618677a
