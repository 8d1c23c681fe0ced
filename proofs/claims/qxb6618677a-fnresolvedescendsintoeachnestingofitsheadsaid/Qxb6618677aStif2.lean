/-
  THE PLAIN SIDE, part 2: the nodes of a list of tokens; the run of a nesting; what a walk yields of it.
-/
import Derived.Test.Qxb6618677aStif
namespace Go.Proofs.Qxb6618677a
namespace Stif

/-- The values that stand at a list's head. -/
def lead (r : List Tok) : Nat := (r.takeWhile fun t => decide (t.kind = 1)).length
/-- The nodes of a list of tokens, the open nestings ahead of it (the innermost first) and the number of the next node given. -/
def nodesOf : List Nat → Nat → List Tok → List Node
  | _, _, [] => []
  | op, k, t :: r => if t.kind = 3 then nodesOf op.tail k r else if t.kind = 2 then mkNode t op 0 :: nodesOf (k :: op) (k + 1) r
      else mkNode t op (if t.kind = 0 then lead r else 0) :: nodesOf op (k + 1) r

def bumpL (ns : List Node) (last : Int) (m : Nat) : List Node := if last < 0 then ns else bump ns last.toNat m

theorem bump_zero (ns : List Node) (l : Nat) : bump ns l 0 = ns := by
  unfold bump
  apply List.ext_getElem?
  intro i
  rw [List.getElem?_modify]
  cases ns[i]? with
  | none => rfl
  | some a => by_cases h : l = i <;> simp [h]
theorem bump_bump (ns : List Node) (l m n : Nat) : bump (bump ns l m) l n = bump ns l (m + n) := by
  unfold bump
  apply List.ext_getElem?
  intro i
  rw [List.getElem?_modify, List.getElem?_modify, List.getElem?_modify]
  cases ns[i]? with
  | none => rfl
  | some a => by_cases h : l = i <;> simp [h]; omega
theorem bump_append (ns ms : List Node) (l m : Nat) (h : l < ns.length) : bump (ns ++ ms) l m = bump ns l m ++ ms := by
  unfold bump
  apply List.ext_getElem?
  intro i
  rw [List.getElem?_modify]
  rcases Nat.lt_or_ge i ns.length with hi | hi
  · rw [List.getElem?_append_left hi, List.getElem?_append_left (by simpa using hi), List.getElem?_modify]
  · rw [List.getElem?_append_right hi, List.getElem?_append_right (by simpa using hi)]
    simp only [List.length_modify]
    cases ms[i - ns.length]? with
    | none => rfl
    | some a => simp; omega
theorem bump_last (ns : List Node) (d : Node) (m : Nat) : bump (ns ++ [d]) ns.length m = ns ++ [{ d with values := d.values + m }] := by
  unfold bump
  apply List.ext_getElem?
  intro i
  rw [List.getElem?_modify]
  rcases Nat.lt_trichotomy i ns.length with hi | hi | hi
  · rw [List.getElem?_append_left hi, List.getElem?_append_left hi]
    cases ns[i]? with
    | none => rfl
    | some a => simp; omega
  · subst hi; simp
  · rw [List.getElem?_append_right (by omega), List.getElem?_append_right (by omega)]
    have : i - ns.length ≠ 0 := by omega
    cases hh : i - ns.length with
    | zero => omega
    | succ j => simp

theorem run_nodes : ∀ {L : List Tok} {st s : St}, (∀ t ∈ L, t.kind ≤ 3) → st.last < st.nodes.length → run st L = some s → s.nodes = bumpL st.nodes st.last (lead L) ++ nodesOf st.op st.nodes.length L
  | [], st, s, _, hl, h => by
    simp only [run, Option.some.injEq] at h
    subst h
    simp [bumpL, lead, nodesOf, bump_zero]
  | a :: L, st, s, hk3, hl, h => by
    simp only [run] at h
    cases h1 : step st a with
    | none => rw [h1] at h; cases h
    | some s1 =>
      rw [h1] at h
      have hk3' : ∀ t ∈ L, t.kind ≤ 3 := fun t ht => hk3 t (List.mem_cons_of_mem _ ht)
      unfold step at h1
      by_cases k0 : a.kind = 0
      · rw [if_pos k0] at h1
        cases h1
        have ih := run_nodes hk3' (by simp; omega) h
        rw [ih]
        simp only [bumpL, nodesOf, k0, List.length_append, List.length_singleton, lead]
        rw [if_neg (by omega), Int.toNat_natCast, bump_last]
        simp [k0, mkNode, bump_zero]
      · rw [if_neg k0] at h1
        by_cases k1 : a.kind = 1
        · rw [if_pos k1] at h1
          split at h1
          · cases h1
          · rename_i hl0
            cases h1
            have ih := run_nodes hk3' (by simp [bump_length]; omega) h
            rw [ih]
            simp only [bumpL, nodesOf, k1, List.length_append, List.length_singleton, lead, bump_length]
            rw [if_neg hl0, if_neg hl0, bump_append _ _ _ _ (by rw [bump_length]; omega), bump_bump]
            simp [k1, Nat.add_comm]
        · rw [if_neg k1] at h1
          by_cases k2 : a.kind = 2
          · rw [if_pos k2] at h1
            cases h1
            have ih := run_nodes hk3' (by simp; omega) h
            rw [ih]
            simp only [bumpL, nodesOf, k2, List.length_append, List.length_singleton, lead]
            simp [k2, bump_zero]
          · rw [if_neg k2] at h1
            have k3 : a.kind = 3 := by have := hk3 a List.mem_cons_self; omega
            split at h1
            · cases h1
            · cases h1
              have ih := run_nodes hk3' (by simp; omega) h
              rw [ih]
              simp [bumpL, nodesOf, k3, lead, bump_zero]

theorem nodes_of_run {L : List Tok} {s : St} (hk3 : ∀ t ∈ L, t.kind ≤ 3) (h : run init L = some s) : s.nodes = nodesOf [] 0 L := by
  have := run_nodes hk3 (by decide) h
  rw [this]
  simp [bumpL, init]

/-- Where the i-th node comes from. -/
theorem node_split : ∀ {L : List Tok} {op : List Nat} {k i : Nat} {d : Node}, (nodesOf op k L)[i]? = some d → ∃ A t B o, L = A ++ t :: B ∧ t.kind ≠ 3 ∧ d = mkNode t o (if t.kind = 0 then lead B else 0) ∧
    (nodesOf op k L).drop (i + 1) = nodesOf (if t.kind = 2 then (k + i) :: o else o) (k + i + 1) B ∧ (bal op.length L → bal o.length (t :: B))
  | [], op, k, i, d, h => by simp [nodesOf] at h
  | a :: L, op, k, i, d, h => by
    unfold nodesOf at h
    by_cases k3 : a.kind = 3
    · rw [if_pos k3] at h
      obtain ⟨A, t, B, o, h1, h2, h3, h4, h5⟩ := node_split h
      refine ⟨a :: A, t, B, o, by rw [h1]; rfl, h2, h3, ?_, fun hb => h5 ?_⟩
      · rw [nodesOf, if_pos k3]; exact h4
      · rw [bal, if_neg (by omega), if_pos k3] at hb
        simpa using hb.2
    · rw [if_neg k3] at h
      by_cases k2 : a.kind = 2
      · rw [if_pos k2] at h
        cases i with
        | zero =>
          simp only [List.getElem?_cons_zero, Option.some.injEq] at h
          exact ⟨[], a, L, op, rfl, k3, by rw [← h]; simp [k2], by rw [nodesOf, if_neg k3, if_pos k2]; simp [k2], fun hb => hb⟩
        | succ i =>
          simp only [List.getElem?_cons_succ] at h
          obtain ⟨A, t, B, o, h1, h2, h3, h4, h5⟩ := node_split h
          refine ⟨a :: A, t, B, o, by rw [h1]; rfl, h2, h3, ?_, fun hb => h5 ?_⟩
          · rw [nodesOf, if_neg k3, if_pos k2, List.drop_succ_cons, h4]
            rw [show k + 1 + i = k + (i + 1) by omega]
          · rw [bal, if_pos k2] at hb
            simpa using hb
      · rw [if_neg k2] at h
        cases i with
        | zero =>
          simp only [List.getElem?_cons_zero, Option.some.injEq] at h
          exact ⟨[], a, L, op, rfl, k3, h.symm, by rw [nodesOf, if_neg k3, if_neg k2]; simp [k2], fun hb => hb⟩
        | succ i =>
          simp only [List.getElem?_cons_succ] at h
          obtain ⟨A, t, B, o, h1, h2, h3, h4, h5⟩ := node_split h
          refine ⟨a :: A, t, B, o, by rw [h1]; rfl, h2, h3, ?_, fun hb => h5 ?_⟩
          · rw [nodesOf, if_neg k3, if_neg k2, List.drop_succ_cons, h4]
            rw [show k + 1 + i = k + (i + 1) by omega]
          · rw [bal, if_neg k2, if_neg k3] at hb
            exact hb

/-- Every token but an end of a run, each with its depth within the run. -/
def runN : Nat → List Tok → List (Nat × Tok)
  | _, [] => []
  | d, t :: r => if t.kind = 3 then (if d = 0 then [] else runN (d - 1) r) else if t.kind = 2 then (d, t) :: runN (d + 1) r else (d, t) :: runN d r

/-- A node is the token at that depth. -/
structure Meets (bd : Nat) (nd : Node) (p : Nat × Tok) : Prop where
  kind : nd.kind = p.2.kind
  tok : nd.tok = p.2.tok
  next : nd.next = p.2.next
  txt : nd.txt = p.2.txt
  n : nd.n = p.2.n
  depth : nd.depth = bd + p.1

theorem run_none : ∀ (L : List Tok) (op : List Nat) (k bd : Nat), op.length < bd → (nodesOf op k L).takeWhile (fun d => decide (bd ≤ d.depth)) = []
  | [], _, _, _, _ => by simp [nodesOf]
  | a :: L, op, k, bd, h => by
    unfold nodesOf
    split
    · exact run_none L op.tail k bd (by simp; omega)
    · have hd : ∀ v, ¬ bd ≤ (mkNode a op v).depth := fun v => by show ¬ bd ≤ op.length; omega
      split <;> simp [hd]

/-- The nodes of a run, one for one, are its tokens. -/
theorem run_meets : ∀ (L : List Tok) (op : List Nat) (k d bd : Nat), op.length = bd + d → bal op.length L → ∃ N, (nodesOf op k L).takeWhile (fun d => decide (bd ≤ d.depth)) = N ∧ N.length = (runN d L).length ∧ ∀ (i : Nat) nd p, N[i]? = some nd → (runN d L)[i]? = some p → Meets bd nd p
  | [], _, _, _, _, _, _ => ⟨[], by simp [nodesOf], by simp [runN], by simp⟩
  | a :: L, op, k, d, bd, h, hb => by
    have hd : ∀ v, bd ≤ (mkNode a op v).depth := fun v => by show bd ≤ op.length; omega
    have hm : ∀ v, Meets bd (mkNode a op v) (d, a) := fun v => ⟨rfl, rfl, rfl, rfl, rfl, by show op.length = _; omega⟩
    unfold bal at hb
    by_cases k3 : a.kind = 3
    · rw [if_neg (by omega), if_pos k3] at hb
      by_cases hd0 : d = 0
      · refine ⟨[], ?_, by simp [runN, k3, hd0], by simp⟩
        rw [nodesOf, if_pos k3]
        exact run_none L op.tail k bd (by simp; omega)
      · obtain ⟨N, h1, h2, h3⟩ := run_meets L op.tail k (d - 1) bd (by simp; omega) (by simpa using hb.2)
        refine ⟨N, by rw [nodesOf, if_pos k3]; exact h1, ?_, ?_⟩
        · rw [runN, if_pos k3, if_neg hd0]; exact h2
        · rw [runN, if_pos k3, if_neg hd0]; exact h3
    · by_cases k2 : a.kind = 2
      · rw [if_pos k2] at hb
        obtain ⟨N, h1, h2, h3⟩ := run_meets L (k :: op) (k + 1) (d + 1) bd (by simp; omega) (by simpa using hb)
        refine ⟨mkNode a op 0 :: N, ?_, ?_, ?_⟩
        · rw [nodesOf, if_neg k3, if_pos k2, List.takeWhile_cons, if_pos (by simpa using hd 0), h1]
        · rw [runN, if_neg k3, if_pos k2]; simpa using h2
        · rw [runN, if_neg k3, if_pos k2]
          intro i nd p hi hp
          cases i with
          | zero => simp at hi hp; subst hi hp; exact hm 0
          | succ i => exact h3 i nd p (by simpa using hi) (by simpa using hp)
      · rw [if_neg k2, if_neg k3] at hb
        obtain ⟨N, h1, h2, h3⟩ := run_meets L op (k + 1) d bd h hb
        refine ⟨mkNode a op (if a.kind = 0 then lead L else 0) :: N, ?_, ?_, ?_⟩
        · rw [nodesOf, if_neg k3, if_neg k2, List.takeWhile_cons, if_pos (by simpa using hd _), h1]
        · rw [runN, if_neg k3, if_neg k2]; simpa using h2
        · rw [runN, if_neg k3, if_neg k2]
          intro i nd p hi hp
          cases i with
          | zero => simp at hi hp; obtain rfl := hp; rw [← hi]; exact hm _
          | succ i => exact h3 i nd p (by simpa using hi) (by simpa using hp)

end Stif
end Go.Proofs.Qxb6618677a
