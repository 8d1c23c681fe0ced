/-
  The plain side of zzNamedByPath: a pair's node counts its values, and they stand behind it; a nesting has none.
-/
import Derived.Test.Qxb6618677aVs0
import Derived.Test.Qxb6618677aRe
namespace Go.Proofs.Qxb6618677a
open Go.RowKit

theorem tail_eq {T : ByteArray} {N : Nat} : ∀ {A : List Stif.Tok} {i x i' x' : Nat} {t : Stif.Tok} {B : List Stif.Tok}, Stif.chain T N i x (A ++ t :: B) i' x' → tailOf (A ++ t :: B) t = B
  | [], i, x, i', x', t, B, _ => by simp [tailOf]
  | a :: A, i, x, i', x', t, B, h => by
    have ha := Stif.tokAt_some h.1
    have hm := (Stif.chain_mem h.2.2 t (by simp)).1
    have := tail_eq h.2.2
    unfold tailOf at this ⊢
    rw [List.cons_append, List.dropWhile_cons, if_pos (by simp; omega)]
    exact this
theorem chain_inj {T : ByteArray} {N : Nat} : ∀ {ts : List Stif.Tok} {i x i' x' : Nat} {t u : Stif.Tok}, Stif.chain T N i x ts i' x' → t ∈ ts → u ∈ ts → t.tok = u.tok → t = u
  | [], _, _, _, _, t, u, _, ht, _, _ => by simp at ht
  | a :: L, i, x, i', x', t, u, h, ht, hu, e => by
    have ha := Stif.tokAt_some h.1
    rcases List.mem_cons.1 ht with rfl | ht'
    · rcases List.mem_cons.1 hu with rfl | hu'
      · rfl
      · have := (Stif.chain_mem h.2.2 u hu').1; omega
    · rcases List.mem_cons.1 hu with rfl | hu'
      · have := (Stif.chain_mem h.2.2 t ht').1; omega
      · exact chain_inj h.2.2 ht' hu' e

theorem lead_nodes : ∀ (B : List Stif.Tok) (o : List Nat) (k j : Nat), j < Stif.lead B → ∃ t, (B.takeWhile fun t => decide (t.kind = 1))[j]? = some t ∧ (Stif.nodesOf o k B)[j]? = some (Stif.mkNode t o 0)
  | [], o, k, j, h => by simp [Stif.lead] at h
  | a :: B, o, k, j, h => by
    unfold Stif.lead at h
    by_cases hk : a.kind = 1
    · rw [List.takeWhile_cons, if_pos (by simp [hk])] at h ⊢
      unfold Stif.nodesOf
      rw [if_neg (by omega), if_neg (by omega), if_neg (by omega)]
      cases j with
      | zero => exact ⟨a, rfl, rfl⟩
      | succ j =>
        obtain ⟨t, h1, h2⟩ := lead_nodes B o (k + 1) j (by simpa [Stif.lead] using h)
        exact ⟨t, by simpa using h1, by simpa using h2⟩
    · rw [List.takeWhile_cons, if_neg (by simp [hk])] at h
      simp at h

theorem node_vals {T X : ByteArray} {i0 x0 s bd i : Nat} {ts : List Stif.Tok} {op : List Nat} {ns : List Stif.Node} {nd : Stif.Node} {p : Nat × Stif.Tok} (hch : Stif.chain T X.size i0 x0 ts T.size X.size) (hns : ns.drop s = Stif.nodesOf op s ts)
    (hnd : ns[s + i]? = some nd) (hp : (Stif.runN 0 ts)[i]? = some p) (hm : Stif.Meets bd nd p) (hk : nd.kind = 0) :
    nd.values = (fvals X ts p).length ∧ ∀ j, j < nd.values → ∃ d, ns[s + i + 1 + j]? = some d ∧ (fvals X ts p)[j]? = some (X.extract d.txt (d.txt + d.n)) := by
  have h1 : (Stif.nodesOf op s ts)[i]? = some nd := by rw [← hns, List.getElem?_drop]; exact hnd
  obtain ⟨A, t, B, o, hL, _, hdt, hdrop, _⟩ := Stif.node_split h1
  have hpt : p.2 = t := by
    have e : nd.tok = t.tok := by rw [hdt]; rfl
    exact chain_inj hch (Stif.runN_mem ts 0 p (List.mem_of_getElem? hp)) (by rw [hL]; simp) (by rw [← hm.tok, e])
  have hk0 : t.kind = 0 := by rw [hdt] at hk; exact hk
  have htl : tailOf ts p.2 = B := by rw [hpt, hL]; rw [hL] at hch; exact tail_eq hch
  have hv : nd.values = Stif.lead B := by rw [hdt, if_pos hk0]; rfl
  have hfl : (fvals X ts p).length = Stif.lead B := by unfold fvals valsOf Stif.lead; rw [htl, List.length_map]
  refine ⟨by rw [hv, hfl], fun j hj => ?_⟩
  obtain ⟨u, h2, h3⟩ := lead_nodes B (if t.kind = 2 then (s + i) :: o else o) (s + i + 1) j (by omega)
  refine ⟨Stif.mkNode u (if t.kind = 2 then (s + i) :: o else o) 0, ?_, ?_⟩
  · rw [← hdrop, List.getElem?_drop, ← hns, List.getElem?_drop] at h3
    rw [show s + i + 1 + j = s + (i + 1 + j) by omega]
    exact h3
  · unfold fvals valsOf
    rw [htl, List.getElem?_map, h2]
    rfl

/-- Behind a nesting's token stands no value. -/
def NoNV (ts : List Stif.Tok) : Prop := ∀ A t B, ts = A ++ t :: B → t.kind = 2 → Stif.lead B = 0
theorem NoNV.suffix {A ts : List Stif.Tok} (h : NoNV (A ++ ts)) : NoNV ts := fun A' t B e hk => h (A ++ A') t B (by rw [e, List.append_assoc]) hk
theorem run_nonv : ∀ {L : List Stif.Tok} {st st' : Stif.St}, Stif.run st L = some st' → NoNV L
  | [], _, _, _, A, t, B, e, _ => by simp at e
  | a :: L, st, st', h, A, t, B, e, hk => by
    unfold Stif.run at h
    cases h1 : Stif.step st a with
    | none => rw [h1] at h; cases h
    | some s1 =>
      rw [h1] at h
      simp only [Option.bind_some] at h
      cases A with
      | cons a' A =>
        rw [List.cons_append] at e
        injection e with _ e
        exact run_nonv h A t B e hk
      | nil =>
        rw [List.nil_append] at e
        injection e with e1 e2
        subst e1 e2
        have hl : s1.last = -1 := by
          unfold Stif.step at h1
          rw [if_neg (by omega), if_neg (by omega), if_pos hk] at h1
          cases h1
          rfl
        cases L with
        | nil => rfl
        | cons b L =>
          unfold Stif.run at h
          by_cases hb : b.kind = 1
          · have : Stif.step s1 b = none := by
              unfold Stif.step
              rw [if_neg (by omega), if_pos hb, if_pos (by omega)]
            rw [this] at h
            cases h
          · unfold Stif.lead
            rw [List.takeWhile_cons, if_neg (by simp [hb])]
            rfl
theorem nest_novals {T X : ByteArray} {i0 x0 : Nat} {ts : List Stif.Tok} {Pa : List ByteArray} {nm : ByteArray} (hch : Stif.chain T X.size i0 x0 ts T.size X.size) (hn : NoNV ts) : allv X ts (named X Pa nm true ts) = [] := by
  unfold allv
  rw [List.flatMap_eq_nil_iff]
  intro p hp
  have h1 := List.mem_filter.1 hp
  obtain ⟨_, _, _, hrun⟩ := fld_ok hch h1.1
  have hk : p.2.kind = 2 := by
    have := h1.2
    unfold fsel at this
    simp only [Bool.and_eq_true, beq_iff_eq] at this
    have := this.2.1
    omega
  obtain ⟨A, B, hts⟩ := List.append_of_mem (Stif.runN_mem ts 0 p hrun)
  have hl := hn A p.2 B hts hk
  have htl : tailOf ts p.2 = B := by rw [hts]; rw [hts] at hch; exact tail_eq hch
  unfold fvals valsOf
  rw [htl]
  have : (B.takeWhile fun t => decide (t.kind = 1)) = [] := List.eq_nil_of_length_eq_zero hl
  rw [this]; rfl

/-- The run's selection, node by node. -/
def selK (X : ByteArray) (Pa : List ByteArray) (nm : ByteArray) (nest : Bool) (q : (Nat × Stif.Tok) × Bool) : Bool := Stif.sel q && fsel X nm nest Pa.length q.1
def runQ (X : ByteArray) (Pa : List ByteArray) (ts : List Stif.Tok) : List ((Nat × Stif.Tok) × Bool) := (Stif.runN 0 ts).zip (Stif.reachN (pathInto X Pa) 0 0 ts)
def selI (X : ByteArray) (Pa : List ByteArray) (nm : ByteArray) (nest : Bool) (ts : List Stif.Tok) (i : Nat) : List (Nat × Stif.Tok) := (((runQ X Pa ts).take i).filter (selK X Pa nm nest)).map Prod.fst
theorem selI_all {X : ByteArray} {Pa : List ByteArray} {nm : ByteArray} {nest : Bool} {ts : List Stif.Tok} {i : Nat} (hk : ∀ t ∈ ts, t.kind ≤ 3) (hi : (Stif.runN 0 ts).length ≤ i) : selI X Pa nm nest ts i = named X Pa nm nest ts := by
  unfold selI named
  rw [List.take_of_length_le (by unfold runQ; rw [List.length_zip]; omega), Stif.flds_reach (pathInto X Pa) ts 0 0 hk, show (0 + 0 : Nat) = 0 from rfl]
  unfold runQ
  rw [List.filter_map, List.filter_filter]
  congr 1
  congr 1
  funext q
  unfold selK
  simp [Function.comp, Bool.and_comm]
theorem selI_step {X : ByteArray} {Pa : List ByteArray} {nm : ByteArray} {nest : Bool} {ts : List Stif.Tok} {i : Nat} {p : Nat × Stif.Tok} {r : Bool} (hp : (Stif.runN 0 ts)[i]? = some p) (hr : (Stif.reachN (pathInto X Pa) 0 0 ts)[i]? = some r) :
    selI X Pa nm nest ts (i + 1) = selI X Pa nm nest ts i ++ (if selK X Pa nm nest (p, r) then [p] else []) := by
  unfold selI
  have : (runQ X Pa ts)[i]? = some (p, r) := by
    unfold runQ
    rw [List.getElem?_zip_eq_some]
    exact ⟨hp, hr⟩
  rw [List.take_add_one, this, List.filter_append, List.map_append]
  congr 1
  cases h : selK X Pa nm nest (p, r) <;> simp [h]
theorem selI_len (X : ByteArray) (Pa : List ByteArray) (nm : ByteArray) (nest : Bool) (ts : List Stif.Tok) (i : Nat) : (selI X Pa nm nest ts i).length ≤ i := by
  unfold selI
  rw [List.length_map]
  have h1 := List.length_filter_le (selK X Pa nm nest) ((runQ X Pa ts).take i)
  have h2 := List.length_take_le i (runQ X Pa ts)
  omega
end Go.Proofs.Qxb6618677a
