/-
  The plain law of the head, as the law's loop adds it up; append of a whole slice.
-/
import Derived.Test.Qxb6618677aPl
import Derived.Test.Qxb6618677aLr
namespace Go.Proofs.Qxb6618677a
open Go.RowKit

theorem bal_suffix {B : List Stif.Tok} : ∀ (A : List Stif.Tok) (k : Nat), Stif.bal k (A ++ B) → ∃ k', Stif.bal k' B
  | [], k, h => ⟨k, h⟩
  | a :: A, k, h => by
    rw [List.cons_append, Stif.bal] at h
    split at h
    · exact bal_suffix A _ h
    · split at h
      · exact bal_suffix A _ h.2
      · exact bal_suffix A _ h

theorem par_depth (b : Int) (s : Nat) : ∀ (L : List Stif.Tok) (op : List Nat) (k d : Nat), d ≤ op.length → Stif.parentOf (op.drop d) = b → (∀ x ∈ op.take d, s ≤ x) → s ≤ k → ∀ (j : Nat) (nd : Stif.Node) (p : Nat × Stif.Tok), (Stif.runN d L)[j]? = some p → (Stif.nodesOf op k L)[j]? = some nd → (p.1 = 0 → nd.parent = b) ∧ (p.1 ≠ 0 → (s : Int) ≤ nd.parent)
  | [], op, k, d, _, _, _, _, j, nd, p, h, _ => by simp [Stif.runN] at h
  | a :: L, op, k, d, hd, hp, hx, hk, j, nd, p, h, hn => by
    unfold Stif.runN at h
    unfold Stif.nodesOf at hn
    have self : ∀ v, (d = 0 → (Stif.mkNode a op v).parent = b) ∧ (d ≠ 0 → (s : Int) ≤ (Stif.mkNode a op v).parent) := fun v => by
      refine ⟨fun h0 => ?_, fun h0 => ?_⟩
      · subst h0; exact hp
      · show (s : Int) ≤ Stif.parentOf op
        cases op with
        | nil => simp at hd; omega
        | cons y op =>
          have := hx y (by
            cases d with
            | zero => exact absurd rfl h0
            | succ d => simp)
          show (s : Int) ≤ (y : Int)
          omega
    by_cases k3 : a.kind = 3
    · rw [if_pos k3] at h hn
      by_cases h0 : d = 0
      · rw [if_pos h0] at h; simp at h
      · rw [if_neg h0] at h
        cases op with
        | nil => simp at hd; omega
        | cons y op =>
          obtain ⟨d', rfl⟩ : ∃ d', d = d' + 1 := ⟨d - 1, by omega⟩
          exact par_depth b s L op k d' (by simpa using hd) (by simpa using hp) (fun x hxx => hx x (by rw [List.take_succ_cons]; exact List.mem_cons_of_mem _ hxx)) hk j nd p h hn
    · rw [if_neg k3] at h hn
      by_cases k2 : a.kind = 2
      · rw [if_pos k2] at h hn
        cases j with
        | zero =>
          simp only [List.getElem?_cons_zero, Option.some.injEq] at h hn
          subst h hn
          exact self _
        | succ j =>
          simp only [List.getElem?_cons_succ] at h hn
          exact par_depth b s L (k :: op) (k + 1) (d + 1) (by simpa using hd) (by simpa using hp) (fun x hxx => by
            rw [List.take_succ_cons] at hxx
            rcases List.mem_cons.1 hxx with rfl | hxx
            · exact hk
            · exact hx x hxx) (by omega) j nd p h hn
      · rw [if_neg k2] at h hn
        cases j with
        | zero =>
          simp only [List.getElem?_cons_zero, Option.some.injEq] at h hn
          subst h hn
          exact self _
        | succ j =>
          simp only [List.getElem?_cons_succ] at h hn
          exact par_depth b s L op (k + 1) d hd hp hx (by omega) j nd p h hn
/-- A node of the run hangs from the run's own base if and only if it lies at the top. -/
theorem LP.top {T X : ByteArray} {ns R : List Stif.Node} {ts : List Stif.Tok} {op : List Nat} {s bd i0 x0 : Nat} (h : LP T X ns R ts op s bd i0 x0) {i : Nat} {nd : Stif.Node} {p : Nat × Stif.Tok} (hn : R[i]? = some nd) (hp : (Stif.runN 0 ts)[i]? = some p) : (nd.parent != (s : Int) - 1) = !(p.1 == 0) := by
  have h1 := h.run.get hn
  rw [← List.getElem?_drop, h.o3] at h1
  obtain ⟨q1, q2⟩ := par_depth ((s : Int) - 1) s ts op s 0 (Nat.zero_le _) (by simpa using h.o2) (by simp) (Nat.le_refl _) i nd p hp h1
  by_cases h0 : p.1 = 0
  · rw [q1 h0, h0]; simp
  · have := q2 h0
    have e : (p.1 == 0) = false := by simpa using h0
    rw [e]
    simp
    omega

/-- The heads among the first i of the run. -/
def headI (X h : ByteArray) (ts : List Stif.Tok) (i : Nat) : List (Nat × Stif.Tok) := ((Stif.runN 0 ts).take i).filter (topH X h)
theorem headI_step {X h : ByteArray} {ts : List Stif.Tok} {i : Nat} {p : Nat × Stif.Tok} (hp : (Stif.runN 0 ts)[i]? = some p) : headI X h ts (i + 1) = headI X h ts i ++ if topH X h p then [p] else [] := by
  unfold headI
  rw [List.take_add_one, hp, List.filter_append]
  cases hh : topH X h p <;> simp [hh]
theorem headI_all {X h : ByteArray} {ts : List Stif.Tok} {i : Nat} (hi : (Stif.runN 0 ts).length ≤ i) : headI X h ts i = heads X h ts := by
  unfold headI heads
  rw [List.take_of_length_le hi]
/-- What the rest of the path names in one head. -/
def hvals (X : ByteArray) (Pq : List ByteArray) (nm : ByteArray) (ts : List Stif.Tok) (p : Nat × Stif.Tok) : List ByteArray := allv X (tailOf ts p.2) (named X Pq nm false (tailOf ts p.2))
def hany (X : ByteArray) (Pq : List ByteArray) (nm : ByteArray) (ts : List Stif.Tok) (p : Nat × Stif.Tok) : Bool := decide (0 < (named X Pq nm false (tailOf ts p.2)).length) || decide (0 < (named X Pq nm true (tailOf ts p.2)).length)
def joinI (X h : ByteArray) (Pq : List ByteArray) (nm : ByteArray) (ts : List Stif.Tok) (i : Nat) : List ByteArray := (headI X h ts i).flatMap (hvals X Pq nm ts)
def someI (X h : ByteArray) (Pq : List ByteArray) (nm : ByteArray) (ts : List Stif.Tok) (i : Nat) : Bool := (headI X h ts i).any (hany X Pq nm ts)
theorem joinI_zero (X h : ByteArray) (Pq : List ByteArray) (nm : ByteArray) (ts : List Stif.Tok) : joinI X h Pq nm ts 0 = [] := by simp [joinI, headI]
theorem someI_zero (X h : ByteArray) (Pq : List ByteArray) (nm : ByteArray) (ts : List Stif.Tok) : someI X h Pq nm ts 0 = false := by simp [someI, headI]
theorem join_skip {X h : ByteArray} {Pq : List ByteArray} {nm : ByteArray} {ts : List Stif.Tok} {i : Nat} {p : Nat × Stif.Tok} (hp : (Stif.runN 0 ts)[i]? = some p) (ht : topH X h p = false) : joinI X h Pq nm ts (i + 1) = joinI X h Pq nm ts i ∧ someI X h Pq nm ts (i + 1) = someI X h Pq nm ts i := by
  unfold joinI someI
  rw [headI_step hp, ht]
  simp
theorem join_take {X h : ByteArray} {Pq : List ByteArray} {nm : ByteArray} {ts : List Stif.Tok} {i : Nat} {p : Nat × Stif.Tok} (hp : (Stif.runN 0 ts)[i]? = some p) (ht : topH X h p = true) : joinI X h Pq nm ts (i + 1) = joinI X h Pq nm ts i ++ hvals X Pq nm ts p ∧ someI X h Pq nm ts (i + 1) = (someI X h Pq nm ts i || hany X Pq nm ts p) := by
  unfold joinI someI
  rw [headI_step hp, ht]
  simp
theorem join_all {T X : ByteArray} {i0 x0 : Nat} {ts : List Stif.Tok} (hch : Stif.chain T X.size i0 x0 ts T.size X.size) (h nm : ByteArray) (Pq : List ByteArray) {i : Nat} (hi : (Stif.runN 0 ts).length ≤ i) : joinI X h Pq nm ts i = allv X ts (named X (h :: Pq) nm false ts) := by
  unfold joinI
  rw [headI_all hi, allv_heads hch]
  rfl
theorem any_flat {α β : Type} (f : α → List β) : ∀ l : List α, decide (0 < (l.flatMap f).length) = l.any fun a => decide (0 < (f a).length)
  | [] => by simp
  | a :: l => by
    rw [List.flatMap_cons, List.any_cons, ← any_flat f l, List.length_append, ← Bool.decide_or]
    exact decide_eq_decide.2 (by omega)
theorem some_all {T X : ByteArray} {i0 x0 : Nat} {ts : List Stif.Tok} (hch : Stif.chain T X.size i0 x0 ts T.size X.size) (h nm : ByteArray) (Pq : List ByteArray) {i : Nat} (hi : (Stif.runN 0 ts).length ≤ i) : someI X h Pq nm ts i = (decide (0 < (named X (h :: Pq) nm false ts).length) || decide (0 < (named X (h :: Pq) nm true ts).length)) := by
  unfold someI
  rw [headI_all hi, named_heads hch, named_heads hch, any_flat, any_flat]
  simp only [List.length_map]
  unfold hany
  induction heads X h ts with
  | nil => rfl
  | cons a l ih =>
    rw [List.any_cons, List.any_cons, List.any_cons, ih]
    simp only [Bool.or_assoc, Bool.or_left_comm]
theorem join_le {T X : ByteArray} {i0 x0 : Nat} {ts : List Stif.Tok} (hT : T.size ≤ 1048576) (hch : Stif.chain T X.size i0 x0 ts T.size X.size) (h nm : ByteArray) (Pq : List ByteArray) (i : Nat) : (joinI X h Pq nm ts i).length ≤ 1099511627776 := by
  have h1 := allv_len hT hch (G := named X (h :: Pq) nm false ts) (into := pathInto X (h :: Pq)) List.filter_sublist
  rw [← join_all hch h nm Pq (Nat.le_refl _)] at h1
  refine Nat.le_trans ?_ h1
  unfold joinI
  have hs : (headI X h ts i).Sublist (headI X h ts (Stif.runN 0 ts).length) := by
    rw [headI_all (Nat.le_refl _)]
    exact (List.take_sublist i _).filter _
  exact (flat_sub (hvals X Pq nm ts) hs).length_le
where
  flat_sub {α β : Type} (f : α → List β) {l l' : List α} (hs : l.Sublist l') : (l.flatMap f).Sublist (l'.flatMap f) := by
    induction hs with
    | slnil => exact List.Sublist.refl _
    | cons a _ ih => rw [List.flatMap_cons]; exact ih.trans (List.sublist_append_right _ _)
    | cons_cons a _ ih => rw [List.flatMap_cons, List.flatMap_cons]; exact (List.Sublist.refl _).append ih
/-- The run behind a head. -/
theorem LP.inner {T X : ByteArray} {ns R : List Stif.Node} {ts : List Stif.Tok} {op : List Nat} {s bd i0 x0 : Nat} (h : LP T X ns R ts op s bd i0 x0) {i : Nat} {p : Nat × Stif.Tok} (hp : (Stif.runN 0 ts)[i]? = some p) :
    Stif.chain T X.size p.2.next (p.2.txt + p.2.n) (tailOf ts p.2) T.size X.size ∧ (∃ k, Stif.bal k (tailOf ts p.2)) ∧ NoNV (tailOf ts p.2) := by
  have hm := Stif.runN_mem ts 0 p (List.mem_of_getElem? hp)
  obtain ⟨A, B, hts⟩ := List.append_of_mem hm
  have ht : tailOf ts p.2 = B := by have := h.chain; rw [hts] at this ⊢; exact tail_eq this
  have e : ts = (A ++ [p.2]) ++ B := by rw [hts]; simp
  refine ⟨tail_split h.chain hm, ?_, ?_⟩
  · have := h.bal
    rw [e] at this
    rw [ht]
    exact bal_suffix _ _ this
  · have := h.nonv
    rw [e] at this
    rw [ht]
    exact this.suffix
theorem topH_eq (X h : ByteArray) (p : Nat × Stif.Tok) : topH X h p = ((p.1 == 0) && ((p.2.kind == 2) && ((X.extract p.2.txt (p.2.txt + p.2.n)).toList == h.toList))) := rfl

section
variable {P : Program} (w : World)
/-- Nothing appended. -/
theorem run_append_none (base : Nat) (t ty e : TypeId) (i : TypeInfo) (size : Nat) (ht : P.underlying t = some (.slice e)) (hi : P.info? e = some i) (hsize : i.size = size)
    (v : Value) (n : Nat) (xs : List Value) (hown : w.ownsRow base e size v n xs) :
    (Builtin.append_ #[t, t] ty #[v, .slice none 0 0]).run P w = .ok v w := by
  subst hsize
  rcases hown.2 with ⟨rfl, rfl⟩ | ⟨g, cap, cur, rfl, hbg, hg, hnc, hcm, hcs, htake⟩
  · simp [Builtin.append_, run_underlying ht, sizeOf, typeInfo, hi, Builtin.lenOf, Builtin.firstCells]
  · simp [Builtin.append_, run_underlying ht, sizeOf, typeInfo, hi, Builtin.lenOf, Builtin.firstCells, storeCells, hnc]
end
section
variable {P : Program} {w : World}
/-- append(s, x...) of two slices that the call owns. -/
theorem wpList_append_rows {ops : Array Oper} {rest : List Oper} {o : Oper} {a : Act} {Q : Exit → Act → World → Prop} (hgd : o.guard = none) (s x : Operand) (t : TypeId)
    (ho : o.op = .call { callee := .builtin .append, args := #[s, x], argTypes := #[t, t] })
    (base : Nat) (e : TypeId) (i : TypeInfo) (z : Value) (bytes : Nat) (ht : P.underlying t = some (.slice e)) (hi : P.info? e = some i) (hz : i.zero = some z)
    (hsize : i.size = 1) (hby : i.bytes = bytes) (hzs : z.cells.size = 1)
    (v : Value) (n : Nat) (xs : List Value) (hs : a.eval s = v) (hown : w.ownsRow base e 1 v n xs)
    (base' : Nat) (v1 : Value) (m : Nat) (news : List Value) (hx : a.eval x = v1) (hown1 : w.ownsRow base' e 1 v1 m news) (h1 : ∀ u ∈ news, u.oneCell' = true)
    (h63 : n + m ≤ maxLen) (hbytes : (n + m) * bytes ≤ 140737488355328) (hbase : base ≤ w.heap.size)
    (h : ∀ v' w', w'.ownsRow base e 1 v' (n + m) (xs ++ news) → w.grownBy w' v.ownBlock → wpList P ops Q rest (a.put o.dst v') w') :
    wpList P ops Q (o :: rest) a w := by
  rcases hown1.2 with ⟨rfl, rfl⟩ | ⟨g, cap, cur, rfl, hbg, hg, hnc, hcm, hcs, htake⟩
  · have hn : news = [] := List.eq_nil_of_length_eq_zero (by simpa using hown1.1)
    subst hn
    refine wpList_plain hgd fun K hK => ?_
    have hr := run_append_none (P := P) w base t o.type e i 1 ht hi hsize v n xs hown
    unfold Oper.wp execOp
    simp only [ho, resolve, invoke, builtin, Sem.run_bind, Sem.run_pure, Result.andThen_ok, List.map_toArray, List.map_cons, List.map_nil, hs, hx, hr]
    exact hK _ _ (h v w (by simpa using hown) ⟨rfl, rfl, rfl, Nat.le_refl _, fun _ _ _ => rfl⟩)
  · exact wpList_append_own_at w hgd s x t ho base e i z 1 bytes ht hi hz hsize hby hzs (by decide) v n xs hs hown ⟨g, 0, none⟩ m cap news hx hown1.1 (hown1.cells (g := g) rfl) h1 h63 hbytes hbase fun v' w' h1 h2 _ _ => h v' w' h1 h2
end
end Go.Proofs.Qxb6618677a
