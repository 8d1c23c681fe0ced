/-
  THE PLAIN SIDE of the tree laws: tokens, their chain, the parse, the walk; no Go in sight.
-/
import Init
namespace Go.Proofs.Qxb6618677a
namespace Stif

def U64 : Nat := 18446744073709551616
def byte (T : ByteArray) (k : Nat) : UInt8 := if h : k < T.size then T[k] else 0
def acc (x : Nat) (b : UInt8) (s : Nat) : Nat := x ||| ((b.toNat % 128) * 2 ^ s % U64)
/-- A uvarint of at most f bytes from i on: its number and where the next one starts. -/
def dec (T : ByteArray) : Nat → Nat → Nat → Nat → Option (Nat × Nat)
  | 0, _, _, _ => none
  | f + 1, i, x, s => if i < T.size then (if (byte T i).toNat < 128 then some (acc x (byte T i) s, i + 1) else dec T f (i + 1) (acc x (byte T i) s) (s + 7)) else none

theorem byte_eq {T : ByteArray} {k : Nat} (h : k < T.size) : byte T k = T[k] := by simp [byte, h]
theorem acc_lt (x : Nat) (b : UInt8) (s : Nat) (h : x < U64) : acc x b s < U64 := by
  unfold acc
  have h2 : (b.toNat % 128) * 2 ^ s % U64 < U64 := Nat.mod_lt _ (by decide)
  exact Nat.or_lt_two_pow (n := 64) h h2
theorem dec_some (T : ByteArray) : ∀ (f i x s y n : Nat), dec T f i x s = some (y, n) → x < U64 → i < n ∧ n ≤ T.size ∧ y < U64
  | 0, _, _, _, _, _, h, _ => by simp [dec] at h
  | f + 1, i, x, s, y, n, h, hx => by
    unfold dec at h
    by_cases h1 : i < T.size
    · rw [if_pos h1] at h
      by_cases h2 : (byte T i).toNat < 128
      · rw [if_pos h2] at h
        simp only [Option.some.injEq, Prod.mk.injEq] at h
        obtain ⟨rfl, rfl⟩ := h
        exact ⟨by omega, by omega, acc_lt _ _ _ hx⟩
      · rw [if_neg h2] at h
        have := dec_some T f _ _ _ _ _ h (acc_lt _ _ _ hx)
        exact ⟨by omega, this.2.1, this.2.2⟩
    · rw [if_neg h1] at h
      cases h

/-- A token: its kind (0 a pair, 1 a value, 2 a nesting, 3 an end), its text's length, where it and the one behind it start, where its text starts. -/
structure Tok where
  kind : Nat
  n : Nat
  tok : Nat
  next : Nat
  txt : Nat

def tokAt (T : ByteArray) (i x : Nat) : Option Tok := (dec T 9 i 0 0).map fun p => ⟨p.1 % 4, p.1 / 4, i, p.2, x⟩
/-- The tokens of the list stand one behind the other from (i, x) to (i', x'). -/
def chain (T : ByteArray) (N : Nat) : Nat → Nat → List Tok → Nat → Nat → Prop
  | i, x, [], i', x' => i = i' ∧ x = x'
  | i, x, t :: r, i', x' => tokAt T i x = some t ∧ x + t.n ≤ N ∧ chain T N t.next (x + t.n) r i' x'

theorem tokAt_some {T : ByteArray} {i x : Nat} {t : Tok} (h : tokAt T i x = some t) : t.kind ≤ 3 ∧ t.tok = i ∧ t.txt = x ∧ i < t.next ∧ t.next ≤ T.size ∧ ∃ y, y < U64 ∧ dec T 9 i 0 0 = some (y, t.next) ∧ t.kind = y % 4 ∧ t.n = y / 4 := by
  unfold tokAt at h
  cases hd : dec T 9 i 0 0 with
  | none => rw [hd] at h; cases h
  | some p =>
    obtain ⟨y, n⟩ := p
    rw [hd] at h
    simp only [Option.map_some, Option.some.injEq] at h
    subst h
    have := dec_some T 9 i 0 0 y n hd (by decide)
    exact ⟨by show y % 4 ≤ 3; omega, rfl, rfl, this.1, this.2.1, y, this.2.2, rfl, rfl, rfl⟩
theorem tokAt_mk {T : ByteArray} {i x y n : Nat} (h : dec T 9 i 0 0 = some (y, n)) : tokAt T i x = some ⟨y % 4, y / 4, i, n, x⟩ := by simp [tokAt, h]

theorem chain_snoc {T : ByteArray} {N : Nat} : ∀ {L : List Tok} {i x i' x' : Nat} {t : Tok}, chain T N i x L i' x' → tokAt T i' x' = some t → x' + t.n ≤ N → chain T N i x (L ++ [t]) t.next (x' + t.n)
  | [], _, _, _, _, _, h, ht, hn => by
    obtain ⟨rfl, rfl⟩ := h
    exact ⟨ht, hn, rfl, rfl⟩
  | _ :: _, _, _, _, _, _, h, ht, hn => ⟨h.1, h.2.1, chain_snoc h.2.2 ht hn⟩
theorem chain_append {T : ByteArray} {N : Nat} : ∀ {A B : List Tok} {i x i' x' : Nat}, chain T N i x (A ++ B) i' x' → ∃ j y, chain T N i x A j y ∧ chain T N j y B i' x'
  | [], _, i, x, _, _, h => ⟨i, x, ⟨rfl, rfl⟩, h⟩
  | _ :: _, _, _, _, _, _, h => by
    obtain ⟨j, y, h1, h2⟩ := chain_append h.2.2
    exact ⟨j, y, ⟨h.1, h.2.1, h1⟩, h2⟩
theorem chain_le {T : ByteArray} {N : Nat} : ∀ {L : List Tok} {i x i' x' : Nat}, chain T N i x L i' x' → i + L.length ≤ i' ∧ x ≤ x' ∧ (L ≠ [] → i < i' ∧ i' ≤ T.size ∧ x' ≤ N)
  | [], _, _, _, _, h => by
    obtain ⟨rfl, rfl⟩ := h
    exact ⟨by simp, Nat.le_refl _, fun h => absurd rfl h⟩
  | t :: r, i, x, i', x', h => by
    have h1 := tokAt_some h.1
    have h2 := chain_le h.2.2
    refine ⟨by simp; omega, by omega, fun _ => ?_⟩
    cases r with
    | nil =>
      obtain ⟨rfl, rfl⟩ := h.2.2
      exact ⟨by omega, by omega, h.2.1⟩
    | cons a b =>
      have := h2.2.2 (by simp)
      exact ⟨by omega, this.2.1, this.2.2⟩

/-- One node, as the law's own parser lays it. -/
structure Node where
  kind : Nat
  tok : Nat
  next : Nat
  txt : Nat
  n : Nat
  depth : Nat
  parent : Int
  values : Nat
def parentOf : List Nat → Int
  | [] => -1
  | p :: _ => p
def mkNode (t : Tok) (op : List Nat) (v : Nat) : Node := ⟨t.kind, t.tok, t.next, t.txt, t.n, op.length, parentOf op, v⟩
/-- The parser's state: the nodes so far, the open nestings (the innermost first), the last pair (-1: none). -/
structure St where
  nodes : List Node
  op : List Nat
  last : Int
def bump (ns : List Node) (l m : Nat) : List Node := ns.modify l fun nd => { nd with values := nd.values + m }
def step (st : St) (t : Tok) : Option St :=
  if t.kind = 0 then some ⟨st.nodes ++ [mkNode t st.op 0], st.op, st.nodes.length⟩
  else if t.kind = 1 then (if st.last < 0 then none else some ⟨bump st.nodes st.last.toNat 1 ++ [mkNode t st.op 0], st.op, st.last⟩)
  else if t.kind = 2 then some ⟨st.nodes ++ [mkNode t st.op 0], st.nodes.length :: st.op, -1⟩
  else if t.n ≠ 0 ∨ st.op = [] then none else some ⟨st.nodes, st.op.tail, -1⟩
def run : St → List Tok → Option St
  | st, [] => some st
  | st, t :: r => (step st t).bind fun s => run s r
def init : St := ⟨[], [], -1⟩

theorem run_snoc : ∀ {L : List Tok} {st s s' : St} {t : Tok}, run st L = some s → step s t = some s' → run st (L ++ [t]) = some s'
  | [], st, s, s', t, h, hs => by
    simp only [run, Option.some.injEq] at h
    subst h
    simp [run, hs]
  | a :: L, st, s, s', t, h, hs => by
    simp only [run] at h
    cases h1 : step st a with
    | none => rw [h1] at h; cases h
    | some s1 =>
      rw [h1] at h
      simp only [Option.bind_some] at h
      simp only [List.cons_append, run, h1, Option.bind_some]
      exact run_snoc h hs

theorem bump_length (ns : List Node) (l m : Nat) : (bump ns l m).length = ns.length := by simp [bump]

structure Good (st : St) : Prop where
  lo : -1 ≤ st.last
  hi : st.last < st.nodes.length
  op : ∀ p ∈ st.op, p < st.nodes.length
  opl : st.op.length ≤ st.nodes.length
  vals : ∀ nd ∈ st.nodes, nd.values ≤ st.nodes.length

theorem mem_bump {ns : List Node} {l m : Nat} {nd : Node} (h : nd ∈ bump ns l m) : ∃ nd' ∈ ns, nd.values ≤ nd'.values + m := by
  unfold bump at h
  obtain ⟨k, hk⟩ := List.getElem?_of_mem h
  rw [List.getElem?_modify] at hk
  cases e : ns[k]? with
  | none => rw [e] at hk; simp at hk
  | some a =>
    rw [e] at hk
    refine ⟨a, List.mem_of_getElem? e, ?_⟩
    simp only [Option.map_eq_map, Option.map_some, Option.some.injEq] at hk
    split at hk <;> (subst hk; simp)

theorem step_good {st s : St} {t : Tok} (g : Good st) (h : step st t = some s) : Good s ∧ s.nodes.length ≤ st.nodes.length + 1 := by
  have hv : ∀ nd ∈ st.nodes ++ [mkNode t st.op 0], nd.values ≤ (st.nodes ++ [mkNode t st.op 0]).length := fun nd hnd => by
    rcases List.mem_append.1 hnd with h | h
    · have := g.vals nd h; simp; omega
    · simp only [List.mem_singleton] at h; subst h; simp [mkNode]
  unfold step at h
  split at h
  · cases h
    exact ⟨⟨by show (-1 : Int) ≤ (st.nodes.length : Int); omega, by simp; omega, fun p hp => by have := g.op p hp; simp; omega, by have := g.opl; simp; omega, hv⟩, by simp⟩
  · split at h
    · split at h
      · cases h
      · cases h
        refine ⟨⟨g.lo, by have := g.hi; simp [bump_length]; omega, fun p hp => by have := g.op p hp; simp [bump_length]; omega, by have := g.opl; simp [bump_length]; omega, fun nd hnd => ?_⟩, by simp [bump_length]⟩
        simp only [List.length_append, bump_length, List.length_singleton]
        rcases List.mem_append.1 hnd with h | h
        · obtain ⟨nd', h1, h2⟩ := mem_bump h
          have := g.vals nd' h1
          omega
        · simp only [List.mem_singleton] at h; subst h; simp [mkNode]
    · split at h
      · cases h
        refine ⟨⟨by simp, by simp; omega, fun p hp => ?_, by have := g.opl; simp; omega, hv⟩, by simp⟩
        rcases List.mem_cons.1 hp with rfl | hp
        · simp
        · have := g.op p hp; simp; omega
      · split at h
        · cases h
        · cases h
          exact ⟨⟨by simp, by simp; omega, fun p hp => g.op p (List.mem_of_mem_tail hp), by have := g.opl; simp; omega, g.vals⟩, by simp⟩
theorem run_good : ∀ {L : List Tok} {st s : St}, Good st → run st L = some s → Good s ∧ s.nodes.length ≤ st.nodes.length + L.length
  | [], st, s, g, h => by
    simp only [run, Option.some.injEq] at h
    subst h
    exact ⟨g, by simp⟩
  | a :: L, st, s, g, h => by
    simp only [run] at h
    cases h1 : step st a with
    | none => rw [h1] at h; cases h
    | some s1 =>
      rw [h1] at h
      have g1 := step_good g h1
      have g2 := run_good g1.1 h
      exact ⟨g2.1, by simp; omega⟩
theorem init_good : Good init := ⟨by decide, by decide, by simp [init], by decide, by simp [init]⟩

/-! ### What the walk yields -/

/-- What stands behind the end that closes the k-th nesting open here. -/
def skipTo : Nat → List Tok → List Tok
  | 0, ts => ts
  | _ + 1, [] => []
  | k + 1, t :: r => if t.kind = 2 then skipTo (k + 2) r else if t.kind = 3 then skipTo k r else skipTo (k + 1) r
/-- The fields that a walk yields, each with its depth: it goes into a nesting where 'into' says so, else passes over it (k: the nestings that it is passing over). -/
def flds (into : Nat → Tok → Bool) : Nat → Nat → List Tok → List (Nat × Tok)
  | _, _, [] => []
  | d, 0, t :: r => if t.kind = 3 then (if d = 0 then [] else flds into (d - 1) 0 r) else if t.kind = 0 then (d, t) :: flds into d 0 r
      else if t.kind = 2 then (d, t) :: (if into d t then flds into (d + 1) 0 r else flds into d 1 r) else flds into d 0 r
  | d, k + 1, t :: r => if t.kind = 2 then flds into d (k + 2) r else if t.kind = 3 then flds into d k r else flds into d (k + 1) r
/-- k nestings are open ahead of the list, none behind it. -/
def bal : Nat → List Tok → Prop
  | k, [] => k = 0
  | k, t :: r => if t.kind = 2 then bal (k + 1) r else if t.kind = 3 then 0 < k ∧ bal (k - 1) r else bal k r

theorem chain_kind {T : ByteArray} {N : Nat} : ∀ {L : List Tok} {i x i' x' : Nat}, chain T N i x L i' x' → ∀ t ∈ L, t.kind ≤ 3
  | [], _, _, _, _, _, t, ht => by simp at ht
  | a :: L, _, _, _, _, h, t, ht => by
    rcases List.mem_cons.1 ht with rfl | ht
    · exact (tokAt_some h.1).1
    · exact chain_kind h.2.2 t ht

theorem flds_skip (into : Nat → Tok → Bool) (d : Nat) : ∀ (ts : List Tok) (k : Nat), flds into d k ts = flds into d 0 (skipTo k ts)
  | [], 0 => by simp [skipTo]
  | [], k + 1 => by simp [skipTo, flds]
  | t :: r, 0 => by simp [skipTo]
  | t :: r, k + 1 => by
    simp only [skipTo, flds]
    split
    · exact flds_skip into d r (k + 2)
    · split
      · exact flds_skip into d r k
      · exact flds_skip into d r (k + 1)

theorem run_bal : ∀ {L : List Tok} {st s : St}, (∀ t ∈ L, t.kind ≤ 3) → run st L = some s → s.op = [] → bal st.op.length L ∧ ∀ t ∈ L, t.kind = 3 → t.n = 0
  | [], st, s, _, h, ho => by
    simp only [run, Option.some.injEq] at h
    subst h
    exact ⟨by simp [bal, ho], by simp⟩
  | a :: L, st, s, hk3, h, ho => by
    simp only [run] at h
    cases h1 : step st a with
    | none => rw [h1] at h; cases h
    | some s1 =>
      rw [h1] at h
      obtain ⟨hb, hz⟩ := run_bal (fun t ht => hk3 t (List.mem_cons_of_mem _ ht)) h ho
      unfold step at h1
      by_cases k0 : a.kind = 0
      · rw [if_pos k0] at h1
        cases h1
        refine ⟨by simpa [bal, k0] using hb, fun t ht hk => ?_⟩
        rcases List.mem_cons.1 ht with rfl | ht
        · omega
        · exact hz t ht hk
      · rw [if_neg k0] at h1
        by_cases k1 : a.kind = 1
        · rw [if_pos k1] at h1
          split at h1
          · cases h1
          · cases h1
            refine ⟨by simpa [bal, k1] using hb, fun t ht hk => ?_⟩
            rcases List.mem_cons.1 ht with rfl | ht
            · omega
            · exact hz t ht hk
        · rw [if_neg k1] at h1
          by_cases k2 : a.kind = 2
          · rw [if_pos k2] at h1
            cases h1
            refine ⟨by simpa [bal, k2] using hb, fun t ht hk => ?_⟩
            rcases List.mem_cons.1 ht with rfl | ht
            · omega
            · exact hz t ht hk
          · rw [if_neg k2] at h1
            split at h1
            · cases h1
            · rename_i hc
              cases h1
              simp only [not_or, Decidable.not_not] at hc
              obtain ⟨hn, hop⟩ := hc
              cases hst : st.op with
              | nil => exact absurd hst hop
              | cons p r =>
                rw [hst] at hb
                refine ⟨?_, fun t ht hk => ?_⟩
                · unfold bal
                  rw [if_neg k2]
                  by_cases k3 : a.kind = 3
                  · rw [if_pos k3]
                    exact ⟨by simp, by simpa using hb⟩
                  · have := hk3 a List.mem_cons_self
                    omega
                · rcases List.mem_cons.1 ht with rfl | ht
                  · exact hn
                  · exact hz t ht hk

end Stif
end Go.Proofs.Qxb6618677a
