/-
  The run that a start opens: from the parser's nodes and zzStart's word to the tokens that the walk goes over; zzRunEnd and zzBaseDepth at it.
-/
import Derived.Test.Qxb6618677aSt
import Derived.Test.Qxb6618677aStif3
namespace Go.Proofs.Qxb6618677a
open Go.RowKit

/-- The nodes ns, a start b (an index or -1): the run's nodes R stand from s on; bd is the depth of its own fields. -/
structure RunIs (ns : List Stif.Node) (b : Int) (s bd : Nat) (R : List Stif.Node) : Prop where
  eq : (ns.drop s).takeWhile (fun d => decide (bd ≤ d.depth)) = R
  pos : (b = -1 ∧ s = 0 ∧ bd = 0 ∧ R = ns) ∨ ∃ (i : Nat) (d : Stif.Node), b = i ∧ s = i + 1 ∧ ns[i]? = some d ∧ bd = d.depth + 1

theorem RunIs.get {ns : List Stif.Node} {b : Int} {s bd : Nat} {R : List Stif.Node} (h : RunIs ns b s bd R) {j : Nat} {d : Stif.Node} (hd : R[j]? = some d) : ns[s + j]? = some d := by
  have h1 := h.eq
  have h2 : R <+: ns.drop s := by rw [← h1]; exact List.takeWhile_prefix _
  have hj := (List.getElem?_eq_some_iff.1 hd).1
  obtain ⟨t, ht⟩ := h2
  rw [← List.getElem?_drop, ← ht, List.getElem?_append_left hj]
  exact hd
theorem RunIs.le {ns : List Stif.Node} {b : Int} {s bd : Nat} {R : List Stif.Node} (h : RunIs ns b s bd R) : s + R.length ≤ ns.length ∧ b = (s : Int) - 1 := by
  have h2 : R <+: ns.drop s := by rw [← h.eq]; exact List.takeWhile_prefix _
  have h3 := h2.length_le
  simp at h3
  rcases h.pos with ⟨h4, h5, _, h6⟩ | ⟨i, d, h4, h5, h6, _⟩
  · subst h5 h6; exact ⟨by omega, by omega⟩
  · have := (List.getElem?_eq_some_iff.1 h6).1
    exact ⟨by omega, by omega⟩

theorem takeWhile_self {α : Type} {p : α → Bool} (h : ∀ a, p a = true) : ∀ {l : List α}, l.takeWhile p = l
  | [] => rfl
  | a :: l => by rw [List.takeWhile_cons, if_pos (h a), takeWhile_self h]

theorem run_front {T X : ByteArray} {L : List Stif.Tok} {st : Stif.St} {tok txt b : Int} (hch : Stif.chain T X.size 0 0 L T.size X.size) (hrun : Stif.run Stif.init L = some st) (hop : st.op = [])
    (hs : (tok = 0 ∧ txt = 0 ∧ b = -1) ∨ ∃ (i : Nat) (d : Stif.Node), st.nodes[i]? = some d ∧ d.kind = 2 ∧ (d.next : Int) = tok ∧ (d.txt : Int) + d.n = txt ∧ b = i) :
    ∃ (ts : List Stif.Tok) (i0 x0 s bd : Nat) (R : List Stif.Node), tok = i0 ∧ txt = x0 ∧ Stif.chain T X.size i0 x0 ts T.size X.size ∧ Stif.bal bd ts ∧ RunIs st.nodes b s bd R ∧ R.length = (Stif.runN 0 ts).length ∧ (∀ (i : Nat) nd p, R[i]? = some nd → (Stif.runN 0 ts)[i]? = some p → Stif.Meets bd nd p) ∧ (∀ t ∈ ts, t ∈ L) := by
  have hk3 := Stif.chain_kind hch
  have hn := Stif.nodes_of_run hk3 hrun
  have hb := (Stif.run_bal hk3 hrun hop).1
  rcases hs with ⟨rfl, rfl, rfl⟩ | ⟨i, d, hd, hk2, rfl, rfl, rfl⟩
  · obtain ⟨N, h1, h2, h3⟩ := Stif.run_meets L [] 0 0 0 rfl hb
    have h4 : (Stif.nodesOf [] 0 L).takeWhile (fun d => decide (0 ≤ d.depth)) = Stif.nodesOf [] 0 L := takeWhile_self (fun _ => by simp)
    exact ⟨L, 0, 0, 0, 0, N, rfl, rfl, hch, hb, ⟨by rw [hn]; exact h1, .inl ⟨rfl, rfl, rfl, by rw [hn, ← h1, h4]⟩⟩, h2, h3, fun _ h => h⟩
  · rw [hn] at hd
    obtain ⟨A, t, B, o, hL, _, hdt, hdrop, hbal⟩ := Stif.node_split hd
    have e2 : t.kind = 2 := by rw [hdt] at hk2; exact hk2
    have hb2 := hbal hb
    rw [Stif.bal, if_pos e2] at hb2
    rw [if_pos e2] at hdrop
    obtain ⟨N, h1, h2, h3⟩ := Stif.run_meets B ((0 + i) :: o) (0 + i + 1) 0 (o.length + 1) (by simp) (by simpa using hb2)
    have hc2 : ∃ j y, Stif.chain T X.size 0 0 A j y ∧ Stif.chain T X.size j y (t :: B) T.size X.size := Stif.chain_append (by rw [← hL]; exact hch)
    obtain ⟨j, y, _, hc3⟩ := hc2
    have ht := Stif.tokAt_some hc3.1
    refine ⟨B, t.next, t.txt + t.n, i + 1, o.length + 1, N, by rw [hdt]; rfl, by rw [hdt]; simp [Stif.mkNode], ?_, hb2, ⟨?_, .inr ⟨i, d, rfl, rfl, by rw [hn]; exact hd, by rw [hdt]; rfl⟩⟩, h2, h3, fun u hu => by rw [hL]; simp [hu]⟩
    · rw [ht.2.2.1]; exact hc3.2.2
    · rw [hn, hdrop]; exact h1

/-- zzRunEnd at a run. -/
theorem runEnd_run (v : Value) (ns R : List Stif.Node) (base s bd : Nat) (b : Int) (w : World) (hn : w.ownsRow base 44 8 v ns.length (rowOf ns)) (hlen : ns.length ≤ 1048576) (h : RunIs ns b s bd R) :
    Calls Try.prog 17 #[v, .int .i64 b] w fun e w' => e = .returned (.int .i64 ((s + R.length : Nat) : Int)) ∧ Below w.heap.size w w' := by
  rcases h.pos with ⟨rfl, rfl, rfl, rfl⟩ | ⟨i, d, rfl, rfl, hd, rfl⟩
  · refine (runEnd_top v R base w hn).mono ?_
    rintro e w' ⟨rfl, rfl⟩
    exact ⟨by simp, Below.refl _ _⟩
  · refine (runEnd_at v ns base i d w hn hlen hd).mono ?_
    rintro e w' ⟨rfl, hb⟩
    refine ⟨?_, hb⟩
    rw [show runEnd ns i d.depth = i + 1 + R.length by rw [← h.eq]; rfl]
theorem baseDepth_run (v : Value) (ns R : List Stif.Node) (base s bd : Nat) (b : Int) (w : World) (hn : w.ownsRow base 44 8 v ns.length (rowOf ns)) (hlen : ns.length ≤ 1048576) (h : RunIs ns b s bd R) (hd : ∀ d ∈ ns, d.depth ≤ 1048576) :
    Calls Try.prog 18 #[v, .int .i64 b] w fun e w' => e = .returned (.int .i64 (bd : Int)) ∧ w' = w := by
  rcases h.pos with ⟨rfl, rfl, rfl, rfl⟩ | ⟨i, d, rfl, rfl, hd', rfl⟩
  · exact baseDepth_top v w
  · exact baseDepth_at v ns base i d w hn hlen hd' (hd d (List.mem_of_getElem? hd'))

theorem filter_len {bd : Nat} : ∀ {R : List Stif.Node} {P : List (Nat × Stif.Tok)}, R.length = P.length → (∀ (i : Nat) nd p, R[i]? = some nd → P[i]? = some p → Stif.Meets bd nd p) → (R.filter fun d => !(d.kind == 1)).length = (P.filter Stif.isField).length
  | [], [], _, _ => rfl
  | [], _ :: _, h, _ => by simp at h
  | _ :: _, [], h, _ => by simp at h
  | d :: R, p :: P, h, hm => by
    have h0 := (hm 0 d p (by simp) (by simp)).kind
    have ih := filter_len (R := R) (P := P) (by simpa using h) (fun i nd q hi hq => hm (i + 1) nd q (by simpa using hi) (by simpa using hq))
    have e : (!(d.kind == 1)) = Stif.isField p := by rw [h0]; rfl
    rw [List.filter_cons, List.filter_cons, e]
    cases Stif.isField p <;> simp [ih]

end Go.Proofs.Qxb6618677a
