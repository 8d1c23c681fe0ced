/-
  Iterators that range over iterators: a contract (SeqT) whose caller's word abides what such an iterator turns of its own: loop records, and boxes of the types Z that it lays; and the law of a loop over it.
-/
import Derived.RangeFuncNested
import Derived.RangeFuncBound
import Derived.RangeFuncCalls
import Derived.RangeFuncLeaves
import Derived.Test.Qxb6618677aWk
namespace Go.Proofs.Qxb6618677a
open Go.RowKit

/-- From A to A' nothing has turned but blocks from B on that are no cells, or cells of a type of Z. -/
structure Turn (B : Nat) (Z : TypeId → Prop) (A A' : World) : Prop where
  os : A'.os = A.os
  tape : A'.tape = A.tape
  output : A'.output = A.output
  size : A.heap.size ≤ A'.heap.size
  low : ∀ k, k < B → k < A.heap.size → A'.heap[k]? = A.heap[k]?
  high : ∀ (k : Nat) (c : Array Value) (t : TypeId) (f : Nat × Nat), A.heap[k]? = some (.cells c t f) → ¬ Z t → A'.heap[k]? = A.heap[k]?
/-- A word on lists and worlds that abides such turns. -/
def AbT {β : Type} (B : Nat) (Z : TypeId → Prop) (J : β → World → Prop) : Prop := ∀ s A A', J s A → Turn B Z A A' → J s A'

theorem Turn.refl (B : Nat) (Z : TypeId → Prop) (A : World) : Turn B Z A A := ⟨rfl, rfl, rfl, Nat.le_refl _, fun _ _ _ => rfl, fun _ _ _ _ _ _ => rfl⟩
theorem Turn.trans {B : Nat} {Z : TypeId → Prop} {A A' A'' : World} (h : Turn B Z A A') (k : Turn B Z A' A'') : Turn B Z A A'' :=
  ⟨k.os.trans h.os, k.tape.trans h.tape, k.output.trans h.output, Nat.le_trans h.size k.size, fun i hi hs => (k.low i hi (Nat.lt_of_lt_of_le hs h.size)).trans (h.low i hi hs), fun i c t f hi hz => by
    have h1 := h.high i c t f hi hz
    exact (k.high i c t f (h1.trans hi) hz).trans h1⟩
theorem Turn.grown {B : Nat} {Z : TypeId → Prop} {A A' : World} {row : Option Nat} (hg : A.grownBy A' row) (hr : ∀ r, row = some r → B ≤ r ∧ ∃ o : Obj, A.heap[r]? = some o ∧ o.isCells = false) : Turn B Z A A' :=
  ⟨hg.os, hg.tape, hg.output, hg.size, fun k hk hs => hg.block k hs (fun e => by have := (hr k e.symm).1; omega), fun k c t f hk _ => hg.block k (Array.getElem?_eq_some_iff.1 hk).1 (fun e => by
    obtain ⟨_, o, ho, hc⟩ := hr k e.symm
    rw [hk] at ho; cases ho; cases hc)⟩
theorem Turn.mono {B B' : Nat} {Z : TypeId → Prop} {A A' : World} (h : Turn B' Z A A') (hB : B ≤ B') : Turn B Z A A' := ⟨h.os, h.tape, h.output, h.size, fun k hk hs => h.low k (by omega) hs, h.high⟩
theorem AbT.own {β : Type} {B B' : Nat} {Z : TypeId → Prop} {J : β → World → Prop} (h : AbT B Z J) (hB : B ≤ B') : OwnFrom B' J := fun s A A' row hs hg hr => h s A A' hs (Turn.grown hg (fun r e => ⟨by have := (hr r e).1; omega, (hr r e).2⟩))
theorem AbT.mono {β : Type} {B B' : Nat} {Z : TypeId → Prop} {J : β → World → Prop} (h : AbT B Z J) (hB : B ≤ B') : AbT B' Z J := fun s A A' hs ht => h s A A' hs (ht.mono hB)

def SeqT {α : Type} (B : Nat) (Z : TypeId → Prop) (n : Nat) (P : Program) (g : Nat) (lb : Array Value) (encs : α → Array Value) (Kp : World → World → Prop) (S Sp : List α → Prop) (N : Nat) (w : World) : Prop :=
  ∀ (l : Nat) (J Jx : List α → World → Prop) (W : World), Below w.heap.size w W → B ≤ W.heap.size → AbT W.heap.size Z J → AbT W.heap.size Z Jx →
    (∀ pre x W1, J pre W1 → pre.length < N → YieldAt Fence.wide (n - 1) P l (encs x) W1 fun e W' =>
      (e = .returned (.bool true) ∧ J (pre ++ [x]) W' ∧ Kp W1 W') ∨ (e = .returned (.bool false) ∧ Jx (pre ++ [x]) W' ∧ Kp W1 W')) →
    J [] W →
    CallsIn Fence.wide n P g (#[.func (.yield l) #[] #[]] ++ lb) W fun e W' => (∃ v, e = .returned v) ∧ ((∃ xs, S xs ∧ J xs W') ∨ (∃ pre, Sp pre ∧ Jx pre W'))

/-- At the wide fence a round's depth is nothing. -/
theorem yield_deep {m m' : Nat} {P : Program} {l : Nat} {args : Array Value} {W : World} {R : Ending → World → Prop} (h : YieldAt Fence.wide m P l args W R) : YieldAt Fence.wide m' P l args W R := by
  obtain ⟨fn, tmps, assign, body, hy, hR⟩ := h
  exact ⟨fn, tmps, assign, body, hy, hR.1, fun c cs _ => hR.2 c cs (fun d h => by cases h)⟩

/-- What a round of such a loop keeps for the iterator: the blocks of S; the boxes of the types of Y; and, from B on, the boxes of integers and whatever is no cells. -/
structure KeepB (B : Nat) (S Y : Nat → Prop) (W W' : World) : Prop where
  size : W.heap.size ≤ W'.heap.size
  s : ∀ k, S k → W'.heap[k]? = W.heap[k]?
  y : ∀ (k : Nat) (c : Array Value) (t : TypeId) (fr : Nat × Nat), Y t → W.heap[k]? = some (.cells c t fr) → W'.heap[k]? = some (.cells c t fr)
  i : ∀ (k : Nat) (c : Array Value) (fr : Nat × Nat), B ≤ k → W.heap[k]? = some (.cells c 3 fr) → W'.heap[k]? = some (.cells c 3 fr)
  o : ∀ (k : Nat) (ob : Obj), B ≤ k → W.heap[k]? = some ob → ob.isCells = false → W'.heap[k]? = some ob
theorem KeepB.refl (B : Nat) (S Y : Nat → Prop) (W : World) : KeepB B S Y W W := ⟨Nat.le_refl _, fun _ _ => rfl, fun _ _ _ _ _ h => h, fun _ _ _ _ h => h, fun _ _ _ h _ => h⟩
theorem KeepB.trans {B : Nat} {S Y : Nat → Prop} {A C D : World} (h : KeepB B S Y A C) (k : KeepB B S Y C D) : KeepB B S Y A D :=
  ⟨Nat.le_trans h.size k.size, fun i hi => (k.s i hi).trans (h.s i hi), fun i c t fr ht hc => k.y i c t fr ht (h.y i c t fr ht hc), fun i c fr hB hc => k.i i c fr hB (h.i i c fr hB hc), fun i ob hB hc ho => k.o i ob hB (h.o i ob hB hc ho) ho⟩
theorem KeepB.below {B : Nat} {S Y : Nat → Prop} {A C : World} (h : Below A.heap.size A C) (hS : ∀ k, S k → k < A.heap.size) : KeepB B S Y A C :=
  ⟨h.size, fun i hi => h.block i (hS i hi), fun i _ _ _ _ hc => (h.block i (Array.getElem?_eq_some_iff.1 hc).1).trans hc, fun i _ _ _ hc => (h.block i (Array.getElem?_eq_some_iff.1 hc).1).trans hc, fun i _ _ hc _ => (h.block i (Array.getElem?_eq_some_iff.1 hc).1).trans hc⟩
theorem KeepB.putObj {B : Nat} {S Y : Nat → Prop} {W : World} {l : Nat} {o : Obj} (o' : Obj) (hl : l < B) (hS : ¬ S l) (ho : W.heap[l]? = some o) (hc : o.isCells = false) : KeepB B S Y W (W.putObj l o') := by
  have h1 : ∀ (k : Nat) (ob : Obj), W.heap[k]? = some ob → k ≠ l → (W.putObj l o').heap[k]? = some ob := fun k ob h e => (World.putObj_heap_other e).trans h
  have h2 : ∀ (k : Nat) (c : Array Value) (t : TypeId) (fr : Nat × Nat), W.heap[k]? = some (.cells c t fr) → k ≠ l := fun k c t fr h e => by
    subst e; rw [ho] at h; cases h; cases hc
  exact ⟨by simp, fun k hk => World.putObj_heap_other (fun e => hS (e ▸ hk)), fun k c t fr _ h => h1 k _ h (h2 k c t fr h), fun k c fr _ h => h1 k _ h (h2 k c 3 fr h), fun k ob hB h _ => h1 k ob h (by omega)⟩
theorem KeepB.keep {B : Nat} {S Y : Nat → Prop} {W W' : World} (h : KeepB B S Y W W') : Keep S Y W W' := ⟨h.s, h.y⟩

/-- At the wide fence the depth is nothing. -/
theorem SeqT.deep {α : Type} {B : Nat} {Z : TypeId → Prop} {m : Nat} {P : Program} {g : Nat} {lb : Array Value} {encs : α → Array Value} {Kp : World → World → Prop} {S Sp : List α → Prop} {N : Nat} {w : World} (h : SeqT B Z m P g lb encs Kp S Sp N w) (m' : Nat) : SeqT B Z m' P g lb encs Kp S Sp N w :=
  fun l J Jx W hW hB hJ hJx hY h0 => callsIn_wide.2 (callsIn_wide.1 (h l J Jx W hW hB hJ hJx (fun pre x W1 hj hl => yield_deep (hY pre x W1 hj hl)) h0))

variable {n : Nat} {P : Program}

/-- How a round of such a loop may end: what the iterator wants kept is kept in every case. -/
def postT {α : Type} (B : Nat) (Kp : World → World → Prop) (I : List α → World → Prop) (Ix : Code → List α → World → Prop) (xs : List α) (W : World) : Exit → Act → World → Prop
  | .normal, _, W' => KeepsFrom B W W' ∧ Kp W W' ∧ I xs W'
  | .ret, _, W' => KeepsFrom B W W' ∧ Kp W W' ∧ Ix .ret xs W'
  | .exit id, _, W' => KeepsFrom B W W' ∧ Kp W W' ∧ Ix (.exit id) xs W'
  | .goto t, _, W' => KeepsFrom B W W' ∧ Kp W W' ∧ Ix (.goto t) xs W'
  | .panic _, _, _ => False
  | .outgrown, _, _ => False

/-- **A LOOP OVER SUCH AN ITERATOR.** -/
theorem over_T {α : Type} {Z : TypeId → Prop} {g : Operand} {ps : Array Tmp} {assign body : Code} {Q : Exit → Act → World → Prop} {a : Act} {w : World} {gf : Nat} {lb : Array Value} (hg : a.eval g = .func (.func gf) #[] lb)
    (eg : ∀ args w, (callFunc gf args).run P w = .ok (.enter gf args) w) {encs : α → Array Value} {Kp : World → World → Prop} {S Sp : List α → Prop} {N : Nat} {w0 : World} (hseq : SeqT (w.heap.size + 2) Z (n - 1) P gf lb encs Kp S Sp N w0)
    (hKt : ∀ {A B C : World}, Kp A B → Kp B C → Kp A C) (hKb : ∀ (W : World) (o o' : Obj), W.heap[w.heap.size + 1]? = some o → o.isCells = false → Kp W (W.putObj (w.heap.size + 1) o'))
    (hb0 : Below w0.heap.size w0 w) (hps : ∀ x, (encs x).size = ps.size) (I : List α → World → Prop) (Ix : Code → List α → World → Prop) (hI : AbT w.heap.size Z I) (hIx : ∀ c, AbT w.heap.size Z (Ix c)) (h0 : I [] w) (Ax : α → Act → World → Prop) (hAx : ∀ x a', OwnFrom w.heap.size (fun (_ : Unit) W => Ax x a' W))
    (hassign : ∀ (l : Nat) (pre : List α) (x : α) (W : World) (K : Act → World → Prop), I pre W → (∀ a' W', KeepsFrom w.heap.size W W' → Kp W W' → I pre W' → Ax x a' W' → K a' W') →
      assign.wpIn (Fence.wide.inRound l) (n - 1 - 1) P (Exit.then K (fun _ _ _ => False)) { tmps := (ps.zip (encs x)).foldl (fun t (p, v) => t.setIfInBounds p v) a.tmps, defers := [] } W)
    (hbody : ∀ (l : Nat) (pre : List α) (x : α) (a' : Act) (W : World), w.heap.size ≤ l → (∃ r, W.heap[l]? = some (.loop r)) → I pre W → Ax x a' W → pre.length < N → body.wpIn (Fence.wide.inRound l) (n - 1 - 1) P (postT w.heap.size Kp I Ix (pre ++ [x]) W) a' W)
    (hdone : ∀ (D : Nat) (xs : List α) (W : World), w.heap.size ≤ D → S xs → I xs W → W.heap[D]? = some (.deferred (some [])) → Q .normal { a with defers := { target := .collected D, args := #[] } :: a.defers } W)
    (hstop : ∀ (D : Nat) (c : Code) (pre : List α) (W : World), w.heap.size ≤ D → Sp pre → Ix c pre W → W.heap[D]? = some (.deferred (some [])) → c.wpIn Fence.wide n P Q { a with defers := { target := .collected D, args := #[] } :: a.defers } W) :
    (Code.rangeFunc g ps assign body).wpIn Fence.wide n P Q a w := by
  have oI : OwnFrom w.heap.size I := hI.own (Nat.le_refl _)
  have oIx : ∀ c, OwnFrom w.heap.size (Ix c) := fun c => (hIx c).own (Nat.le_refl _)
  refine wpIn_rangeFunc (fun fn _ => ?_)
  -- the record, by its state and its pending jump; where it lies
  obtain ⟨R, hR⟩ : ∃ R : LoopState → Option Code → Loop, R = fun st pe => { state := st, pending := pe, fn, tmps := a.tmps, params := ps, assign, body, defers := w.heap.size } := ⟨_, rfl⟩
  obtain ⟨l, hl⟩ : ∃ l, l = w.heap.size + 1 := ⟨_, rfl⟩
  have hDl : w.heap.size ≠ l := by omega
  have hwl : w.heap.size ≤ l := by omega
  obtain ⟨W1, hW1⟩ : ∃ W1, W1 = (w.alloc (.deferred (some []))).alloc (.loop (R .ready none)) := ⟨_, rfl⟩
  have s1 : W1.heap.size = w.heap.size + 2 := by rw [hW1]; simp
  have k1 : W1.heap[w.heap.size]? = some (.deferred (some [])) := by rw [hW1, Below.heap_alloc _ _ _ (by simp)]; exact World.alloc_heap_new w _
  have r1 : W1.heap[l]? = some (.loop (R .ready none)) := by
    have := World.alloc_heap_new (w.alloc (.deferred (some []))) (.loop (R .ready none))
    rw [World.size_alloc] at this
    rw [hW1, hl]; exact this
  have i1 : I [] W1 := by rw [hW1]; exact oI.alloc _ (oI.alloc _ h0)
  have b1 : Below w0.heap.size w0 W1 := by rw [hW1]; exact hb0.trans ((((Below.refl _ w).alloc (Nat.le_refl _) _).alloc (by simp) _).mono hb0.size)
  refine ⟨l, [{ target := .collected w.heap.size, args := #[] }], W1, { target := .fn (.func gf) lb, args := #[.func (.yield l) #[] #[]] }, W1, gf, #[.func (.yield l) #[] #[]] ++ lb, W1, ?_, ?_, fun _ _ => trivial, ?_, (fun h => by cases h), ?_⟩
  · rw [hW1, hR, hl]; exact run_enterLoop_outer _ _ _ _ _
  · simp only [resolve, hg]; simp [go_sem]
  · simp [invoke, go_sem, eg]
  -- what lies in the two blocks, beside the caller's word
  have keep : ∀ {A A' : World}, Turn W1.heap.size Z A A' → ∀ k o, k < W1.heap.size → A.heap[k]? = some o → A'.heap[k]? = some o := fun ht k o hk ho => (ht.low k hk (Array.getElem?_eq_some_iff.1 ho).1).trans ho
  refine (hseq l (fun pre W => I pre W ∧ W.heap[l]? = some (.loop (R .ready none)) ∧ W.heap[w.heap.size]? = some (.deferred (some [])))
    (fun pre W => ∃ c, Ix c pre W ∧ W.heap[l]? = some (.loop (R .done (some c))) ∧ W.heap[w.heap.size]? = some (.deferred (some []))) W1 b1 (by omega)
    (fun s A A' hs ht => ⟨hI s A A' hs.1 (ht.mono (by omega)), keep ht _ _ (by omega) hs.2.1, keep ht _ _ (by omega) hs.2.2⟩)
    (fun s A A' ⟨c, h1, h2, h3⟩ ht => ⟨c, hIx c s A A' h1 (ht.mono (by omega)), keep ht _ _ (by omega) h2, keep ht _ _ (by omega) h3⟩) ?_ ⟨i1, r1, k1⟩).mono ?_
  · -- a round
    rintro pre x W ⟨hi, hr, hk⟩ hlen
    have hy := run_yield (P := P) (args := encs x) hr (by rw [hR]; exact hps x)
    rw [hR] at hy
    refine ⟨fn, _, assign, body, hy, roundIn_of_wpIn trivial (hassign l pre x W _ hi ?_)⟩
    clear hy
    intro a' V hkf hkp hiV hax
    have hrV := hkf.same _ _ hwl hr rfl
    have hkV := hkf.same _ _ (Nat.le_refl _) hk rfl
    have hlV : l < V.heap.size := (Array.getElem?_eq_some_iff.1 hrV).1
    refine ⟨_, run_beginRound hrV (by rw [hR]), ?_⟩
    obtain ⟨U, hU⟩ : ∃ U, U = V.putObj l (.loop { R .ready none with state := .busy }) := ⟨_, rfl⟩
    have hrU : U.heap[l]? = some (.loop { R .ready none with state := .busy }) := by rw [hU]; exact World.putObj_heap_same hlV
    have hkU : U.heap[w.heap.size]? = some (.deferred (some [])) := by rw [hU, World.putObj_heap_other hDl]; exact hkV
    have hKU : Kp V U := by rw [hU]; rw [hl] at hrV ⊢; exact hKb _ _ _ hrV rfl
    rw [← hU]
    refine wpIn_mono (hbody l pre x a' U hwl ⟨_, hrU⟩ (by rw [hU]; exact oI.putObj _ hiV hwl hrV rfl) (by rw [hU]; exact (hAx x a').putObj (s := ()) _ hax hwl hrV rfl) hlen) ?_
    -- the round's end, by its jump
    have fin : ∀ (jump : Option Code) (V' : World), KeepsFrom w.heap.size U V' → ∃ V'', V'' = V'.putObj l (.loop (R (if jump.isNone then .ready else .done) jump)) ∧ (Instr.endRound l jump).run P V' = .ok (.bool jump.isNone) V'' ∧
        V'.heap[l]? = some (.loop { R .ready none with state := .busy }) ∧ V''.heap[l]? = some (.loop (R (if jump.isNone then .ready else .done) jump)) ∧ V''.heap[w.heap.size]? = some (.deferred (some [])) := fun jump V' hk' => by
      have h1 := hk'.same _ _ hwl hrU rfl
      have h2 := run_endRound (P := P) jump h1
      refine ⟨_, rfl, ?_, h1, World.putObj_heap_same (Array.getElem?_eq_some_iff.1 h1).1, (World.putObj_heap_other hDl).trans (hk'.same _ _ (Nat.le_refl _) hkU rfl)⟩
      rw [hR] at h2 ⊢
      exact h2
    have out : ∀ (c : Code) (V' : World), KeepsFrom w.heap.size U V' → Kp U V' → Ix c (pre ++ [x]) V' → ∃ v V'', (Instr.endRound l (some c)).run P V' = .ok v V'' ∧
        ((Ending.returned v = .returned (.bool true) ∧ (I (pre ++ [x]) V'' ∧ V''.heap[l]? = some (.loop (R .ready none)) ∧ V''.heap[w.heap.size]? = some (.deferred (some []))) ∧ Kp W V'') ∨
         (Ending.returned v = .returned (.bool false) ∧ (∃ c', Ix c' (pre ++ [x]) V'' ∧ V''.heap[l]? = some (.loop (R .done (some c'))) ∧ V''.heap[w.heap.size]? = some (.deferred (some []))) ∧ Kp W V'')) := fun c V' hk' hkp' hx => by
      obtain ⟨V'', hV, h1, h2, h3, h4⟩ := fin (some c) V' hk'
      exact ⟨_, V'', h1, .inr ⟨rfl, ⟨c, by rw [hV]; exact (oIx c).putObj _ hx hwl h2 rfl, h3, h4⟩, hKt hkp (hKt hKU (hKt hkp' (by rw [hV]; rw [hl] at h2 ⊢; exact hKb _ _ _ h2 rfl)))⟩⟩
    intro e a3 V' hp
    cases e with
    | normal =>
      obtain ⟨hk', hkp', hi'⟩ := hp
      obtain ⟨V'', hV, h1, h2, h3, h4⟩ := fin none V' hk'
      exact ⟨_, V'', h1, .inl ⟨rfl, ⟨by rw [hV]; exact oI.putObj _ hi' hwl h2 rfl, h3, h4⟩, hKt hkp (hKt hKU (hKt hkp' (by rw [hV]; rw [hl] at h2 ⊢; exact hKb _ _ _ h2 rfl)))⟩⟩
    | ret => exact out .ret V' hp.1 hp.2.1 hp.2.2
    | exit id => exact out (.exit id) V' hp.1 hp.2.1 hp.2.2
    | goto t => exact out (.goto t) V' hp.1 hp.2.1 hp.2.2
    | panic ch => exact hp.elim
    | outgrown => exact hp.elim
  · -- behind the iterator
    have shut : ∀ (st : LoopState) (pe : Option Code) (V : World), st ≠ .busy → V.heap[l]? = some (.loop (R st pe)) → (Instr.endLoop l).run P V = .ok pe (V.putObj l (.loop { R st pe with state := .exhausted })) := fun st pe V hst hV => by
      have := run_endLoop (P := P) hV (by rw [hR]; exact hst)
      rw [this, hR]
    rintro e V ⟨⟨v, rfl⟩, (⟨xs, hS, hi, hr, hk⟩ | ⟨pre, hSp, c, hi, hr, hk⟩)⟩
    · exact ⟨none, _, shut .ready none V (by simp) hr, hdone _ xs _ (Nat.le_refl _) hS (oI.putObj _ hi hwl hr rfl) ((World.putObj_heap_other hDl).trans hk)⟩
    · exact ⟨some c, _, shut .done (some c) V (by simp) hr, hstop _ c pre _ (Nat.le_refl _) hSp ((oIx c).putObj _ hi hwl hr rfl) ((World.putObj_heap_other hDl).trans hk)⟩

/-- The kit's contract is one of these. -/
theorem SeqT.of_stops {α : Type} {B : Nat} {Z : TypeId → Prop} {g : Nat} {lb : Array Value} {encs : α → Array Value} {Kp : World → World → Prop} {S Sp : List α → Prop} {N : Nat} {w : World} (h : SeqStopsK Fence.wide n P g lb encs Kp S Sp N w)   : SeqT B Z n P g lb encs Kp S Sp N w :=
  fun l J Jx W hW _ hJ hJx hY h0 => h l J Jx W hW (fun s A A' row hs hg hr => (hJ.own (Nat.le_refl _)) s A A' row hs hg (fun r e => ⟨(hr r e).1, by obtain ⟨_, o, ho, hw⟩ := hr r e; exact ⟨o, ho, Obj.not_cells_of_walk hw⟩⟩))
    (fun s A A' row hs hg hr => (hJx.own (Nat.le_refl _)) s A A' row hs hg (fun r e => ⟨(hr r e).1, by obtain ⟨_, o, ho, hw⟩ := hr r e; exact ⟨o, ho, Obj.not_cells_of_walk hw⟩⟩)) (fun pre x W1 hj hl => (hY pre x W1 hj hl).mono (fun e W' hr => hr.imp id (fun h => ⟨h.1, h.2.1⟩))) h0

end Go.Proofs.Qxb6618677a
