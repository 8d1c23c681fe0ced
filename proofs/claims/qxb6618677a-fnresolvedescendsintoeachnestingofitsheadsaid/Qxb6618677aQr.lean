/-
  A region that draws its order, in a round of a loop over an iterator, whose operations and callees leave a world of one class: one walk of the lexical order serves (the kit's theorem asks that no round be on).
-/
import Derived.Sort.BigQuietIn
import Derived.TacticsIn
import Derived.RangeFuncCalls
namespace Go.Proofs.Qxb6618677a
open Go.RowKit
section
variable {F : Fence} {n : Nat} {P : Program} {ops : Array Oper} {md : Region.Mode} {C : World → Prop}

/-- No operation of the region defers a call. -/
def NoDefer (ops : Array Oper) : Prop := ∀ (i : Nat) (o : Oper), ops[i]? = some o → ∀ c, o.op ≠ .defer c

def noDeferB (ops : Array Oper) : Bool := ops.all fun o => match o.op with
  | .defer _ => false
  | _ => true
theorem noDefer_of (h : noDeferB ops = true) : NoDefer ops := fun i o ho c hc => by
  have h1 := (Array.all_eq_true_iff_forall_mem.1 h) o (Array.mem_of_getElem? ho)
  simp only [hc] at h1
  cases h1

theorem quiet_op {o : Oper} {a : Act} {K : Act → Prop} {K' : Act → World → Prop} {Q' : Exit → Act → World → Prop} {w : World} (hd : ∀ c, o.op ≠ .defer c) (hw : C w) (h : ∀ a w', C w' → K a → K' a w')
    (ha : o.askedIn F P a C) (hh : o.quietIn F n P a C K) : o.wpIn F n P a w K' Q' := by
  obtain ⟨v, h1, h2⟩ := hh
  have h3 := h1 w hw
  refine ⟨ha w hw, ?_⟩
  rw [Oper.semAt_eq _ _ _ hd]
  revert h3
  unfold Oper.quietAtIn
  cases (execOp a.eval o).run P w with
  | halt x w' => exact fun h3 => h3.elim
  | ok x w' =>
    cases x with
    | value u => rintro ⟨rfl, rfl⟩; exact h _ _ hw h2
    | skip => rintro ⟨rfl, rfl⟩; exact h _ _ hw h2
    | enter f args => rintro ⟨rfl, hd', hc⟩; exact ⟨hd', hc.mono fun e w'' ⟨he, hw''⟩ => by subst he; exact h _ _ hw'' h2⟩
    | _ => exact fun h3 => h3.elim

theorem quiet_any {Q : Act → Prop} {Q' : Exit → Act → World → Prop} (hnd : NoDefer ops) (hQ : ∀ a w, C w → Q a → Q' .normal a w) : ∀ (fuel : Nat) (listed : Array Bool) (a : Act) (w : World), C w →
    wpAnyQIn F n P md ops C Q fuel listed a → wpAnyIn F n P md ops Q' fuel listed a w
  | 0, _, _, _, hw, h => ⟨h.1, hQ _ _ hw h.2⟩
  | fuel + 1, _, _, _, hw, h => ⟨fun h0 => hQ _ _ hw (h.1 h0), fun i hi => by
      have hh := h.2 i hi
      unfold qOpIn at hh
      unfold wpOpIn
      cases ho : ops[i]? with
      | none => simp only [ho] at hh ⊢; exact quiet_any hnd hQ fuel _ _ _ hw hh
      | some o =>
        simp only [ho] at hh ⊢
        obtain ⟨ha, hh⟩ := hh
        split
        · rename_i hwt
          simp only [hwt, if_true] at hh
          exact quiet_op (hnd i o ho) hw (fun a' w' hw' hk => quiet_any hnd hQ fuel _ a' w' hw' hk) ha hh
        · rename_i hwt
          simp only [hwt] at hh
          exact ⟨ha _ hw, quiet_any hnd hQ fuel _ _ _ hw hh⟩⟩

theorem region_round {id : Nat} {Q : Exit → Act → World → Prop} {a : Act} {w : World} (hnd : NoDefer ops) (hm : P.follows .mixedOrders = true) (hB : Region.lexB .any ops = true) (hC : C { w with drawn := w.drawn + 1 })
    (h : wpQuietIn F n P ops C (fun a' => ∀ w', C w' → Q .normal a' w') ops.toList a) : (Code.region id ops true).wpIn F n P Q a w := by
  simp only [Region.lexB, Bool.and_eq_true] at hB
  refine wpIn_region_any hm (quiet_any (Q := fun a' => ∀ w', C w' → Q .normal a' w') hnd (fun _ w' hw' h => h w' hw') _ _ _ _ hC ?_)
  have := wpAnyQIn_lex (F := F) (n := n) (C := C) (md := .any) hB.1 ops.toList 0 (Array.replicate ops.size false) a (by simp) (by simpa using hB.2) h
  simpa using this
end

/-- The worlds that have grown out of V. -/
def Grew (V : World) := { x : World // Below V.heap.size V x }
theorem Grew.cell {V : World} (x : Grew V) {p : Addr} {v : Value} (h : V.cell? p = some v) : x.1.cell? p = some v := by
  have hp : p.block < V.heap.size := by
    unfold World.cell? at h
    split at h
    · rename_i hb; exact (Array.getElem?_eq_some_iff.1 hb).1
    all_goals cases h
  exact (x.2.cell hp).trans h

theorem region_grew {F : Fence} {n : Nat} {P : Program} {id : Nat} {Q : Exit → Act → World → Prop} {a : Act} {V : World} {l : List Oper} (hnd : NoDefer l.toArray) (hm : P.follows .mixedOrders = true) (hB : Region.lexB .any l.toArray = true)
    (h : wpQuietIn F n P l.toArray (fun w' => ∃ x : Grew V, w' = x.1) (fun a' => ∀ w', (∃ x : Grew V, w' = x.1) → Q .normal a' w') l a) : (Code.region id l.toArray true).wpIn F n P Q a V :=
  region_round (C := fun w' => ∃ x : Grew V, w' = x.1) hnd hm hB ⟨⟨_, (Below.refl _ V).drew⟩, rfl⟩ (by simpa using h)

end Go.Proofs.Qxb6618677a
