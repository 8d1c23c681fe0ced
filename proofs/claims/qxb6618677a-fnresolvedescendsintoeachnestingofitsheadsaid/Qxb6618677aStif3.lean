/-
  THE PLAIN SIDE, part 3: what a walk yields against what the whole run holds.
-/
import Derived.Test.Qxb6618677aStif2
namespace Go.Proofs.Qxb6618677a
namespace Stif

def isField (p : Nat × Tok) : Bool := !(p.2.kind == 1)

theorem flds_all (into : Nat → Tok → Bool) : ∀ (ts : List Tok) (d : Nat), (∀ t ∈ ts, t.kind ≤ 3) → (∀ p ∈ runN d ts, p.2.kind = 2 → into p.1 p.2 = true) → flds into d 0 ts = (runN d ts).filter isField
  | [], _, _, _ => by simp [flds, runN]
  | a :: L, d, hk, h => by
    have hk' : ∀ t ∈ L, t.kind ≤ 3 := fun t ht => hk t (List.mem_cons_of_mem _ ht)
    unfold flds runN
    unfold runN at h
    by_cases k3 : a.kind = 3
    · simp only [k3, if_true] at h ⊢
      by_cases hd : d = 0
      · simp [hd]
      · simp only [hd, if_false] at h ⊢
        exact flds_all into L (d - 1) hk' h
    · simp only [k3, if_false] at h ⊢
      by_cases k2 : a.kind = 2
      · simp only [k2, if_true] at h ⊢
        have h1 : into d a = true := h (d, a) List.mem_cons_self k2
        rw [if_neg (by omega), h1, if_pos rfl, flds_all into L (d + 1) hk' (fun p hp => h p (List.mem_cons_of_mem _ hp))]
        simp [isField, k2]
      · simp only [k2, if_false] at h ⊢
        have ih := flds_all into L d hk' (fun p hp => h p (List.mem_cons_of_mem _ hp))
        by_cases k0 : a.kind = 0
        · rw [if_pos k0, ih]; simp [isField, k0]
        · have k1 : a.kind = 1 := by have := hk a List.mem_cons_self; omega
          rw [if_neg k0, ih]; simp [isField, k1]

theorem runN_depth : ∀ (ts : List Tok) (d : Nat), ∀ p ∈ runN d ts, p.1 ≤ d + ts.length
  | [], _, p, hp => by simp [runN] at hp
  | a :: L, d, p, hp => by
    unfold runN at hp
    simp only [List.length_cons]
    split at hp
    · split at hp
      · simp at hp
      · have := runN_depth L (d - 1) p hp; omega
    · split at hp
      · rcases List.mem_cons.1 hp with rfl | hp
        · show d ≤ _; omega
        · have := runN_depth L (d + 1) p hp; omega
      · rcases List.mem_cons.1 hp with rfl | hp
        · show d ≤ _; omega
        · have := runN_depth L d p hp; omega
theorem runN_mem : ∀ (ts : List Tok) (d : Nat), ∀ p ∈ runN d ts, p.2 ∈ ts
  | [], _, p, hp => by simp [runN] at hp
  | a :: L, d, p, hp => by
    unfold runN at hp
    split at hp
    · split at hp
      · simp at hp
      · exact List.mem_cons_of_mem _ (runN_mem L (d - 1) p hp)
    · split at hp
      · rcases List.mem_cons.1 hp with rfl | hp
        · exact List.mem_cons_self
        · exact List.mem_cons_of_mem _ (runN_mem L (d + 1) p hp)
      · rcases List.mem_cons.1 hp with rfl | hp
        · exact List.mem_cons_self
        · exact List.mem_cons_of_mem _ (runN_mem L d p hp)
theorem runN_length : ∀ (ts : List Tok) (d : Nat), (runN d ts).length ≤ ts.length
  | [], _ => by simp [runN]
  | a :: L, d => by
    unfold runN
    split
    · split
      · simp
      · have := runN_length L (d - 1); simp; omega
    · split
      · have := runN_length L (d + 1); simp; omega
      · have := runN_length L d; simp; omega
theorem chain_mem {T : ByteArray} {N : Nat} : ∀ {L : List Tok} {i x i' x' : Nat}, chain T N i x L i' x' → ∀ t ∈ L, i ≤ t.tok ∧ tokAt T t.tok t.txt = some t ∧ t.txt + t.n ≤ N
  | [], _, _, _, _, _, t, ht => by simp at ht
  | a :: L, i, x, i', x', h, t, ht => by
    have ha := tokAt_some h.1
    rcases List.mem_cons.1 ht with rfl | ht
    · rw [ha.2.1, ha.2.2.1]; exact ⟨Nat.le_refl _, h.1, h.2.1⟩
    · have := chain_mem h.2.2 t ht
      exact ⟨by omega, this.2⟩
theorem runN_order {T : ByteArray} {N : Nat} : ∀ {L : List Tok} {i x i' x' : Nat} (d : Nat), chain T N i x L i' x' → (runN d L).Pairwise fun p q => p.2.tok < q.2.tok
  | [], _, _, _, _, _, _ => by simp [runN]
  | a :: L, i, x, i', x', d, h => by
    have ha := tokAt_some h.1
    have hq : ∀ d', ∀ q ∈ runN d' L, a.tok < q.2.tok := fun d' q hq => by
      have := (chain_mem h.2.2 _ (runN_mem L d' q hq)).1
      omega
    unfold runN
    split
    · split
      · simp
      · exact runN_order (d - 1) h.2.2
    · split
      · exact List.pairwise_cons.2 ⟨fun q hq' => hq _ q hq', runN_order (d + 1) h.2.2⟩
      · exact List.pairwise_cons.2 ⟨fun q hq' => hq _ q hq', runN_order d h.2.2⟩

/-- Depths open at no more than b and rise by at most one a step. -/
def Rise : Nat → List (Nat × Tok) → Prop
  | _, [] => True
  | b, p :: r => p.1 ≤ b ∧ Rise (p.1 + 1) r
theorem Rise.mono : ∀ {F : List (Nat × Tok)} {b c : Nat}, b ≤ c → Rise b F → Rise c F
  | [], _, _, _, _ => trivial
  | p :: r, _, _, h, hr => ⟨by have := hr.1; omega, hr.2⟩
theorem flds_rise (into : Nat → Tok → Bool) : ∀ (ts : List Tok) (d k : Nat), Rise d (flds into d k ts)
  | [], d, k => by cases k <;> simp [flds, Rise]
  | a :: L, d, 0 => by
    unfold flds
    split
    · split
      · exact trivial
      · exact (flds_rise into L (d - 1) 0).mono (by omega)
    · split
      · exact ⟨Nat.le_refl _, (flds_rise into L d 0).mono (by show d ≤ d + 1; omega)⟩
      · split
        · refine ⟨Nat.le_refl _, ?_⟩
          split
          · exact flds_rise into L (d + 1) 0
          · exact (flds_rise into L d 1).mono (by show d ≤ d + 1; omega)
        · exact flds_rise into L d 0
  | a :: L, d, k + 1 => by
    unfold flds
    split
    · exact flds_rise into L d (k + 2)
    · split
      · exact flds_rise into L d k
      · exact flds_rise into L d (k + 1)
theorem Rise.get : ∀ {F : List (Nat × Tok)} {b : Nat}, Rise b F → ∀ (k : Nat) (p : Nat × Tok), F[k]? = some p → (k = 0 → p.1 ≤ b) ∧ ∀ q, 0 < k → F[k - 1]? = some q → p.1 ≤ q.1 + 1
  | [], _, _, k, p, h => by simp at h
  | a :: r, b, hr, 0, p, h => by
    simp at h; subst h
    exact ⟨fun _ => hr.1, fun q h0 => by omega⟩
  | a :: r, b, hr, k + 1, p, h => by
    have ih := hr.2.get k p (by simpa using h)
    refine ⟨fun h0 => by omega, fun q _ hq => ?_⟩
    cases k with
    | zero => simp at hq; subst hq; exact ih.1 rfl
    | succ k => exact ih.2 q (by omega) (by simpa using hq)

/-- Whatever a walk yields is yielded, in the same order, by the walk that goes into everything. -/
theorem flds_sub (into all : Nat → Tok → Bool) : ∀ (ts : List Tok) (d k : Nat), (∀ p ∈ runN (d + k) ts, p.2.kind = 2 → all p.1 p.2 = true) → (flds into d k ts).Sublist (flds all (d + k) 0 ts)
  | [], d, k, _ => by cases k <;> simp [flds]
  | a :: L, d, 0, h => by
    unfold flds
    unfold runN at h
    simp only [Nat.add_zero] at h ⊢
    by_cases k3 : a.kind = 3
    · simp only [k3, if_true] at h ⊢
      by_cases hd : d = 0
      · simp [hd]
      · simp only [hd, if_false] at h ⊢
        exact flds_sub into all L (d - 1) 0 h
    · simp only [k3, if_false] at h ⊢
      by_cases k2 : a.kind = 2
      · have k0 : ¬ a.kind = 0 := by omega
        simp only [if_pos k2, if_neg k0] at h ⊢
        rw [h (d, a) List.mem_cons_self k2, if_pos rfl]
        refine List.Sublist.cons_cons _ ?_
        split
        · exact flds_sub into all L (d + 1) 0 (fun p hp => h p (List.mem_cons_of_mem _ hp))
        · exact flds_sub into all L d 1 (fun p hp => h p (List.mem_cons_of_mem _ hp))
      · simp only [k2, if_false] at h ⊢
        have ih := flds_sub into all L d 0 (fun p hp => h p (List.mem_cons_of_mem _ hp))
        split
        · exact List.Sublist.cons_cons _ ih
        · exact ih
  | a :: L, d, k + 1, h => by
    unfold flds
    unfold runN at h
    by_cases k3 : a.kind = 3
    · have e : d + (k + 1) - 1 = d + k := by omega
      simp only [k3, if_true] at h ⊢
      rw [if_neg (by omega)] at h ⊢
      rw [e] at h ⊢
      exact flds_sub into all L d k h
    · simp only [k3, if_false] at h ⊢
      by_cases k2 : a.kind = 2
      · simp only [k2, if_true] at h ⊢
        rw [if_neg (by omega), h (d + (k + 1), a) List.mem_cons_self k2, if_pos rfl]
        refine List.Sublist.cons _ ?_
        exact flds_sub into all L d (k + 2) (fun p hp => h p (List.mem_cons_of_mem _ (by simpa [Nat.add_assoc] using hp)))
      · simp only [k2, if_false] at h ⊢
        have ih := flds_sub into all L d (k + 1) (fun p hp => h p (List.mem_cons_of_mem _ hp))
        split
        · exact List.Sublist.cons _ ih
        · exact ih

end Stif
end Go.Proofs.Qxb6618677a
