/-
  The plain law of a path's head: what a path names is what its rest names in each nesting of its head.
-/
import Derived.Test.Qxb6618677aNp0
namespace Go.Proofs.Qxb6618677a
open Go.RowKit

/-- The tokens behind the end of the k + 1 innermost open nestings. -/
def afterC : Nat → List Stif.Tok → List Stif.Tok
  | _, [] => []
  | k, t :: r => if t.kind = 3 then (if k = 0 then r else afterC (k - 1) r) else if t.kind = 2 then afterC (k + 1) r else afterC k r
theorem afterC_suffix : ∀ (r : List Stif.Tok) (k : Nat), ∃ A, r = A ++ afterC k r
  | [], k => ⟨[], rfl⟩
  | t :: r, k => by
    unfold afterC
    split
    · split
      · exact ⟨[t], rfl⟩
      · obtain ⟨A, hA⟩ := afterC_suffix r (k - 1)
        exact ⟨t :: A, by rw [List.cons_append, ← hA]⟩
    · split
      · obtain ⟨A, hA⟩ := afterC_suffix r (k + 1)
        exact ⟨t :: A, by rw [List.cons_append, ← hA]⟩
      · obtain ⟨A, hA⟩ := afterC_suffix r k
        exact ⟨t :: A, by rw [List.cons_append, ← hA]⟩
theorem afterC_len (r : List Stif.Tok) (k : Nat) : (afterC k r).length ≤ r.length := by
  obtain ⟨A, hA⟩ := afterC_suffix r k
  have := congrArg List.length hA
  rw [List.length_append] at this
  omega
theorem afterC_add : ∀ (r : List Stif.Tok) (a b : Nat), afterC (a + b + 1) r = afterC a (afterC b r)
  | [], a, b => by cases a <;> simp [afterC]
  | t :: r, a, b => by
    by_cases k3 : t.kind = 3
    · cases b with
      | zero => simp [afterC, k3]
      | succ b =>
        have := afterC_add r a b
        simp only [afterC, k3, if_true]
        rw [if_neg (by omega), if_neg (by omega), show a + (b + 1) + 1 - 1 = a + b + 1 by omega, show b + 1 - 1 = b by omega]
        exact this
    · by_cases k2 : t.kind = 2
      · have := afterC_add r a (b + 1)
        simp only [afterC, k2, if_true]
        exact this
      · have := afterC_add r a b
        simp only [afterC, k3, k2, if_false]
        exact this

theorem flds_skip (into : Nat → Stif.Tok → Bool) : ∀ (r : List Stif.Tok) (d k : Nat), Stif.flds into d (k + 1) r = Stif.flds into d 0 (afterC k r)
  | [], d, k => by simp [Stif.flds, afterC]
  | t :: r, d, k => by
    by_cases k2 : t.kind = 2
    · have := flds_skip into r d (k + 1)
      simp only [Stif.flds, afterC, k2, if_true]
      simpa using this
    · by_cases k3 : t.kind = 3
      · cases k with
        | zero => simp [Stif.flds, afterC, k3]
        | succ k =>
          have := flds_skip into r d k
          simp [Stif.flds, afterC, k3, this]
      · have := flds_skip into r d k
        simp [Stif.flds, afterC, k2, k3, this]

def sh (p : Nat × Stif.Tok) : Nat × Stif.Tok := (p.1 + 1, p.2)
theorem flds_in (into : Nat → Stif.Tok → Bool) : ∀ (n : Nat) (r : List Stif.Tok) (d : Nat), r.length ≤ n → Stif.flds into (d + 1) 0 r = (Stif.flds (fun k t => into (k + 1) t) d 0 r).map sh ++ Stif.flds into 0 0 (afterC d r)
  | _, [], d, _ => by simp [Stif.flds, afterC]
  | 0, t :: r, d, h => by simp at h
  | n + 1, t :: r, d, h => by
    have hr : r.length ≤ n := by simpa using h
    by_cases k3 : t.kind = 3
    · cases d with
      | zero => simp [Stif.flds, afterC, k3]
      | succ d =>
        have := flds_in into n r d hr
        simp [Stif.flds, afterC, k3, this]
    · by_cases k0 : t.kind = 0
      · have := flds_in into n r d hr
        simp [Stif.flds, afterC, k0, this, sh]
      · by_cases k2 : t.kind = 2
        · by_cases hi : into (d + 1) t = true
          · have := flds_in into n r (d + 1) hr
            simp [Stif.flds, afterC, k2, hi, this, sh]
          · have h1 := flds_in into n (afterC 0 r) d (Nat.le_trans (afterC_len r 0) hr)
            have h2 := flds_skip into r (d + 1) 0
            have h3 := flds_skip (fun k t => into (k + 1) t) r d 0
            have h4 := afterC_add r d 0
            simp [Stif.flds, afterC, k2, hi, sh] at h1 h2 h3 h4 ⊢
            rw [h2, h3, h1, h4]
        · have := flds_in into n r d hr
          simp [Stif.flds, afterC, k0, k2, k3, this]

def topH (X h : ByteArray) (p : Nat × Stif.Tok) : Bool := (p.1 == 0) && ((p.2.kind == 2) && ((X.extract p.2.txt (p.2.txt + p.2.n)).toList == h.toList))
theorem top_skip (X h : ByteArray) : ∀ (r : List Stif.Tok) (d : Nat), (Stif.runN (d + 1) r).filter (topH X h) = (Stif.runN 0 (afterC d r)).filter (topH X h)
  | [], d => by simp [Stif.runN, afterC]
  | t :: r, d => by
    by_cases k3 : t.kind = 3
    · cases d with
      | zero => simp [Stif.runN, afterC, k3]
      | succ d =>
        have := top_skip X h r d
        simp [Stif.runN, afterC, k3, this]
    · by_cases k2 : t.kind = 2
      · have := top_skip X h r (d + 1)
        simp [Stif.runN, afterC, k2, this, topH]
      · have := top_skip X h r d
        simp [Stif.runN, afterC, k2, k3, this, topH]

theorem fsel_sh (X nm : ByteArray) (nest : Bool) (lev : Nat) (p : Nat × Stif.Tok) : fsel X nm nest (lev + 1) (sh p) = fsel X nm nest lev p := by
  unfold fsel sh
  simp
theorem filter_sh (X nm : ByteArray) (nest : Bool) (lev : Nat) (l : List (Nat × Stif.Tok)) : (l.map sh).filter (fsel X nm nest (lev + 1)) = (l.filter (fsel X nm nest lev)).map sh := by
  rw [List.filter_map]
  congr 1
  congr 1
  funext p
  exact fsel_sh X nm nest lev p

theorem top_flds (X h nm : ByteArray) (nest : Bool) (lev : Nat) (into : Nat → Stif.Tok → Bool) (h0 : ∀ t, into 0 t = ((X.extract t.txt (t.txt + t.n)).toList == h.toList)) (G : Stif.Tok → List Stif.Tok) : ∀ (n : Nat) (r : List Stif.Tok), r.length ≤ n → (∀ A t B, r = A ++ t :: B → G t = B) →
    (Stif.flds into 0 0 r).filter (fsel X nm nest (lev + 1)) = ((Stif.runN 0 r).filter (topH X h)).flatMap fun p => ((Stif.flds (fun k t => into (k + 1) t) 0 0 (G p.2)).filter (fsel X nm nest lev)).map sh
  | _, [], _, _ => by simp [Stif.flds, Stif.runN]
  | 0, t :: r, hl, _ => by simp at hl
  | n + 1, t :: r, hl, hG => by
    have hr : r.length ≤ n := by simpa using hl
    have hGr : ∀ A t' B, r = A ++ t' :: B → G t' = B := fun A t' B e => hG (t :: A) t' B (by rw [e]; rfl)
    by_cases k3 : t.kind = 3
    · simp [Stif.flds, Stif.runN, k3]
    · have nosel : fsel X nm nest (lev + 1) (0, t) = false := by unfold fsel; simp
      by_cases k2 : t.kind = 2
      · have hGc : ∀ A t' B, afterC 0 r = A ++ t' :: B → G t' = B := fun A t' B e => by
          obtain ⟨C, hC⟩ := afterC_suffix r 0
          exact hGr (C ++ A) t' B (by rw [List.append_assoc, ← e]; exact hC)
        have ih := top_flds X h nm nest lev into h0 G n (afterC 0 r) (Nat.le_trans (afterC_len r 0) hr) hGc
        have ht := top_skip X h r 0
        have hg : G t = r := hG [] t r rfl
        by_cases hi : into 0 t = true
        · have h1 := flds_in into r.length r 0 (Nat.le_refl _)
          have hnm : ((X.extract t.txt (t.txt + t.n)).toList == h.toList) = true := by rw [← h0]; exact hi
          have htop : topH X h (0, t) = true := by unfold topH; simp only [k2, hnm]; rfl
          have e1 : Stif.flds into 0 0 (t :: r) = (0, t) :: Stif.flds into 1 0 r := by simp [Stif.flds, k2, hi]
          have e2 : Stif.runN 0 (t :: r) = (0, t) :: Stif.runN 1 r := by simp [Stif.runN, k2]
          rw [e1, e2, List.filter_cons, if_neg (by rw [nosel]; simp), List.filter_cons, if_pos htop, List.flatMap_cons, hg]
          rw [show (1 : Nat) = 0 + 1 from rfl, h1, List.filter_append, filter_sh, ih, ht]
        · have hnm : ((X.extract t.txt (t.txt + t.n)).toList == h.toList) = false := by rw [← h0]; simpa using hi
          have htop : topH X h (0, t) = false := by unfold topH; rw [hnm]; simp
          have e1 : Stif.flds into 0 0 (t :: r) = (0, t) :: Stif.flds into 0 1 r := by simp [Stif.flds, k2, hi]
          have e2 : Stif.runN 0 (t :: r) = (0, t) :: Stif.runN 1 r := by simp [Stif.runN, k2]
          rw [e1, e2, List.filter_cons, if_neg (by rw [nosel]; simp), List.filter_cons, if_neg (by rw [htop]; simp), show (1 : Nat) = 0 + 1 from rfl, flds_skip, ih, ht]
      · have ih := top_flds X h nm nest lev into h0 G n r hr hGr
        have htop : topH X h (0, t) = false := by unfold topH; simp [k2]
        have e2 : Stif.runN 0 (t :: r) = (0, t) :: Stif.runN 0 r := by simp [Stif.runN, k2, k3]
        rw [e2, List.filter_cons, if_neg (by rw [htop]; simp), ← ih]
        by_cases k0 : t.kind = 0
        · have e1 : Stif.flds into 0 0 (t :: r) = (0, t) :: Stif.flds into 0 0 r := by simp [Stif.flds, k0]
          rw [e1, List.filter_cons, if_neg (by rw [nosel]; simp)]
        · have e1 : Stif.flds into 0 0 (t :: r) = Stif.flds into 0 0 r := by simp [Stif.flds, k0, k2, k3]
          rw [e1]

theorem flatMap_mem {α β : Type} {f g : α → List β} : ∀ {l : List α}, (∀ a ∈ l, f a = g a) → l.flatMap f = l.flatMap g
  | [], _ => rfl
  | a :: l, h => by rw [List.flatMap_cons, List.flatMap_cons, h a (by simp), flatMap_mem fun b hb => h b (List.mem_cons_of_mem _ hb)]
/-- The nestings at the top of the run that bear the head's name. -/
def heads (X h : ByteArray) (ts : List Stif.Tok) : List (Nat × Stif.Tok) := (Stif.runN 0 ts).filter (topH X h)
theorem named_heads {T X : ByteArray} {i0 x0 : Nat} {ts : List Stif.Tok} (hch : Stif.chain T X.size i0 x0 ts T.size X.size) (h nm : ByteArray) (Pa : List ByteArray) (nest : Bool) :
    named X (h :: Pa) nm nest ts = (heads X h ts).flatMap fun p => (named X Pa nm nest (tailOf ts p.2)).map sh := by
  unfold named heads
  exact top_flds X h nm nest Pa.length (pathInto X (h :: Pa)) (fun t => rfl) (tailOf ts) ts.length ts (Nat.le_refl _) (fun A t B e => by rw [e]; rw [e] at hch; exact tail_eq hch)
theorem allv_heads {T X : ByteArray} {i0 x0 : Nat} {ts : List Stif.Tok} (hch : Stif.chain T X.size i0 x0 ts T.size X.size) (h nm : ByteArray) (Pa : List ByteArray) (nest : Bool) :
    allv X ts (named X (h :: Pa) nm nest ts) = (heads X h ts).flatMap fun p => allv X (tailOf ts p.2) (named X Pa nm nest (tailOf ts p.2)) := by
  rw [named_heads hch]
  unfold allv
  rw [List.flatMap_assoc]
  refine flatMap_mem fun p hp => ?_
  rw [List.flatMap_map]
  refine flatMap_mem fun q hq => ?_
  have hpm := Stif.runN_mem ts 0 p (List.mem_filter.1 hp).1
  have hct := tail_split hch hpm
  obtain ⟨_, _, _, hrun⟩ := fld_ok hct (List.mem_filter.1 hq).1
  have hqm := Stif.runN_mem _ 0 q hrun
  obtain ⟨A, B, hts⟩ := List.append_of_mem hpm
  have ht1 : tailOf ts p.2 = B := by rw [hts]; rw [hts] at hch; exact tail_eq hch
  obtain ⟨C, D, htb⟩ := List.append_of_mem hqm
  have ht2 : tailOf (tailOf ts p.2) q.2 = D := by rw [htb]; rw [htb] at hct; exact tail_eq hct
  have ht3 : tailOf ts q.2 = D := by
    have e : ts = (A ++ p.2 :: C) ++ q.2 :: D := by rw [hts, ← ht1, htb]; simp
    rw [e]; rw [e] at hch; exact tail_eq hch
  unfold fvals sh
  rw [ht2, ht3]
end Go.Proofs.Qxb6618677a
