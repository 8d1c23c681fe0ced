/-
  (*tree).skipAt and (*tree).pass, on a tree with no skips.
-/
import Derived.Test.Qxb6618677aTk
namespace Go.Proofs.Qxb6618677a
open Go.RowKit

/-- The block of a tree with no skips. -/
structure IsTree (w : World) (bt : Nat) (T X : ByteArray) : Prop where
  blk : w.heap[bt]? = some (.cells #[.string T, .string X, .slice none 0 0] 74 (0, 0))
theorem cell_at {w : World} {k i : Nat} {c : Array Value} {t : TypeId} {v : Value} (h : w.heap[k]? = some (.cells c t (0, 0))) (hi : c[i]? = some v) : w.cell? ⟨k, i, none⟩ = some v := by
  simp [World.cell?, h, hi]
theorem IsTree.c0 {w : World} {bt : Nat} {T X : ByteArray} (h : IsTree w bt T X) : w.cell? ⟨bt, 0, none⟩ = some (.string T) := cell_at h.blk (by simp)
theorem IsTree.c1 {w : World} {bt : Nat} {T X : ByteArray} (h : IsTree w bt T X) : w.cell? ⟨bt, 1, none⟩ = some (.string X) := cell_at h.blk (by simp)
theorem IsTree.c2 {w : World} {bt : Nat} {T X : ByteArray} (h : IsTree w bt T X) : w.cell? ⟨bt, 2, none⟩ = some (.slice none 0 0) := cell_at h.blk (by simp)

set_option maxRecDepth 100000 in
set_option maxHeartbeats 400000 in
theorem skipAt_no (bt : Nat) (T X : ByteArray) (i : Int) (w : World) (h : IsTree w bt T X) :
    Calls Try.prog 43 #[.pointer (some ⟨bt, 0, none⟩), .int .i64 i, .int .i64 0] w fun e w' => e = .returned (.bool false) ∧ w' = w := by
  have h2 := h.c2
  clear h
  go_enter Try.func43, Try.ntmps43
  go_wp2
  go_ret
  exact ⟨rfl, rfl⟩

/-- stif.token at a token of the list. -/
theorem token_tok (T : ByteArray) (i x : Nat) (t : Stif.Tok) (w : World) (hT : T.size ≤ 1048576) (h : Stif.tokAt T i x = some t) :
    Calls Try.prog 41 #[.string T, .int .i64 i] w fun e w' => e = .returned (.tuple #[.int .i64 (t.kind : Int), .int .i64 (t.n : Int), .int .i64 (t.next : Int)]) ∧ w' = w := by
  obtain ⟨_, _, _, _, _, y, _, hd, hk, hn⟩ := Stif.tokAt_some h
  rw [hk, hn]
  exact token_dec T i y t.next w hT hd

namespace Stif
/-- Behind the skip the list still runs to the same end, and is balanced. -/
theorem skip_bal {T : ByteArray} {N : Nat} : ∀ {ts : List Tok} {k m i x i' x' : Nat}, chain T N i x ts i' x' → bal (m + k) ts → ∃ j y, chain T N j y (skipTo k ts) i' x' ∧ bal m (skipTo k ts) ∧ i ≤ j
  | ts, 0, m, i, x, _, _, h, hb => ⟨i, x, by cases ts <;> exact h, by cases ts <;> exact hb, Nat.le_refl _⟩
  | [], k + 1, m, _, _, _, _, h, hb => by simp [bal] at hb
  | t :: r, k + 1, m, i, x, i', x', h, hb => by
    have hlt := (tokAt_some h.1).2.2.2.1
    unfold bal at hb
    simp only [skipTo]
    split at hb
    · rw [if_pos (by assumption)]
      obtain ⟨j, y, h1, h2, h3⟩ := skip_bal (k := k + 2) (m := m) h.2.2 hb
      exact ⟨j, y, h1, h2, by omega⟩
    · rw [if_neg (by assumption)]
      split at hb
      · rw [if_pos (by assumption)]
        obtain ⟨j, y, h1, h2, h3⟩ := skip_bal (k := k) (m := m) h.2.2 (by have := hb.2; rwa [show m + (k + 1) - 1 = m + k by omega] at this)
        exact ⟨j, y, h1, h2, by omega⟩
      · rw [if_neg (by assumption)]
        obtain ⟨j, y, h1, h2, h3⟩ := skip_bal (k := k + 1) (m := m) h.2.2 hb
        exact ⟨j, y, h1, h2, by omega⟩
end Stif

set_option maxRecDepth 100000 in
set_option maxHeartbeats 1000000 in
/-- Passing over the nesting whose token stands at the list's head. -/
theorem pass_any (bt : Nat) (T X : ByteArray) (t : Stif.Tok) (r : List Stif.Tok) (i x E Y : Nat) (w : World) (hT : T.size ≤ 1048576) (hX : X.size ≤ 1048576) (h : IsTree w bt T X) (hk : t.kind = 2) (hch : Stif.chain T X.size i x (t :: r) E Y) (hb : ∃ m, Stif.bal (m + 1) r) :
    Calls Try.prog 42 #[.pointer (some ⟨bt, 0, none⟩), .int .i64 i, .int .i64 x, .int .i64 0] w fun e w' => w' = w ∧ ∃ j y : Nat, e = .returned (.tuple #[.int .i64 j, .int .i64 y, .int .i64 0]) ∧ Stif.chain T X.size j y (Stif.skipTo 1 r) E Y ∧ i < j := by
  have h0 := h.c0
  have HH : Hid (IsTree w bt T X ∧ t.kind = 2 ∧ Stif.chain T X.size i x (t :: r) E Y ∧ ∃ m, Stif.bal (m + 1) r) := ⟨h, hk, hch, hb⟩
  clear h hk hch hb
  go_enter Try.func42, Try.ntmps42
  go_wp2
  go_loop [1, 2, 3, 11] (fun pv xv sv ov => ∃ (ts : List Stif.Tok) (j y k : Nat), pv = .int .i64 j ∧ xv = .int .i64 y ∧ sv = .int .i64 0 ∧ ov = .int .i64 k ∧ Hid (Stif.chain T X.size j y ts E Y ∧ i ≤ j ∧ ((k = 0 ∧ ts = t :: r) ∨ (i < j ∧ 1 ≤ k ∧ k ≤ j ∧ Stif.skipTo k ts = Stif.skipTo 1 r ∧ ∃ m, Stif.bal (m + k) ts)))) (fun pv _ _ _ => T.size - (intOf pv).toNat)
  case atStart => exact ⟨t :: r, i, x, 0, rfl, rfl, rfl, rfl, HH.out.2.2.1, Nat.le_refl _, .inl ⟨rfl, rfl⟩⟩
  case round =>
    obtain ⟨ts, j, y, k, rfl, rfl, rfl, rfl, HR⟩ := hrel
    obtain ⟨u, r', hts⟩ : ∃ u r', ts = u :: r' := by
      rcases HR.out.2.2 with ⟨_, h2⟩ | ⟨_, h1, _, _, m, hm⟩
      · exact ⟨_, _, h2⟩
      · cases ts with
        | nil => simp [Stif.bal] at hm; omega
        | cons u r' => exact ⟨u, r', rfl⟩
    subst hts
    have hu := HR.out.1.1
    have hun := HR.out.1.2.1
    obtain ⟨hk3, _, _, hjn, hnT, _⟩ := Stif.tokAt_some hu
    have HU : Hid (Stif.tokAt T j y = some u) := hu
    have hkb : k ≤ j := by
      rcases HR.out.2.2 with ⟨h2, _⟩ | ⟨_, _, h1, _⟩ <;> omega
    clear hu
    go_wp2_with (first
      | (go_at_call 43; refine (skipAt_no bt T X _ _ HH.out.1).mono ?_; rintro e w' ⟨rfl, hw⟩; obtain rfl := hw.symm)
      | (go_at_call 41; refine (token_tok T j y u _ hT HU.out).mono ?_; rintro e w' ⟨rfl, hw⟩; obtain rfl := hw.symm))
    · have hk2 : u.kind = 2 := by
        have : ((u.kind : Int) == 2) = true := by assumption
        rw [beq_iff_eq] at this
        omega
      have hR := HR.out
      go_round
      case rel =>
        refine ⟨r', u.next, y + u.n, k + 1, rfl, by go_num, rfl, by go_num, hR.1.2.2, by omega, .inr ⟨by omega, by omega, by omega, ?_, ?_⟩⟩
        · rcases hR.2.2 with ⟨rfl, h2⟩ | ⟨_, h1, _, h3, _⟩
          · cases h2; rfl
          · obtain ⟨k, rfl⟩ : ∃ k', k = k' + 1 := ⟨k - 1, by omega⟩
            rw [Stif.skipTo, if_pos hk2] at h3
            exact h3
        · rcases hR.2.2 with ⟨rfl, h2⟩ | ⟨_, h1, _, h3, m, hm⟩
          · cases h2; exact HH.out.2.2.2
          · rw [Stif.bal, if_pos hk2] at hm
            exact ⟨m, hm⟩
      case measure => simp [intOf]; omega
    · have hk2 : ¬ u.kind = 2 := by
        have : ((u.kind : Int) == 2) = false := by assumption
        rw [beq_eq_false_iff_ne] at this
        omega
      have hk3 : u.kind = 3 := by
        have : ((u.kind : Int) == 3) = true := by assumption
        rw [beq_iff_eq] at this
        omega
      have hk1 : k = 1 := by
        have : ((k : Int) - 1 == 0) = true := by assumption
        rw [beq_iff_eq] at this
        omega
      have hR := HR.out
      subst hk1
      go_ret3
      refine ⟨rfl, u.next, y + u.n, by simp, ?_, by omega⟩
      rcases hR.2.2 with ⟨h1, _⟩ | ⟨_, _, _, h3, _⟩
      · cases h1
      · rw [Stif.skipTo, if_neg hk2, if_pos hk3] at h3
        rw [← h3]
        have := hR.1.2.2
        cases r' <;> exact this
    · have hk2 : ¬ u.kind = 2 := by
        have : ((u.kind : Int) == 2) = false := by assumption
        rw [beq_eq_false_iff_ne] at this
        omega
      have hk3 : u.kind = 3 := by
        have : ((u.kind : Int) == 3) = true := by assumption
        rw [beq_iff_eq] at this
        omega
      have hk1 : ¬ k = 1 := by
        have : ((k : Int) - 1 == 0) = false := by assumption
        rw [beq_eq_false_iff_ne] at this
        omega
      have hR := HR.out
      rcases hR.2.2 with ⟨rfl, h2⟩ | ⟨h0, h1, hkj, h3, m, hm⟩
      · cases h2
        exact absurd HH.out.2.1 hk2
      · obtain ⟨k, rfl⟩ : ∃ k', k = k' + 1 := ⟨k - 1, by omega⟩
        rw [Stif.skipTo, if_neg hk2, if_pos hk3] at h3
        rw [Stif.bal, if_neg hk2, if_pos hk3] at hm
        go_round
        case rel => exact ⟨r', u.next, y + u.n, k, rfl, by go_num, rfl, by go_num, hR.1.2.2, by omega, .inr ⟨by omega, by omega, by omega, h3, m, hm.2⟩⟩
        case measure => simp [intOf]; omega
    · have hk2 : ¬ u.kind = 2 := by
        have : ((u.kind : Int) == 2) = false := by assumption
        rw [beq_eq_false_iff_ne] at this
        omega
      have hk0 : k = 0 := by
        have : ((k : Int) == 0) = true := by assumption
        rw [beq_iff_eq] at this
        omega
      have hR := HR.out
      exfalso
      rcases hR.2.2 with ⟨_, h2⟩ | ⟨_, h1, _⟩
      · cases h2
        exact hk2 HH.out.2.1
      · omega
    · have hk2 : ¬ u.kind = 2 := by
        have : ((u.kind : Int) == 2) = false := by assumption
        rw [beq_eq_false_iff_ne] at this
        omega
      have hk3 : ¬ u.kind = 3 := by
        have : ((u.kind : Int) == 3) = false := by assumption
        rw [beq_eq_false_iff_ne] at this
        omega
      have hR := HR.out
      rcases hR.2.2 with ⟨rfl, h2⟩ | ⟨h0, h1, hkj, h3, m, hm⟩
      · cases h2
        exact absurd HH.out.2.1 hk2
      · obtain ⟨k, rfl⟩ : ∃ k', k = k' + 1 := ⟨k - 1, by omega⟩
        rw [Stif.skipTo, if_neg hk2, if_neg hk3] at h3
        rw [Stif.bal, if_neg hk2, if_neg hk3] at hm
        go_round
        case rel => exact ⟨r', u.next, y + u.n, k + 1, rfl, by go_num, rfl, by go_num, hR.1.2.2, by omega, .inr ⟨by omega, by omega, by omega, h3, m, hm⟩⟩
        case measure => simp [intOf]; omega

end Go.Proofs.Qxb6618677a
