/-
  madeUp, SplitTokens: what they may answer.
-/
import Derived.Test.Qxb6618748aNc
namespace Go.Proofs.Qxb6618748a
open Go.RowKit

theorem ToksAt.drop {bp base : Nat} {w : World} {g o n c : Nat} {TS : List Tk} (h : ToksAt bp base w (some ⟨g, o, none⟩) n c TS) {k : Nat} (hk : k ≤ n) : ToksAt bp base w (some ⟨g, o + k * 4, none⟩) (n - k) (c - k) (TS.drop k) := by
  have h1 := h.len
  have h2 := h.le
  have h3 := h.cap
  have h4 := h.cm
  refine ⟨by rw [List.length_drop]; omega, by omega, by omega, by omega, fun e => (by cases e), fun x hx => (by cases hx; rfl), fun i t ht => ?_⟩
  rw [List.getElem?_drop] at ht
  obtain ⟨g', o', a', c', ca, cc, hx, hT⟩ := h.cell (k + i) t ht
  cases hx
  refine ⟨g, o + k * 4, a', c', ca, cc, rfl, ?_⟩
  rw [show o + k * 4 + i * 4 = o + (k + i) * 4 by omega]
  exact hT
theorem ToksAt.take {bp base : Nat} {w : World} {a : Option Addr} {n c : Nat} {TS : List Tk} (h : ToksAt bp base w a n c TS) {k : Nat} (hk : k ≤ n) : ToksAt bp base w a k c (TS.take k) := by
  have h1 := h.len
  have h2 := h.le
  have h3 := h.cap
  refine ⟨by rw [List.length_take]; omega, by omega, by omega, h.cm, h.nil, h.spot, fun i t ht => ?_⟩
  rw [List.getElem?_take] at ht
  split at ht
  · exact h.cell i t ht
  · cases ht
theorem ToksAt.none0 (bp base : Nat) (w : World) : ToksAt bp base w none 0 0 [] := ⟨rfl, by omega, by omega, by unfold maxLen; omega, fun _ => rfl, fun x hx => (by cases hx), fun i t ht => by simp at ht⟩

def MadeOk (n : Nat) (w : World) (e : Ending) (w' : World) : Prop := ∃ (k : Nat) (ok : Bool), e = .returned (.tuple #[.int .i64 (k : Int), .bool ok]) ∧ Below w.heap.size w w' ∧ k ≤ n

set_option maxRecDepth 100000 in
set_option maxHeartbeats 1000000 in
theorem madeUp_any (bp base : Nat) (s : ByteArray) (a : Option Addr) (n c : Nat) (TS : List Tk) (w : World) (hs : s.size ≤ 1048576) (h : ToksAt bp base w a n c TS) :
    Calls Try.prog 38 #[.string s, .slice a n c] w (MadeOk n w) := by
  have H : Hid (ToksAt bp base w a n c TS) := h
  have hle := h.le
  have hcap := h.cap
  clear h
  go_enter Try.func38, Try.ntmps38
  go_wp2_with fail
  go_loopg [0, 6] n (fun gk sv kv wr => ∃ (k : Nat) (r : ByteArray), gk = n - k ∧ k ≤ n ∧ sv = .string r ∧ kv = .int .i64 (k : Int) ∧ r.size ≤ 1048576 ∧ Hid (Below w.heap.size w wr))
  case atStart => exact ⟨0, s, by omega, by omega, rfl, rfl, hs, Below.refl _ _⟩
  case round =>
    obtain ⟨k, r, hgk, hk, rfl, rfl, hr, HR⟩ := hrel
    cases he : r.toList.isEmpty with
    | true =>
      go_wp2
      refine bodyPost_ret (v := .tuple #[.int .i64 (k : Int), .bool true]) (by simp [results, Try.results38, go_sem]) rfl ?_
      exact ⟨k, true, rfl, HR.out, hk⟩
    | false =>
      by_cases hkn : k = n
      · have hkb : ((k : Int) == (n : Int)) = true := by simp; omega
        go_wp2
        refine bodyPost_ret (v := .tuple #[.int .i64 0, .bool false]) (by simp [results, Try.results38, go_sem]) rfl ?_
        exact ⟨0, false, rfl, HR.out, by omega⟩
      · have hkb : ((k : Int) == (n : Int)) = false := by simp; omega
        obtain ⟨t, ht⟩ : ∃ t, TS[k]? = some t := ⟨_, List.getElem?_eq_getElem (by have := H.out.len; omega)⟩
        obtain ⟨g, o, _, _, _, _, hx, _⟩ := H.out.cell k t ht
        subst hx
        have hkc : ¬ (c = k) := by omega
        have hk0 : (0 : Int) ≤ (k : Int) := by omega
        have hkn' : (k : Int) ≤ (n : Int) := by omega
        clear ht
        go_wp2_with fail
        refine (nextChunk_any bp base r _ (n - k) (c - k) _ wr hr ((H.out.below HR.out).drop hk) (by omega)).mono ?_
        rintro e w1 ⟨m, z, ok, rfl, hb1, hok⟩
        have HB : Hid (Below w.heap.size w w1) := HR.out.trans (hb1.mono HR.out.size)
        clear hb1
        cases ok with
        | false =>
          clear hok
          dsimp only
          go_wp2
          refine bodyPost_ret (v := .tuple #[.int .i64 0, .bool false]) (by simp [results, Try.results38, go_sem]) rfl ?_
          exact ⟨0, false, rfl, HB.out, by omega⟩
        | true =>
          obtain ⟨hm1, hm2, hz⟩ := hok rfl
          have hz' : (z : Int) ≤ (r.size : Int) := by omega
          have hmi : (m : Int) ≤ 1048576 := by omega
          clear hok
          dsimp only
          go_wp2
          go_roundg (n - (k + m))
          case measure => omega
          case rel => exact ⟨k + m, _, rfl, by omega, rfl, by go_num, by rw [ByteArray.size_extract]; omega, HB⟩

/-- What SplitTokens may answer: the tokens, cut in two. -/
def SplitOk (bp base n : Nat) (TS : List Tk) (w : World) (e : Ending) (w' : World) : Prop := ∃ (k : Nat) (a1 a2 : Option Addr) (c1 c2 : Nat), k ≤ n ∧ e = .returned (.tuple #[.slice a1 k c1, .slice a2 (n - k) c2]) ∧ Below w.heap.size w w' ∧ ToksAt bp base w' a1 k c1 (TS.take k) ∧ ToksAt bp base w' a2 (n - k) c2 (TS.drop k)

set_option maxRecDepth 100000 in
set_option maxHeartbeats 1000000 in
theorem splitTokens_any (bp base : Nat) (r s : ByteArray) (a : Option Addr) (n c : Nat) (TS : List Tk) (w : World) (hr : r.size ≤ 1048576) (hs : s.size ≤ 1048576) (h : ToksAt bp base w a n c TS) :
    Calls Try.prog 30 #[.string r, .string s, .slice a n c] w (SplitOk bp base n TS w) := by
  have H : Hid (ToksAt bp base w a n c TS) := h
  have hle := h.le
  have hcap := h.cap
  clear h
  have no : ∀ w1, Below w.heap.size w w1 → SplitOk bp base n TS w (.returned (.tuple #[.slice none 0 0, .slice a n c])) w1 := fun w1 hb => ⟨0, none, a, 0, c, by omega, rfl, hb, by rw [List.take_zero]; exact ToksAt.none0 _ _ _, by rw [List.drop_zero]; exact H.out.below hb⟩
  have HN : Hid (∀ w1, Below w.heap.size w w1 → SplitOk bp base n TS w (.returned (.tuple #[.slice none 0 0, .slice a n c])) w1) := no
  clear no
  go_enter Try.func30, Try.ntmps30
  go_wp2_with fail
  refine (madeUp_any bp base r a n c TS w hr H.out).mono ?_
  rintro e w1 ⟨k, ok, rfl, hb1, hk⟩
  have HB : Hid (Below w.heap.size w w1) := hb1
  clear hb1
  cases ok with
  | false =>
    dsimp only
    go_wp2
    refine bodyPost_ret (v := .tuple #[.slice none 0 0, .slice a n c]) (by simp [results, Try.results30, go_sem]) rfl ?_
    exact HN.out _ HB.out
  | true =>
  have fin : Hid (∀ (a2 : Option Addr) (w3 : World), Below w.heap.size w w3 → (a2 = a ∧ c = k ∨ ∃ g o, a = some ⟨g, o, none⟩ ∧ a2 = some ⟨g, o + k * 4, none⟩) → SplitOk bp base n TS w (.returned (.tuple #[.slice a k c, .slice a2 (n - k) (c - k)])) w3) := by
    intro a2 w3 hb3 hor
    refine ⟨k, a, a2, c, c - k, hk, rfl, hb3, (H.out.below hb3).take hk, ?_⟩
    rcases hor with ⟨rfl, hck⟩ | ⟨g, o, rfl, rfl⟩
    · obtain rfl : n = k := by omega
      have e1 : TS.drop n = [] := List.drop_eq_nil_of_le (by have := H.out.len; omega)
      rw [e1, Nat.sub_self, hck, Nat.sub_self]
      have h0 := H.out
      exact ⟨rfl, by omega, by omega, by unfold maxLen; omega, fun _ => rfl, h0.spot, fun i t ht => by simp at ht⟩
    · exact (H.out.below hb3).drop hk
  cases he : s.toList.isEmpty with
  | true =>
    dsimp only
    cases a with
    | none =>
      have hc0 : c = 0 := H.out.nil rfl
      subst hc0
      obtain rfl : n = 0 := by omega
      obtain rfl : k = 0 := by omega
      go_wp2
      go_quiet (fail)
      go_wp2
      refine bodyPost_ret (v := .tuple #[.slice none 0 0, .slice none 0 0]) (by simp [results, Try.results30, go_sem]) rfl ?_
      exact fin.out none _ (below_drewN HB.out _) (.inl (by simp))
    | some xa =>
      obtain ⟨g, o, sp⟩ := xa
      obtain rfl : sp = none := H.out.spot _ rfl
      have hk' : (k : Int) ≤ (n : Int) := by omega
      have hkc' : (k : Int) ≤ (c : Int) := by omega
      have hnc' : (n : Int) ≤ (c : Int) := by omega
      by_cases hck : c = k
      · go_wp2
        go_quiet (fail)
        go_wp2
        refine bodyPost_ret (v := .tuple #[.slice (some ⟨g, o, none⟩) k c, .slice (some ⟨g, o, none⟩) (n - k) (c - k)]) (by simp [results, Try.results30, go_sem, hck]) rfl ?_
        exact fin.out _ _ (below_drewN HB.out _) (.inl ⟨rfl, hck⟩)
      · go_wp2
        go_quiet (fail)
        go_wp2
        refine bodyPost_ret (v := .tuple #[.slice (some ⟨g, o, none⟩) k c, .slice (some ⟨g, o + k * 4, none⟩) (n - k) (c - k)]) (by simp [results, Try.results30, go_sem]) rfl ?_
        exact fin.out _ _ (below_drewN HB.out _) (.inr ⟨g, o, rfl, rfl⟩)
  | false =>
    by_cases hkn : k < n
    · have hkb : decide ((k : Int) < (n : Int)) = true := by simp; omega
      obtain ⟨t, ht⟩ : ∃ t, TS[k]? = some t := ⟨_, List.getElem?_eq_getElem (by have := H.out.len; omega)⟩
      obtain ⟨g, o, _, _, _, _, hx, _⟩ := H.out.cell k t ht
      subst hx
      have hkc : ¬ (c = k) := by omega
      have hkn' : (k : Int) ≤ (n : Int) := by omega
      clear ht
      dsimp only
      go_wp2_with fail
      refine (nextChunk_any bp base s _ (n - k) (c - k) _ w1 hs ((H.out.below HB.out).drop hk) (by omega)).mono ?_
      rintro e w2 ⟨m, z, ok, rfl, hb2, _⟩
      have HB2 : Hid (Below w.heap.size w w2) := HB.out.trans (hb2.mono HB.out.size)
      clear hb2
      cases ok with
      | false =>
        dsimp only
        go_wp2
        refine bodyPost_ret (v := .tuple #[.slice none 0 0, .slice (some ⟨g, o, none⟩) n c]) (by simp [results, Try.results30, go_sem]) rfl ?_
        exact HN.out _ HB2.out
      | true =>
        have hkc' : (k : Int) ≤ (c : Int) := by omega
        have hnc' : (n : Int) ≤ (c : Int) := by omega
        dsimp only
        go_wp2
        go_quiet (fail)
        go_wp2
        refine bodyPost_ret (v := .tuple #[.slice (some ⟨g, o, none⟩) k c, .slice (some ⟨g, o + k * 4, none⟩) (n - k) (c - k)]) (by simp [results, Try.results30, go_sem]) rfl ?_
        exact fin.out _ _ (below_drewN HB2.out _) (.inr ⟨g, o, rfl, rfl⟩)
    · have hkb : decide ((k : Int) < (n : Int)) = false := by simp; omega
      dsimp only
      go_wp2
      refine bodyPost_ret (v := .tuple #[.slice none 0 0, .slice a n c]) (by simp [results, Try.results30, go_sem]) rfl ?_
      exact HN.out _ HB.out
end Go.Proofs.Qxb6618748a
