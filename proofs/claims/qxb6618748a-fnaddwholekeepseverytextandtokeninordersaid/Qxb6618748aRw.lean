/-
  Tokens as they come in, and the gate zzBytes.
-/
import Derived.Test.Qxb6618748aTm
namespace Go.Proofs.Qxb6618748a
open Go.RowKit

/-- A slice of ints in blocks of Q, and what it holds. -/
structure IntsR (Q : Nat → Prop) (w : World) (a : Option Addr) (I : List Int) : Prop where
  nil : a = none → I = []
  cell : ∀ (i : Nat) x, I[i]? = some x → -9223372036854775808 ≤ x ∧ x ≤ 9223372036854775807 ∧ ∃ g o, a = some ⟨g, o, none⟩ ∧ Q g ∧ w.cell? ⟨g, o + i, none⟩ = some (.int .i64 x)
structure TxR (Q : Nat → Prop) (w : World) (g o : Nat) (x : Tx) (a : Option Addr) (c : Nat) : Prop where
  q : Q g
  c0 : w.cell? ⟨g, o, none⟩ = some (.string x.s)
  c1 : w.cell? ⟨g, o + 1, none⟩ = some (.float .f64 x.f)
  c2 : w.cell? ⟨g, o + 2, none⟩ = some (.slice a x.I.length c)
  bn : a.isNone = x.bn
  ints : IntsR Q w a x.I
  f64 : x.f < 18446744073709551616
structure CandsR (Q : Nat → Prop) (w : World) (ca : Option Addr) (C : List Tx) : Prop where
  nil : ca = none → C = []
  cell : ∀ (i : Nat) x, C[i]? = some x → ∃ g o a c, ca = some ⟨g, o, none⟩ ∧ TxR Q w g (o + i * 3) x a c
structure TkR (Q : Nat → Prop) (w : World) (g o : Nat) (t : Tk) (a : Option Addr) (c : Nat) (ca : Option Addr) (cc : Nat) : Prop where
  tx : TxR Q w g o t.x a c
  c3 : w.cell? ⟨g, o + 3, none⟩ = some (.slice ca t.C.length cc)
  cn : ca.isNone = t.cn
  cands : CandsR Q w ca t.C
structure ToksR (Q : Nat → Prop) (w : World) (a : Option Addr) (n c : Nat) (TS : List Tk) : Prop where
  len : n = TS.length
  cap : n ≤ c
  cm : c ≤ maxLen
  nil : a = none → c = 0
  spot : ∀ x, a = some x → x.spot = none
  cell : ∀ (i : Nat) t, TS[i]? = some t → ∃ g o a' c' ca cc, a = some ⟨g, o, none⟩ ∧ TkR Q w g (o + i * 4) t a' c' ca cc
/-- Blocks of Q stay, and Q widens to P. -/
def Keeps (Q P : Nat → Prop) (w w' : World) : Prop := ∀ b, Q b → P b ∧ ∀ c, w.heap[b]? = some c → w'.heap[b]? = some c
theorem Keeps.cell {Q P : Nat → Prop} {w w' : World} (h : Keeps Q P w w') {p : Addr} {v : Value} (hq : Q p.block) (hc : w.cell? p = some v) : w'.cell? p = some v := by
  have hlt := cell_lt hc
  have e : w.heap[p.block]? = some w.heap[p.block] := Array.getElem?_eq_getElem hlt
  rw [World.cell?_of_block (w := w) ((h _ hq).2 _ e |>.trans e.symm)]
  exact hc
theorem IntsR.keep {Q P : Nat → Prop} {w w' : World} {a : Option Addr} {I : List Int} (h : IntsR Q w a I) (k : Keeps Q P w w') : IntsR P w' a I :=
  ⟨h.nil, fun i x hx => let ⟨h1, h2, g, o, h3, h4, h5⟩ := h.cell i x hx; ⟨h1, h2, g, o, h3, (k g h4).1, k.cell h4 h5⟩⟩
theorem TxR.keep {Q P : Nat → Prop} {w w' : World} {g o : Nat} {x : Tx} {a : Option Addr} {c : Nat} (h : TxR Q w g o x a c) (k : Keeps Q P w w') : TxR P w' g o x a c :=
  ⟨(k _ h.q).1, k.cell h.q h.c0, k.cell h.q h.c1, k.cell h.q h.c2, h.bn, h.ints.keep k, h.f64⟩
theorem CandsR.keep {Q P : Nat → Prop} {w w' : World} {ca : Option Addr} {C : List Tx} (h : CandsR Q w ca C) (k : Keeps Q P w w') : CandsR P w' ca C :=
  ⟨h.nil, fun i x hx => let ⟨g, o, a, c, h1, h2⟩ := h.cell i x hx; ⟨g, o, a, c, h1, h2.keep k⟩⟩
theorem TkR.keep {Q P : Nat → Prop} {w w' : World} {g o : Nat} {t : Tk} {a : Option Addr} {c : Nat} {ca : Option Addr} {cc : Nat} (h : TkR Q w g o t a c ca cc) (k : Keeps Q P w w') : TkR P w' g o t a c ca cc :=
  ⟨h.tx.keep k, k.cell h.tx.q h.c3, h.cn, h.cands.keep k⟩
theorem ToksR.keep {Q P : Nat → Prop} {w w' : World} {a : Option Addr} {n c : Nat} {TS : List Tk} (h : ToksR Q w a n c TS) (k : Keeps Q P w w') : ToksR P w' a n c TS :=
  ⟨h.len, h.cap, h.cm, h.nil, h.spot, fun i t ht => let ⟨g, o, a', c', ca, cc, h1, h2⟩ := h.cell i t ht; ⟨g, o, a', c', ca, cc, h1, h2.keep k⟩⟩

def csz (x : Tx) : Nat := x.s.size + x.I.length
def tsz (t : Tk) : Nat := t.x.s.size + t.x.I.length + t.C.length + (t.C.map csz).sum
theorem sum_take_succ {α : Type} (f : α → Nat) {L : List α} {i : Nat} {x : α} (h : L[i]? = some x) : ((L.take (i + 1)).map f).sum = ((L.take i).map f).sum + f x := by
  rw [List.take_add_one, h]; simp

theorem mem_sum {α : Type} (f : α → Nat) {L : List α} {i : Nat} {x : α} (h : L[i]? = some x) : f x ≤ (L.map f).sum := by
  induction L generalizing i with
  | nil => simp at h
  | cons y L ih =>
    cases i with
    | zero => simp at h; subst h; simp
    | succ i => have := ih (i := i) (by simpa using h); simp only [List.map_cons, List.sum_cons]; omega
/-- The bounds that the gate gives. -/
structure Small (B : Nat) (TS : List Tk) : Prop where
  le : TS.length + (TS.map tsz).sum ≤ B
theorem IntsR.at' {Q : Nat → Prop} {bp base : Nat} {w : World} {a : Option Addr} {I : List Int} (h : IntsR Q w a I) (hQ : ∀ b, Q b → b < base ∧ b ≠ bp) (hl : I.length ≤ 1048576) : IntsAt bp base w a I :=
  ⟨h.nil, hl, fun i x hx => let ⟨h1, h2, g, o, h3, h4, h5⟩ := h.cell i x hx; ⟨h1, h2, g, o, h3, (hQ g h4).1, (hQ g h4).2, h5⟩⟩
theorem TxR.at' {Q : Nat → Prop} {bp base : Nat} {w : World} {g o : Nat} {x : Tx} {a : Option Addr} {c : Nat} (h : TxR Q w g o x a c) (hQ : ∀ b, Q b → b < base ∧ b ≠ bp) (hl : csz x ≤ 1048576) : TxAt bp base w g o x a c :=
  have e : csz x = x.s.size + x.I.length := rfl
  ⟨(hQ _ h.q).1, (hQ _ h.q).2, h.c0, h.c1, h.c2, h.bn, h.ints.at' hQ (by omega), by omega, h.f64⟩
theorem CandsR.at' {Q : Nat → Prop} {bp base : Nat} {w : World} {ca : Option Addr} {C : List Tx} (h : CandsR Q w ca C) (hQ : ∀ b, Q b → b < base ∧ b ≠ bp) (hl : C.length + (C.map csz).sum ≤ 1048576) : CandsAt bp base w ca C :=
  ⟨h.nil, by omega, fun i x hx => let ⟨g, o, a, c, h1, h2⟩ := h.cell i x hx; ⟨g, o, a, c, h1, h2.at' hQ (by have := mem_sum csz hx; omega)⟩⟩
theorem TkR.at' {Q : Nat → Prop} {bp base : Nat} {w : World} {g o : Nat} {t : Tk} {a : Option Addr} {c : Nat} {ca : Option Addr} {cc : Nat} (h : TkR Q w g o t a c ca cc) (hQ : ∀ b, Q b → b < base ∧ b ≠ bp) (hl : tsz t ≤ 1048576) : TkAt bp base w g o t a c ca cc :=
  have e : tsz t = t.x.s.size + t.x.I.length + t.C.length + (t.C.map csz).sum := rfl
  have e2 : csz t.x = t.x.s.size + t.x.I.length := rfl
  ⟨h.tx.at' hQ (by omega), h.c3, h.cn, h.cands.at' hQ (by omega)⟩
theorem ToksR.at' {Q : Nat → Prop} {bp base : Nat} {w : World} {a : Option Addr} {n c : Nat} {TS : List Tk} (h : ToksR Q w a n c TS) (hQ : ∀ b, Q b → b < base ∧ b ≠ bp) (hs : Small 1048576 TS) : ToksAt bp base w a n c TS :=
  ⟨h.len, by have := hs.le; have := h.len; omega, h.cap, h.cm, h.nil, h.spot, fun i t ht => let ⟨g, o, a', c', ca, cc, h1, h2⟩ := h.cell i t ht; ⟨g, o, a', c', ca, cc, h1, h2.at' hQ (by have := mem_sum tsz ht; have := hs.le; omega)⟩⟩

/-- The gate's answer. -/
def GateOk (r c : ByteArray) (TS : List Tk) (w : World) (e : Ending) (w' : World) : Prop := ∃ b, e = .returned (.bool b) ∧ w' = w ∧ (b = true → r.size + c.size + TS.length + (TS.map tsz).sum ≤ 1048576)

set_option maxRecDepth 100000 in
set_option maxHeartbeats 2000000 in
theorem zzBytes12 (r c : ByteArray) (a : Option Addr) (n tc : Nat) (TS : List Tk) (Q : Nat → Prop) (w : World) (h : ToksR Q w a n tc TS) :
    Calls Try.prog 12 #[.string r, .string c, .slice a n tc] w (GateOk r c TS w) := by
  have H : Hid (ToksR Q w a n tc TS) := h
  clear h
  have no : Hid (GateOk r c TS w (.returned (.bool false)) w) := ⟨false, rfl, rfl, fun h => by (cases h)⟩
  by_cases h1 : (r.size : Int) ≤ 1048576
  case neg =>
    go_enter Try.func12, Try.ntmps12
    go_wp2
    go_ret
    exact no.out
  by_cases h2 : (c.size : Int) ≤ 1048576
  case neg =>
    go_enter Try.func12, Try.ntmps12
    go_wp2
    all_goals (go_ret; exact no.out)
  by_cases h3 : (n : Int) ≤ 1048576
  case neg =>
    go_enter Try.func12, Try.ntmps12
    go_wp2
    all_goals (go_ret; exact no.out)
  by_cases h4 : (r.size : Int) + (c.size : Int) ≤ 1048576
  case neg =>
    go_enter Try.func12, Try.ntmps12
    go_wp2
    all_goals (go_ret; exact no.out)
  by_cases h5 : (r.size : Int) + (c.size : Int) + (n : Int) ≤ 1048576
  case neg =>
    go_enter Try.func12, Try.ntmps12
    go_wp2
    all_goals (go_ret; exact no.out)
  go_enter Try.func12, Try.ntmps12
  go_wp2_with fail
  go_loopg [7, 8] n (fun gk zv iv wr => ∃ (i z : Nat), gk = n - i ∧ i ≤ n ∧ zv = .int .i64 (z : Int) ∧ iv = .int .i64 (i : Int) ∧ wr = w ∧ z ≤ 1048576 ∧ Hid (z = r.size + c.size + n + ((TS.take i).map tsz).sum))
  case atStart => exact ⟨0, r.size + c.size + n, by omega, by omega, by go_num, rfl, rfl, by omega, by show _ = _; simp⟩
  case round =>
    obtain ⟨i, z, hgk, hi, rfl, rfl, rfl, hz, HZ⟩ := hrel
    by_cases hlt : i < n
    · obtain ⟨t, ht⟩ : ∃ t, TS[i]? = some t := ⟨_, List.getElem?_eq_getElem (by have := H.out.len; omega)⟩
      obtain ⟨g, o, a', c', ca, cc, hx, hT⟩ := H.out.cell i t ht
      subst hx
      have hltb : decide ((i : Int) < (n : Int)) = true := by simp; omega
      have hlt' : (i : Int) < (n : Int) := by omega
      have k0 := hT.tx.c0
      have k2 := hT.tx.c2
      have k3 := hT.c3
      have HC : Hid (CandsR Q wr ca t.C ∧ TS[i]? = some t) := ⟨hT.cands, ht⟩
      clear hT ht
      by_cases g1 : (t.x.s.size : Int) ≤ 1048576
      case neg =>
        go_wp2
        all_goals (go_ret; exact no.out)
      by_cases g2 : (z : Int) + (t.x.s.size : Int) ≤ 1048576
      case neg =>
        go_wp2
        all_goals (go_ret; exact no.out)
      by_cases g3 : (t.x.I.length : Int) ≤ 1048576
      case neg =>
        go_wp2
        all_goals (go_ret; exact no.out)
      by_cases g4 : (z : Int) + (t.x.s.size : Int) + (t.x.I.length : Int) ≤ 1048576
      case neg =>
        go_wp2
        all_goals (go_ret; exact no.out)
      by_cases g5 : (t.C.length : Int) ≤ 1048576
      case neg =>
        go_wp2
        all_goals (go_ret; exact no.out)
      by_cases g6 : (z : Int) + (t.x.s.size : Int) + (t.x.I.length : Int) + (t.C.length : Int) ≤ 1048576
      case neg =>
        go_wp2
        all_goals (go_ret; exact no.out)
      go_wp2_with fail
      clear hltb
      go_loopg [7, 9] t.C.length (fun gk zv iv wr2 => ∃ (j z2 : Nat), gk = t.C.length - j ∧ j ≤ t.C.length ∧ zv = .int .i64 (z2 : Int) ∧ iv = .int .i64 (j : Int) ∧ wr2 = wr ∧ z2 ≤ 1048576 ∧ Hid (z2 = z + t.x.s.size + t.x.I.length + t.C.length + ((t.C.take j).map csz).sum))
      case atStart => exact ⟨0, z + t.x.s.size + t.x.I.length + t.C.length, by omega, by omega, by go_num, rfl, rfl, by omega, by show _ = _; simp⟩
      case round =>
        obtain ⟨j, z2, hgk2, hj, rfl, rfl, rfl, hz2, HZ2⟩ := hrel
        by_cases hjt : j < t.C.length
        · obtain ⟨x, hx⟩ : ∃ x, t.C[j]? = some x := ⟨_, List.getElem?_eq_getElem hjt⟩
          obtain ⟨cg, co, xa, xc, hca, hX⟩ := HC.out.1.cell j x hx
          subst hca
          have hjtb : decide ((j : Int) < (t.C.length : Int)) = true := by simp; omega
          have hjt' : (j : Int) < (t.C.length : Int) := by omega
          have q0 := hX.c0
          have q2 := hX.c2
          have HX : Hid (t.C[j]? = some x) := hx
          clear hX hx
          by_cases e1 : (x.s.size : Int) ≤ 1048576
          case neg =>
            go_wp2
            all_goals (go_ret; exact no.out)
          by_cases e2 : (z2 : Int) + (x.s.size : Int) ≤ 1048576
          case neg =>
            go_wp2
            all_goals (go_ret; exact no.out)
          by_cases e3 : (x.I.length : Int) ≤ 1048576
          case neg =>
            go_wp2
            all_goals (go_ret; exact no.out)
          by_cases e4 : (z2 : Int) + (x.s.size : Int) + (x.I.length : Int) ≤ 1048576
          case neg =>
            go_wp2
            all_goals (go_ret; exact no.out)
          go_wp2
          clear hjtb
          go_roundg (t.C.length - (j + 1))
          case measure => omega
          case rel => exact ⟨j + 1, z2 + x.s.size + x.I.length, rfl, by omega, by go_num, by go_num, rfl, by omega, by show _ = _; rw [sum_take_succ csz HX.out, HZ2.out]; have h3 : csz x = x.s.size + x.I.length := rfl; omega⟩
        · have hjtb : decide ((j : Int) < (t.C.length : Int)) = false := by simp; omega
          go_wp2
          clear hjtb
          go_roundg (n - (i + 1))
          case measure => omega
          case rel =>
            refine ⟨i + 1, z2, rfl, by omega, rfl, by go_num, rfl, by omega, ?_⟩
            have h1 := HZ2.out
            rw [List.take_of_length_le (by omega)] at h1
            show _ = _
            rw [sum_take_succ tsz HC.out.2]
            have h2 := HZ.out
            have h3 : tsz t = t.x.s.size + t.x.I.length + t.C.length + (t.C.map csz).sum := rfl
            omega
    · have hltb : decide ((i : Int) < (n : Int)) = false := by simp; omega
      go_wp2
      go_ret
      refine ⟨true, rfl, rfl, fun _ => ?_⟩
      have h1 := HZ.out
      rw [List.take_of_length_le (by have := H.out.len; omega)] at h1
      have := H.out.len
      omega
end Go.Proofs.Qxb6618748a
