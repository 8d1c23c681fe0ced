/-
  Tokens in memory; HasPrefix, CutPrefix, RuneStart, TextsMakeUp.
-/
import Derived.Test.Qxb6618748aEu
namespace Go.Proofs.Qxb6618748a
open Go.RowKit

/-- A token: its text, whether its candidates are given, its candidates. -/
structure Tk where
  x : Tx
  cn : Bool
  C : List Tx
def Tk.enc (t : Tk) : List UInt8 := encTok t.x t.cn t.C
structure TkAt (bp base : Nat) (w : World) (g o : Nat) (t : Tk) (a : Option Addr) (c : Nat) (ca : Option Addr) (cc : Nat) : Prop where
  tx : TxAt bp base w g o t.x a c
  c3 : w.cell? ⟨g, o + 3, none⟩ = some (.slice ca t.C.length cc)
  cn : ca.isNone = t.cn
  cands : CandsAt bp base w ca t.C
theorem TkAt.ap {b : Bool} {bp base : Nat} {w w' : World} {g o : Nat} {t : Tk} {a : Option Addr} {c : Nat} {ca : Option Addr} {cc : Nat} (h : TkAt bp base w g o t a c ca cc) (hb : Ap b bp base w w') : TkAt bp base w' g o t a c ca cc :=
  ⟨h.tx.ap hb, hb.cell h.tx.lt h.tx.ne h.c3, h.cn, h.cands.ap hb⟩
structure ToksAt (bp base : Nat) (w : World) (a : Option Addr) (n c : Nat) (TS : List Tk) : Prop where
  len : n = TS.length
  le : n ≤ 1048576
  cap : n ≤ c
  cm : c ≤ maxLen
  nil : a = none → c = 0
  spot : ∀ x, a = some x → x.spot = none
  cell : ∀ (i : Nat) t, TS[i]? = some t → ∃ g o a' c' ca cc, a = some ⟨g, o, none⟩ ∧ TkAt bp base w g (o + i * 4) t a' c' ca cc
theorem ToksAt.ap {b : Bool} {bp base : Nat} {w w' : World} {a : Option Addr} {n c : Nat} {TS : List Tk} (h : ToksAt bp base w a n c TS) (hb : Ap b bp base w w') : ToksAt bp base w' a n c TS :=
  ⟨h.len, h.le, h.cap, h.cm, h.nil, h.spot, fun i t ht => let ⟨g, o, a', c', ca, cc, h1, h2⟩ := h.cell i t ht; ⟨g, o, a', c', ca, cc, h1, h2.ap hb⟩⟩
theorem ToksAt.below {bp base : Nat} {w w' : World} {a : Option Addr} {n c : Nat} {TS : List Tk} (h : ToksAt bp base w a n c TS) (hb : Below w.heap.size w w') : ToksAt bp base w' a n c TS := h.ap (b := false) (.of_below hb)
/-- The texts of tokens, joined. -/
def cat (TS : List Tk) : List UInt8 := TS.flatMap fun t => t.x.s.data.toList
theorem cat_append (A B : List Tk) : cat (A ++ B) = cat A ++ cat B := by unfold cat; rw [List.flatMap_append]

theorem extract_list (s : ByteArray) (i j : Nat) : (s.extract i j).data.toList = (s.data.toList.drop i).take (j - i) := by
  rw [ByteArray.data_extract, Array.toList_extract, List.extract_eq_take_drop]
theorem split_list {s p : ByteArray} (h2 : s.extract 0 p.size = p) : s.data.toList = p.data.toList ++ (s.extract p.size s.size).data.toList := by
  have e1 := extract_list s 0 p.size
  rw [h2, List.drop_zero, Nat.sub_zero] at e1
  have e2 : (s.data.toList.drop p.size).take (s.size - p.size) = s.data.toList.drop p.size := List.take_of_length_le (by rw [List.length_drop, size_list]; exact Nat.le_refl _)
  rw [extract_list, e2, e1, List.take_append_drop]

def PreOk (s p : ByteArray) (w : World) (e : Ending) (w' : World) : Prop := ∃ b, e = .returned (.bool b) ∧ w' = w ∧ (b = true → p.size ≤ s.size ∧ s.extract 0 p.size = p)
set_option maxRecDepth 100000 in
theorem hasPrefix54 (s p : ByteArray) (w : World) : Calls Try.prog 54 #[.string s, .string p] w (PreOk s p w) := by
  by_cases h : (p.size : Int) ≤ (s.size : Int)
  · have hb : decide ((p.size : Int) ≤ (s.size : Int)) = true := by simp; omega
    go_enter Try.func54, Try.ntmps54
    go_wp2
    go_ret
    exact ⟨_, rfl, rfl, fun hb => ⟨by omega, by rw [str_eq] at hb; exact of_decide_eq_true hb⟩⟩
  · have hb : decide ((p.size : Int) ≤ (s.size : Int)) = false := by simp; omega
    go_enter Try.func54, Try.ntmps54
    go_wp2
    go_ret
    exact ⟨false, rfl, rfl, fun h => by cases h⟩
set_option maxRecDepth 100000 in
theorem hasPrefix49 (s p : ByteArray) (w : World) : Calls Try.prog 49 #[.string s, .string p] w (PreOk s p w) := by
  go_enter Try.func49, Try.ntmps49
  go_wp2_with fail
  refine (hasPrefix54 s p w).mono ?_
  rintro e w' ⟨b, rfl, rfl, hb⟩
  go_wp2
  go_ret
  exact ⟨b, rfl, rfl, hb⟩
def CutOk (s p : ByteArray) (w : World) (e : Ending) (w' : World) : Prop := ∃ r b, e = .returned (.tuple #[.string r, .bool b]) ∧ w' = w ∧ (b = true → s.data.toList = p.data.toList ++ r.data.toList)
set_option maxRecDepth 100000 in
theorem cutPrefix55 (s p : ByteArray) (w : World) : Calls Try.prog 55 #[.string s, .string p] w (CutOk s p w) := by
  go_enter Try.func55, Try.ntmps55
  go_wp2_with fail
  refine (hasPrefix54 s p w).mono ?_
  rintro e w' ⟨b, rfl, rfl, hb⟩
  cases b with
  | false =>
    go_wp2
    refine bodyPost_ret (v := .tuple #[.string s, .bool false]) (by simp [results, Try.results55, go_sem]) rfl ?_
    exact ⟨s, false, rfl, rfl, fun h => by cases h⟩
  | true =>
    obtain ⟨h1, h2⟩ := hb rfl
    have h3 : (p.size : Int) ≤ s.size := by omega
    have HE : Hid (s.data.toList = p.data.toList ++ (s.extract p.size s.size).data.toList) := split_list h2
    clear hb h2
    go_wp2
    refine bodyPost_ret (v := .tuple #[.string (s.extract p.size s.size), .bool true]) (by simp [results, Try.results55, go_sem]) rfl ?_
    exact ⟨_, true, rfl, rfl, fun _ => HE.out⟩
set_option maxRecDepth 100000 in
theorem cutPrefix51 (s p : ByteArray) (w : World) : Calls Try.prog 51 #[.string s, .string p] w (CutOk s p w) := by
  go_enter Try.func51, Try.ntmps51
  go_wp2_with fail
  refine (cutPrefix55 s p w).mono ?_
  rintro e w' ⟨r, b, rfl, rfl, hb⟩
  dsimp only
  go_wp2
  refine bodyPost_ret (v := .tuple #[.string r, .bool b]) (by simp [results, Try.results51, go_sem]) rfl ?_
  exact ⟨r, b, rfl, rfl, hb⟩
set_option maxRecDepth 100000 in
theorem runeStart_any (b : Int) (w : World) : Calls Try.prog 50 #[.int .u8 b] w fun e w' => ∃ r, e = .returned (.bool r) ∧ w' = w := by
  go_enter Try.func50, Try.ntmps50
  go_wp2
  go_ret
  exact ⟨_, rfl, rfl⟩

/-- An answer that, where it is yes, says that the texts make up s. -/
def MakeUp (s : ByteArray) (TS : List Tk) (w : World) (e : Ending) (w' : World) : Prop := ∃ b, e = .returned (.bool b) ∧ Below w.heap.size w w' ∧ (b = true → s.data.toList = cat TS)
set_option maxRecDepth 100000 in
set_option maxHeartbeats 1000000 in
theorem textsMakeUp_any (bp base : Nat) (a : Option Addr) (n c : Nat) (TS : List Tk) (s : ByteArray) (w : World) (h : ToksAt bp base w a n c TS) :
    Calls Try.prog 44 #[.slice a n c, .string s] w (MakeUp s TS w) := by
  have H : Hid (ToksAt bp base w a n c TS) := h
  have hle := h.le
  clear h
  go_enter Try.func44, Try.ntmps44
  go_wp2
  go_loopg [1, 11] n (fun gk sv iv wr => ∃ (i : Nat) (r : ByteArray), gk = n - i ∧ i ≤ n ∧ sv = .string r ∧ iv = .int .i64 (i : Int) ∧ Hid (Below w.heap.size w wr ∧ s.data.toList = cat (TS.take i) ++ r.data.toList))
  case atStart => exact ⟨0, s, by omega, by omega, rfl, rfl, Below.refl _ _, by simp [cat]⟩
  case round =>
    obtain ⟨i, r, hgk, hi, rfl, rfl, HR⟩ := hrel
    by_cases hlt : i < n
    · obtain ⟨t, ht⟩ : ∃ t, TS[i]? = some t := ⟨_, List.getElem?_eq_getElem (by have := H.out.len; omega)⟩
      obtain ⟨g, o, a', c', ca, cc, hx, hT⟩ := (H.out.below HR.out.1).cell i t ht
      subst hx
      have hltb : decide ((i : Int) < (n : Int)) = true := by simp; omega
      have hlt' : (i : Int) < (n : Int) := by omega
      have k0 := hT.tx.c0
      have k1 := hT.tx.c1
      have k2 := hT.tx.c2
      have k3 := hT.c3
      have hgl : g < wr.heap.size := cell_lt k0
      have HT : Hid (TS[i]? = some t) := ht
      clear hT ht
      go_wp2_with fail
      refine (cutPrefix51 r t.x.s _).mono ?_
      rintro e w1 ⟨r', b, rfl, rfl, hb⟩
      have HB : Hid (b = true → r.data.toList = t.x.s.data.toList ++ r'.data.toList) := hb
      have HW : Hid (Below w.heap.size w (wr.alloc (.cells #[.string t.x.s, .float .f64 t.x.f, .slice a' t.x.I.length c', .slice ca t.C.length cc] 31))) := HR.out.1.alloc HR.out.1.size _
      clear hb k0 k1 k2 k3 hgl
      dsimp only
      cases b with
      | false =>
        go_wp2
        go_ret
        exact ⟨false, rfl, HW.out, fun h => by cases h⟩
      | true =>
        go_wp2
        go_roundg (n - (i + 1))
        case measure => omega
        case rel => exact ⟨i + 1, r', rfl, by omega, rfl, by go_num, HW.out, by rw [HR.out.2, HB.out (by trivial), List.take_add_one, HT.out, cat_append]; simp [cat]⟩
    · have hltb : decide ((i : Int) < (n : Int)) = false := by simp; omega
      obtain rfl : i = n := by omega
      go_wp2
      go_ret
      refine ⟨_, rfl, HR.out.1, fun hb => ?_⟩
      have hr : r.data.toList = [] := by
        have := hb
        rw [ByteArray.toList_eq] at this
        exact List.isEmpty_iff.1 this
      have := HR.out.2
      rw [hr, List.append_nil, List.take_of_length_le (by have := H.out.len; omega)] at this
      exact this
end Go.Proofs.Qxb6618748a
