/-
  form, nextChunk, madeUp, SplitTokens: what they may answer.
-/
import Derived.Test.Qxb6618748aTm
namespace Go.Proofs.Qxb6618748a
open Go.RowKit

def FormOk (r c : ByteArray) (TS : List Tk) (w : World) (e : Ending) (w' : World) : Prop := ∃ f : Nat, e = .returned (.int .u64 (f : Int)) ∧ Below w.heap.size w w' ∧ f < 3 ∧ (f = 0 → r.data.toList = [] ∧ c.data.toList = cat TS) ∧ (f = 1 → c.data.toList = [] ∧ r.data.toList = cat TS)
theorem isEmpty_list {r : ByteArray} (h : r.toList.isEmpty = true) : r.data.toList = [] := by
  rw [ByteArray.toList_eq] at h
  exact List.isEmpty_iff.1 h

set_option maxRecDepth 100000 in
set_option maxHeartbeats 1000000 in
theorem form_any (bp base : Nat) (r c : ByteArray) (a : Option Addr) (n tc : Nat) (TS : List Tk) (w : World) (h : ToksAt bp base w a n tc TS) :
    Calls Try.prog 35 #[.agg #[.string r, .string c, .slice a n tc]] w (FormOk r c TS w) := by
  have H : Hid (ToksAt bp base w a n tc TS) := h
  clear h
  have HB : Hid (Below w.heap.size w (w.alloc (.cells #[.string r, .string c, .slice a n tc] 46)) ∧ (w.alloc (.cells #[.string r, .string c, .slice a n tc] 46)).heap[w.heap.size]? = some (.cells #[.string r, .string c, .slice a n tc] 46)) := ⟨(Below.refl _ _).alloc (Nat.le_refl _) _, Deep.blk_alloc_new _ _⟩
  cases hr : r.toList.isEmpty with
  | false =>
    cases hc : c.toList.isEmpty with
    | false =>
      go_enter Try.func35, Try.ntmps35
      go_wp2
      go_ret
      exact ⟨2, rfl, HB.out.1, by decide, (by intro h; cases h), (by intro h; cases h)⟩
    | true =>
      have HC := isEmpty_list hc
      go_enter Try.func35, Try.ntmps35
      go_wp2_with fail
      refine (textsMakeUp_any bp base a n tc TS r _ (H.out.below HB.out.1)).mono ?_
      rintro e w1 ⟨b, rfl, hb1, hbb⟩
      cases b with
      | false =>
        dsimp only
        go_wp2
        go_ret
        exact ⟨2, rfl, HB.out.1.trans (hb1.mono (by simp)), by decide, (by intro h; cases h), (by intro h; cases h)⟩
      | true =>
        have HQ : Hid (r.data.toList = cat TS) := hbb rfl
        clear hbb
        dsimp only
        go_wp2
        go_ret
        exact ⟨1, rfl, HB.out.1.trans (hb1.mono (by simp)), by decide, (by intro h; cases h), fun _ => ⟨HC, HQ.out⟩⟩
  | true =>
    have HR := isEmpty_list hr
    go_enter Try.func35, Try.ntmps35
    go_wp2_with fail
    refine (textsMakeUp_any bp base a n tc TS c _ (H.out.below HB.out.1)).mono ?_
    rintro e w1 ⟨b, rfl, hb1, hbb⟩
    cases b with
    | true =>
      have HQ : Hid (c.data.toList = cat TS) := hbb rfl
      clear hbb
      dsimp only
      go_wp2
      go_ret
      exact ⟨0, rfl, HB.out.1.trans (hb1.mono (by simp)), by decide, fun _ => ⟨HR, HQ.out⟩, (by intro h; cases h)⟩
    | false =>
      have hk : w1.heap[w.heap.size]? = some (.cells #[.string r, .string c, .slice a n tc] 46) := (hb1.block _ (by simp)).trans HB.out.2
      have q0 : w1.cell? ⟨w.heap.size, 0, none⟩ = some (.string r) := cell_atB hk rfl
      have q1 : w1.cell? ⟨w.heap.size, 1, none⟩ = some (.string c) := cell_atB hk rfl
      have q2 : w1.cell? ⟨w.heap.size, 2, none⟩ = some (.slice a n tc) := cell_atB hk rfl
      have HB1 : Hid (Below w.heap.size w w1) := HB.out.1.trans (hb1.mono (by simp))
      clear hb1 hbb hk
      cases hc : c.toList.isEmpty with
      | false =>
        dsimp only
        go_wp2
        go_ret
        exact ⟨2, rfl, HB1.out, by decide, (by intro h; cases h), (by intro h; cases h)⟩
      | true =>
        have HC := isEmpty_list hc
        dsimp only
        go_wp2_with fail
        refine (textsMakeUp_any bp base a n tc TS r w1 (H.out.below HB1.out)).mono ?_
        rintro e w2 ⟨b, rfl, hb2, hbb⟩
        cases b with
        | false =>
          dsimp only
          go_wp2
          go_ret
          exact ⟨2, rfl, HB1.out.trans (hb2.mono HB1.out.size), by decide, (by intro h; cases h), (by intro h; cases h)⟩
        | true =>
          have HQ : Hid (r.data.toList = cat TS) := hbb rfl
          clear hbb
          dsimp only
          go_wp2
          go_ret
          exact ⟨1, rfl, HB1.out.trans (hb2.mono HB1.out.size), by decide, (by intro h; cases h), fun _ => ⟨HC, HQ.out⟩⟩

/-- A chunk that nextChunk may find. -/
def NextOk (s : ByteArray) (n : Nat) (w : World) (e : Ending) (w' : World) : Prop := ∃ (k z : Nat) (ok : Bool), e = .returned (.tuple #[.int .i64 (k : Int), .int .i64 (z : Int), .bool ok]) ∧ Below w.heap.size w w' ∧ (ok = true → 1 ≤ k ∧ k ≤ n ∧ z ≤ s.size)

set_option maxRecDepth 100000 in
set_option maxHeartbeats 1000000 in
theorem nextChunk_any (bp base : Nat) (s : ByteArray) (a : Option Addr) (n c : Nat) (TS : List Tk) (w : World) (hs : s.size ≤ 1048576) (h : ToksAt bp base w a n c TS) (hn : 0 < n) :
    Calls Try.prog 39 #[.string s, .slice a n c] w (NextOk s n w) := by
  have hnl := Try.nil23
  have H : Hid (ToksAt bp base w a n c TS) := h
  have hle := h.le
  clear h
  obtain ⟨t0, ht0⟩ : ∃ t, TS[0]? = some t := ⟨_, List.getElem?_eq_getElem (by have := H.out.len; omega)⟩
  obtain ⟨g, o, a0, c0, ca0, cc0, hx, hT0⟩ := H.out.cell 0 t0 ht0
  subst hx
  have k0 : w.cell? ⟨g, o, none⟩ = some (.string t0.x.s) := by simpa using hT0.tx.c0
  have hn' : (0 : Int) < (n : Int) := by omega
  clear hT0 ht0
  go_enter Try.func39, Try.ntmps39
  go_wp2_with fail
  refine (hasPrefix49 s t0.x.s w).mono ?_
  rintro e w1 ⟨b, rfl, rfl, hb⟩
  cases b with
  | true =>
    have hsz : t0.x.s.size ≤ s.size := (hb rfl).1
    clear hb
    dsimp only
    go_wp2
    go_quiet (fail)
    go_wp2
    refine bodyPost_ret (v := .tuple #[.int .i64 1, .int .i64 (t0.x.s.size : Int), .bool true]) (by simp [results, Try.results39, go_sem]) rfl ?_
    exact ⟨1, _, true, rfl, below_drewN (Below.refl _ _) _, fun _ => ⟨by omega, hn, hsz⟩⟩
  | false =>
    clear hb k0
    dsimp only
    go_wp2_with fail
    go_loopg [5, 24] n (fun gk zv iv wr => ∃ (i z : Nat), gk = n - i ∧ i ≤ n ∧ zv = .int .i64 (z : Int) ∧ iv = .int .i64 (i : Int) ∧ z ≤ s.size ∧ Hid (Below w1.heap.size w1 wr))
    case atStart => exact ⟨0, 0, by omega, by omega, rfl, rfl, by omega, Below.refl _ _⟩
    case round =>
      obtain ⟨i, z, hgk, hi, rfl, rfl, hz, HR⟩ := hrel
      by_cases hlt : i < n
      · obtain ⟨t, ht⟩ : ∃ t, TS[i]? = some t := ⟨_, List.getElem?_eq_getElem (by have := H.out.len; omega)⟩
        obtain ⟨g', o', a', c', ca, cc, hx, hT⟩ := (H.out.below HR.out).cell i t ht
        cases hx
        have hltb : decide ((i : Int) < (n : Int)) = true := by simp; omega
        have hlt' : (i : Int) < (n : Int) := by omega
        have k0 := hT.tx.c0
        have k1 := hT.tx.c1
        have k2 := hT.tx.c2
        have k3 := hT.c3
        have hgl : g < wr.heap.size := cell_lt k0
        have HT : Hid (IntsAt bp base wr a' t.x.I) := hT.tx.ints
        have hIl := hT.tx.ints.le
        have HW : Hid (Below w1.heap.size w1 (wr.alloc (.cells #[.string t.x.s, .float .f64 t.x.f, .slice a' t.x.I.length c', .slice ca t.C.length cc] 31)) ∧ (wr.alloc (.cells #[.string t.x.s, .float .f64 t.x.f, .slice a' t.x.I.length c', .slice ca t.C.length cc] 31)).heap[wr.heap.size]? = some (.cells #[.string t.x.s, .float .f64 t.x.f, .slice a' t.x.I.length c', .slice ca t.C.length cc] 31)) := ⟨HR.out.alloc HR.out.size _, Deep.blk_alloc_new _ _⟩
        clear hT ht
        cases ha' : a' with
        | none =>
          subst ha'
          go_wp2
          refine bodyPost_ret (v := .tuple #[.int .i64 0, .int .i64 0, .bool false]) (by simp [results, Try.results39, go_sem]) rfl ?_
          exact ⟨0, 0, false, rfl, HW.out.1, fun h => by (cases h)⟩
        | some xb =>
          subst ha'
          go_wp2_with fail
          have HI : Hid (IntsAt bp base (wr.alloc (.cells #[.string t.x.s, .float .f64 t.x.f, .slice (some xb) t.x.I.length c', .slice ca t.C.length cc] 31)) (some xb) t.x.I) := HT.out.ap (x := false) (.of_below ((Below.refl _ _).alloc (Nat.le_refl _) _))
          clear k0 k1 k2 k3 hgl HR HT
          generalize wr.alloc (.cells #[.string t.x.s, .float .f64 t.x.f, .slice (some xb) t.x.I.length c', .slice ca t.C.length cc] 31) = W at HW HI ⊢
          generalize wr.heap.size = b8 at HW ⊢
          go_loopg [5, 35] t.x.I.length (fun gq zv jv wq => ∃ (j y : Nat), gq = t.x.I.length - j ∧ j ≤ t.x.I.length ∧ zv = .int .i64 (y : Int) ∧ jv = .int .i64 (j : Int) ∧ y ≤ s.size ∧ wq = W)
          case atStart => exact ⟨0, z, by omega, by omega, rfl, rfl, hz, rfl⟩
          case round =>
            obtain ⟨j, y, hgq, hj, rfl, rfl, hy, rfl⟩ := hrel
            by_cases hjl : j < t.x.I.length
            · obtain ⟨v, hv⟩ : ∃ v, t.x.I[j]? = some v := ⟨_, List.getElem?_eq_getElem hjl⟩
              obtain ⟨hv1, hv2, gb, ob, hxb, _, _, hcb⟩ := HI.out.cell j v hv
              cases hxb
              have hjb : decide ((j : Int) < (t.x.I.length : Int)) = true := by simp; omega
              have hjl' : (j : Int) < (t.x.I.length : Int) := by omega
              clear hv
              by_cases hys : y = s.size
              · have hyb : ((y : Int) == (s.size : Int)) = true := by simp; omega
                go_wp2
                refine bodyPost_ret (v := .tuple #[.int .i64 0, .int .i64 0, .bool false]) (by simp [results, Try.results39, go_sem]) rfl ?_
                exact ⟨0, 0, false, rfl, HW.out.1, fun h => by (cases h)⟩
              · have hyb : ((y : Int) == (s.size : Int)) = false := by simp; omega
                have hyl : (y : Int) < (s.size : Int) := by omega
                have hyn : y < s.size := by omega
                cases hq : (v != wrap64 (s[y].toNat : Int)) with
                | true =>
                  go_wp2
                  refine bodyPost_ret (v := .tuple #[.int .i64 0, .int .i64 0, .bool false]) (by simp [results, Try.results39, go_sem]) rfl ?_
                  exact ⟨0, 0, false, rfl, HW.out.1, fun h => by (cases h)⟩
                | false =>
                  go_wp2
                  go_roundg (t.x.I.length - (j + 1))
                  case measure => omega
                  case rel => exact ⟨j + 1, y + 1, rfl, by omega, by go_num, by go_num, by omega, rfl⟩
            · have hjb : decide ((j : Int) < (t.x.I.length : Int)) = false := by simp; omega
              by_cases hys : y = s.size
              · have hyb : ((y : Int) == (s.size : Int)) = true := by simp; omega
                go_wp2
                refine bodyPost_ret (v := .tuple #[.int .i64 ((i : Int) + 1), .int .i64 (y : Int), .bool true]) (by simp [results, Try.results39, go_sem]) rfl ?_
                exact ⟨i + 1, y, true, rfl, HW.out.1, fun _ => ⟨by omega, by omega, hy⟩⟩
              · have hyb : ((y : Int) == (s.size : Int)) = false := by simp; omega
                have hyl : (y : Int) < (s.size : Int) := by omega
                have hyn : y < s.size := by omega
                go_wp2_with fail
                refine (runeStart_any _ _).mono ?_
                rintro e w5 ⟨rs, rfl, rfl⟩
                cases rs with
                | true =>
                  dsimp only
                  go_wp2
                  refine bodyPost_ret (v := .tuple #[.int .i64 ((i : Int) + 1), .int .i64 (y : Int), .bool true]) (by simp [results, Try.results39, go_sem]) rfl ?_
                  exact ⟨i + 1, y, true, rfl, HW.out.1, fun _ => ⟨by omega, by omega, hy⟩⟩
                | false =>
                  dsimp only
                  go_wp2
                  go_roundg (n - (i + 1))
                  case measure => omega
                  case rel => exact ⟨i + 1, y, rfl, by omega, rfl, by go_num, hy, HW.out.1⟩
      · have hltb : decide ((i : Int) < (n : Int)) = false := by simp; omega
        go_wp2
        refine bodyPost_ret (v := .tuple #[.int .i64 0, .int .i64 0, .bool false]) (by simp [results, Try.results39, go_sem]) rfl ?_
        exact ⟨0, 0, false, rfl, HR.out, fun h => by (cases h)⟩
end Go.Proofs.Qxb6618748a
