/-
  (Field).Values and its iterator: the values of one field.
-/
import Derived.Test.Qxb6618677aFd
namespace Go.Proofs.Qxb6618677a
open Go.RowKit Go.Shelf
attribute [local go_sem] Oper.semAt_some

/-- The values at the head of a list of tokens. -/
def valsOf (X : ByteArray) (ts : List Stif.Tok) : List ByteArray := (ts.takeWhile fun t => decide (t.kind = 1)).map fun t => X.extract t.txt (t.txt + t.n)

set_option maxRecDepth 100000 in
set_option maxHeartbeats 2000000 in
theorem fval_in (l bx bt : Nat) (T X : ByteArray) (S Y : Nat → Prop) (t0 : Stif.Tok) (r0 : List Stif.Tok) (J Jx : List ByteArray → World → Prop) (w W : World)
    (hT : T.size ≤ 1048576) (hX : X.size ≤ 1048576) (hSx : S bx) (hSt : S bt) (hf : w.heap[bx]? = some (.cells #[.pointer (some ⟨bt, 0, none⟩), .int .i64 t0.tok, .int .i64 t0.txt, .int .i64 0] 78 (0, 0))) (htr : IsTree w bt T X)
    (ht0 : Stif.tokAt T t0.tok t0.txt = some t0) (hn0 : t0.txt + t0.n ≤ X.size) (hch : Stif.chain T X.size t0.next (t0.txt + t0.n) r0 T.size X.size)
    (hW : Keep S Y w W) (hJ : AbidesFrom W.heap.size J)
    (hY : ∀ pre x W1, J pre W1 → pre.length < (valsOf X r0).length → YieldAt Fence.wide 4 Try.prog l #[.string x] W1 fun e W' =>
      (e = .returned (.bool true) ∧ J (pre ++ [x]) W' ∧ Keep S Y W1 W') ∨ (e = .returned (.bool false) ∧ Jx (pre ++ [x]) W'))
    (h0 : J [] W) :
    CallsIn Fence.wide 5 Try.prog 52 #[.func (.yield l) #[] #[], .pointer (some ⟨bx, 0, none⟩)] W fun e W' => (∃ v, e = .returned v) ∧
      ((∃ ys, ys = valsOf X r0 ∧ J ys W') ∨ (∃ pre, pre <+: valsOf X r0 ∧ Jx pre W')) := by
  have hro : Fence.wide.round = none := rfl
  have hfn : ∀ f, Fence.wide.fn f := fun _ => trivial
  refine callsIn_of_wp Try.func52 rfl trivial ?_ hro
  simp only [Try.ntmps52, List.size_toArray, List.length_cons, List.length_nil, Nat.reduceAdd, Nat.reduceSub, Array.replicate_succ, Array.replicate_zero, List.push_toArray, List.append_toArray, List.nil_append, List.cons_append]
  obtain ⟨c0, c1, c2, c3⟩ := box4 ((hW.s bx hSx).trans hf)
  have htW := htr.keep hW hSt
  have ct0 := htW.c0
  have ct1 := htW.c1
  have HC : Hid (Stif.tokAt T t0.tok t0.txt = some t0 ∧ Stif.chain T X.size t0.next (t0.txt + t0.n) r0 T.size X.size ∧ Keep S Y w W ∧ J [] W ∧ IsTree w bt T X) := ⟨ht0, hch, hW, h0, htr⟩
  clear ht0 hch hW h0 htr htW
  gi_wp2
  gi_quiet ((gi_at_call 41; exact CallsIn.quiet_of_same (callsIn_wide.2 (token_tok T _ _ t0 _ hT HC.out.1))))
  gi_wp2
  have HY : Hid (∀ pre x W1, J pre W1 → pre.length < (valsOf X r0).length → YieldAt Fence.wide 4 Try.prog l #[.string x] W1 fun e W' =>
      (e = .returned (.bool true) ∧ J (pre ++ [x]) W' ∧ Keep S Y W1 W') ∨ (e = .returned (.bool false) ∧ Jx (pre ++ [x]) W')) := hY
  clear hY c0 c1 c2 c3 ct0 ct1 hfn
  gi_loopw [5, 6] (fun iv xv wr => ∃ (pre : List ByteArray) (ts : List Stif.Tok) (i x : Nat), iv = .int .i64 i ∧ xv = .int .i64 x ∧ Hid (Stif.chain T X.size i x ts T.size X.size ∧ valsOf X r0 = pre ++ valsOf X ts ∧ J pre wr ∧ Keep S Y w wr)) (fun iv _ _ => T.size - (intOf iv).toNat)
  case atStart => exact ⟨[], r0, t0.next, t0.txt + t0.n, rfl, by go_num, HC.out.2.1, rfl, abides_below hJ HC.out.2.2.2.1 (below_drewN (Below.refl _ _) _), HC.out.2.2.1.drewN _⟩
  case round =>
    obtain ⟨pre, ts, i, x, rfl, rfl, HR⟩ := hrel
    obtain ⟨rch, rv, rJ, rK⟩ := HR.out
    obtain ⟨c0, c1, c2, c3⟩ := box4 ((rK.s bx hSx).trans hf)
    have htW := HC.out.2.2.2.2.keep rK hSt
    have ct0 := htW.c0
    have ct1 := htW.c1
    clear rv rJ rK htW
    cases ts with
    | nil =>
      obtain ⟨rfl, rfl⟩ := rch
      gi_wp2
      go_end0
      exact ⟨⟨_, rfl⟩, .inl ⟨pre, by rw [HR.out.2.1]; simp [valsOf], HR.out.2.2.1⟩⟩
    | cons t r =>
      have rt := rch.1
      have rn := rch.2.1
      obtain ⟨hk3, ht1, ht2, hin, hnT, _⟩ := Stif.tokAt_some rt
      have HT : Hid (Stif.tokAt T i x = some t ∧ t.tok = i ∧ t.txt = x) := ⟨rt, ht1, ht2⟩
      clear rch rt ht1 ht2
      by_cases hk : t.kind = 1
      · have hkb : ((t.kind : Int) != 1) = false := by simp [hk]
        have HV : Hid (valsOf X r0 = pre ++ X.extract x (x + t.n) :: valsOf X r) := by
          show valsOf X r0 = _
          rw [HR.out.2.1]; simp [valsOf, hk, HT.out.2.2]
        have HK : Hid (t.kind = 1) := hk
        clear hk
        obtain ⟨fn, tmps, assign, body, hy, hR⟩ := HY.out pre (X.extract x (x + t.n)) wr HR.out.2.2.1 (by rw [HV.out]; simp)
        gi_wp2_with (first
          | (refine ⟨trivial, ?_⟩; gi_at_call 41; refine (callsIn_wide.2 (token_tok T i x t _ hT HT.out.1)).mono ?_; rintro e w' ⟨rfl, hw⟩; obtain rfl := hw.symm))
        refine hR.mono ?_
        rintro e W3 (⟨rfl, hJ3, hk3'⟩ | ⟨rfl, hJx3⟩)
        · gi_wp2
          go_roundw
          case rel => exact ⟨pre ++ [X.extract x (x + t.n)], r, t.next, x + t.n, rfl, by go_num, HR.out.1.2.2, by rw [HV.out]; simp, hJ3, HR.out.2.2.2.trans hk3'⟩
          case measure => simp [intOf]; omega
        · gi_wp2
          refine bodyPost_ret (results_none rfl _ _ _) rfl ?_
          exact ⟨⟨_, rfl⟩, .inr ⟨pre ++ [X.extract x (x + t.n)], ⟨valsOf X r, by rw [HV.out]; simp⟩, hJx3⟩⟩
      · have hkb : ((t.kind : Int) != 1) = true := by simp; omega
        have HV : Hid (valsOf X r0 = pre) := by
          show valsOf X r0 = _
          rw [HR.out.2.1]; simp [valsOf, hk]
        clear hk
        gi_wp2_with (first
          | (refine ⟨trivial, ?_⟩; gi_at_call 41; refine (callsIn_wide.2 (token_tok T i x t _ hT HT.out.1)).mono ?_; rintro e w' ⟨rfl, hw⟩; obtain rfl := hw.symm))
        all_goals first
          | (refine ⟨fun _ h => (by cases h), ?_⟩; gi_wp2)
          | skip
        refine bodyPost_ret (results_none rfl _ _ _) rfl ?_
        exact ⟨⟨_, rfl⟩, .inl ⟨pre, HV.out.symm, HR.out.2.2.1⟩⟩

theorem SeqStopsK.deep {α : Type} {m : Nat} {P : Program} {g : Nat} {lb : Array Value} {encs : α → Array Value} {Kp : World → World → Prop} {S Sp : List α → Prop} {N : Nat} {w : World} (h : SeqStopsK Fence.wide m P g lb encs Kp S Sp N w) (m' : Nat) : SeqStopsK Fence.wide m' P g lb encs Kp S Sp N w :=
  fun l J Jx W hW hJ hJx hY h0 => callsIn_wide.2 (callsIn_wide.1 (h l J Jx W hW hJ hJx (fun pre x W1 hj hl => yield_deep (hY pre x W1 hj hl)) h0))
set_option maxRecDepth 100000 in
theorem fval_stops (m bx bt : Nat) (T X : ByteArray) (S Y : Nat → Prop) (t0 : Stif.Tok) (r0 : List Stif.Tok) (w : World)
    (hT : T.size ≤ 1048576) (hX : X.size ≤ 1048576) (hSw : ∀ k, S k → k < w.heap.size) (hSx : S bx) (hSt : S bt) (hf : w.heap[bx]? = some (.cells #[.pointer (some ⟨bt, 0, none⟩), .int .i64 t0.tok, .int .i64 t0.txt, .int .i64 0] 78 (0, 0))) (htr : IsTree w bt T X)
    (ht0 : Stif.tokAt T t0.tok t0.txt = some t0) (hn0 : t0.txt + t0.n ≤ X.size) (hch : Stif.chain T X.size t0.next (t0.txt + t0.n) r0 T.size X.size) :
    SeqStopsK Fence.wide m Try.prog 52 #[.pointer (some ⟨bx, 0, none⟩)] (fun x : ByteArray => #[.string x]) (Keep S Y) (fun ys => ys = valsOf X r0) (fun pre => pre <+: valsOf X r0) (valsOf X r0).length w := by
  refine SeqStopsK.deep (m := 5) ?_ m
  intro l J Jx W hW hJ _ hY h0
  have h1 := fval_in l bx bt T X S Y t0 r0 J Jx w W hT hX hSx hSt hf htr ht0 hn0 hch (Keep.below hW hSw) hJ (fun pre x W1 hj hl => yield_deep (hY pre x W1 hj hl)) h0
  have e : (#[Value.func (.yield l) #[] #[]] ++ #[.pointer (some ⟨bx, 0, none⟩)] : Array Value) = #[.func (.yield l) #[] #[], .pointer (some ⟨bx, 0, none⟩)] := rfl
  rw [e]
  exact h1

set_option maxRecDepth 100000 in
set_option maxHeartbeats 400000 in
theorem fvalues_any (a b c d : Value) (w : World) :
    Calls Try.prog 48 #[.agg #[a, b, c, d]] w fun e w' => e = .returned (.func (.func 52) #[] #[.pointer (some ⟨w.heap.size, 0, none⟩)]) ∧ w' = w.alloc (.cells #[a, b, c, d] 78) := by
  go_enter Try.func48, Try.ntmps48
  go_wp2
  go_ret
  exact ⟨rfl, rfl⟩

end Go.Proofs.Qxb6618677a
