/-
  zzParse: the law's own parser: it hands back (nil, false), or the nodes of a whole tree's tokens.
-/
import Derived.Test.Qxb6618677aTk
import Derived.Maps.AppendAt
import Derived.Deep.LoopGhost
import Derived.WalkSmall
import Derived.Deep.CutBlock
import Derived.Deep.DeepCutAuto
import Derived.Deep.DeepMust
import Derived.RangeFuncBox
namespace Go.Proofs.Qxb6618677a
open Go.RowKit

theorem Try.info44 : (Try.prog.info? 44).map (fun i => (i.zero, i.size, i.bytes)) = some (some (.agg #[.int .i64 0, .int .i64 0, .int .i64 0, .int .i64 0, .int .i64 0, .int .i64 0, .int .i64 0, .int .i64 0]), 8, 64) := by kernel_rfl
theorem Try.info3 : (Try.prog.info? 3).map (fun i => (i.zero, i.size, i.bytes)) = some (some (.int .i64 0), 1, 8) := by kernel_rfl

def nodeCells (d : Stif.Node) : List Value := [.int .i64 d.kind, .int .i64 d.tok, .int .i64 d.next, .int .i64 d.txt, .int .i64 d.n, .int .i64 d.depth, .int .i64 d.parent, .int .i64 d.values]
def rowOf (ns : List Stif.Node) : List Value := ns.flatMap nodeCells
def opRow (op : List Nat) : List Value := op.reverse.map fun (p : Nat) => .int .i64 (p : Int)

theorem row_slice {w : World} {base : Nat} {e : TypeId} {size : Nat} {v : Value} {n : Nat} {xs : List Value} (h : w.ownsRow base e size v n xs) : ∃ ao cap, v = .slice ao n cap := by
  rcases h.2 with ⟨rfl, rfl⟩ | ⟨g, cap, cur, rfl, _⟩
  · exact ⟨none, 0, rfl⟩
  · exact ⟨some ⟨g, 0, none⟩, cap, rfl⟩

theorem opRow_top (p : Nat) (r : List Nat) : (opRow (p :: r))[r.length]? = some (.int .i64 (p : Int)) := by
  simp [opRow]
theorem row_some {w : World} {base : Nat} {e : TypeId} {size : Nat} {ao : Option Addr} {m c n : Nat} {xs : List Value} (h : w.ownsRow base e size (.slice ao m c) n xs) (hn : n ≠ 0) : ∃ g, ao = some ⟨g, 0, none⟩ ∧ n ≤ c ∧ c ≤ maxLen ∧ base ≤ g ∧ g < w.heap.size := by
  rcases h.2 with ⟨_, h0⟩ | ⟨g, cap, cur, hv, hb, hh, hnc, hcm, _⟩
  · exact absurd h0 hn
  · cases hv
    exact ⟨g, rfl, hnc, hcm, hb, (Array.getElem?_eq_some_iff.1 hh).1⟩

theorem rows_apart {w : World} {b b' : Nat} {e e' : TypeId} {s s' : Nat} {v v' : Value} {n n' : Nat} {xs xs' : List Value} (h : w.ownsRow b e s v n xs) (h' : w.ownsRow b' e' s' v' n' xs') (hne : e' ≠ e) : v'.ownBlock = none ∨ v'.ownBlock ≠ v.ownBlock := by
  rcases h'.2 with ⟨rfl, _⟩ | ⟨g', _, _, rfl, _, hh', _⟩
  · exact .inl rfl
  · rcases h.2 with ⟨rfl, _⟩ | ⟨g, _, _, rfl, _, hh, _⟩
    · exact .inr (by simp [Value.ownBlock])
    · refine .inr fun hg => ?_
      simp only [Value.ownBlock, Option.some.injEq] at hg
      subst hg
      rw [hh] at hh'
      simp only [Option.some.injEq, Obj.cells.injEq] at hh'
      exact hne hh'.2.1.symm
theorem after_app {w0 W2 w3 : World} {e e' : TypeId} {s s' : Nat} {nv ov : Value} {n n' : Nat} {xs xs' : List Value} (hnv : W2.ownsRow w0.heap.size e s nv n xs) (hov : W2.ownsRow w0.heap.size e' s' ov n' xs') (hne : e' ≠ e)
    (hbl : Below w0.heap.size w0 W2) (hg : W2.grownBy w3 nv.ownBlock) : w3.ownsRow w0.heap.size e' s' ov n' xs' ∧ Below w0.heap.size w0 w3 :=
  ⟨hov.kept hg (rows_apart hnv hov hne), Below.grown hbl hg hbl.size (fun _ hj => (hnv.lt _ hj).1)⟩
theorem cells_new (w : World) (cs : List Value) (t : TypeId) : ∀ j u, cs[j]? = some u → (w.alloc (.cells cs.toArray t)).cell? ((⟨w.heap.size, 0, none⟩ : Addr).add j) = some u := by
  intro j u hj
  have e : (w.alloc (.cells cs.toArray t)).heap[w.heap.size]? = some (.cells cs.toArray t) := by
    show (w.heap.push _)[w.heap.size]? = _
    simp
  have e2 : (⟨w.heap.size, 0, none⟩ : Addr).add j = ⟨w.heap.size, j, none⟩ := by rw [Addr.add_lit]; simp
  rw [e2]
  simp only [World.cell?]
  rw [e]
  simp [hj]
theorem ints_one (d : Stif.Node) : ∀ u ∈ nodeCells d, u.oneCell' = true := by
  intro u hu
  simp only [nodeCells, List.mem_cons, List.not_mem_nil, or_false] at hu
  rcases hu with rfl | rfl | rfl | rfl | rfl | rfl | rfl | rfl <;> rfl
theorem rowOf_length (ns : List Stif.Node) : (rowOf ns).length = ns.length * 8 := by
  induction ns with
  | nil => rfl
  | cons a r ih => simp only [rowOf, List.flatMap_cons, List.length_append, List.length_cons] at ih ⊢; rw [ih]; simp [nodeCells]; omega
theorem rowOf_get (ns : List Stif.Node) (l j : Nat) (d : Stif.Node) (h : ns[l]? = some d) (hj : j < 8) : (rowOf ns)[l * 8 + j]? = (nodeCells d)[j]? := by
  induction ns generalizing l with
  | nil => simp at h
  | cons a r ih =>
    have ha : (nodeCells a).length = 8 := rfl
    cases l with
    | zero =>
      simp only [List.getElem?_cons_zero, Option.some.injEq] at h
      subst h
      simp only [rowOf, List.flatMap_cons, Nat.zero_mul, Nat.zero_add]
      rw [List.getElem?_append_left (by omega)]
    | succ l =>
      simp only [List.getElem?_cons_succ] at h
      have := ih l h
      simp only [rowOf, List.flatMap_cons] at this ⊢
      rw [List.getElem?_append_right (by omega), ha, show (l + 1) * 8 + j - 8 = l * 8 + j by omega]
      exact this
theorem rowOf_bump (ns : List Stif.Node) (l : Nat) (d : Stif.Node) (h : ns[l]? = some d) : (rowOf ns).set (l * 8 + 7) (.int .i64 ((d.values : Int) + 1)) = rowOf (Stif.bump ns l 1) := by
  induction ns generalizing l with
  | nil => simp at h
  | cons a r ih =>
    have ha : (nodeCells a).length = 8 := rfl
    cases l with
    | zero =>
      simp only [List.getElem?_cons_zero, Option.some.injEq] at h
      subst h
      simp [rowOf, Stif.bump, List.modify_cons, nodeCells]
    | succ l =>
      simp only [List.getElem?_cons_succ] at h
      have := ih l h
      simp only [rowOf, Stif.bump, List.flatMap_cons, List.modify_cons, Nat.add_one_ne_zero, if_false, Nat.add_sub_cancel] at this ⊢
      rw [List.set_append_right _ _ (by omega), ha, show (l + 1) * 8 + 7 - 8 = l * 8 + 7 by omega, this]
theorem below2 {w0 w : World} (h : Below w0.heap.size w0 w) (o o' : Obj) : Below w0.heap.size w0 ((w.alloc o).alloc o') := (h.alloc h.size o).alloc (by have := h.size; simp; omega) o'
theorem rowOf_snoc (ns : List Stif.Node) (d : Stif.Node) : rowOf (ns ++ [d]) = rowOf ns ++ nodeCells d := by simp [rowOf]

/-- What the parser's loop holds. -/
structure PRel (T X : ByteArray) (w0 : World) (gk : Nat) (nv ov pv fv lv : Value) (wr : World) : Prop where
  ex : ∃ (L : List Stif.Tok) (st : Stif.St) (i x : Nat), Stif.chain T X.size 0 0 L i x ∧ Stif.run Stif.init L = some st ∧ i ≤ T.size ∧ x ≤ X.size ∧ gk = T.size - i ∧ pv = .int .i64 i ∧ fv = .int .i64 x ∧ lv = .int .i64 st.last ∧
    wr.ownsRow w0.heap.size 44 8 nv st.nodes.length (rowOf st.nodes) ∧ wr.ownsRow w0.heap.size 3 1 ov st.op.length (opRow st.op) ∧ Below w0.heap.size w0 wr

set_option maxRecDepth 100000 in
set_option maxHeartbeats 1000000 in
theorem parse_any (T X : ByteArray) (w : World) (hT : T.size ≤ 1048576) (hX : X.size ≤ 1048576) :
    Calls Try.prog 12 #[.string T, .string X] w fun e w' => Below w.heap.size w w' ∧ (e = .returned (.tuple #[.slice none 0 0, .bool false]) ∨
      ∃ v L st, e = .returned (.tuple #[v, .bool true]) ∧ Stif.chain T X.size 0 0 L T.size X.size ∧ Stif.run Stif.init L = some st ∧ st.op = [] ∧ w'.ownsRow w.heap.size 44 8 v st.nodes.length (rowOf st.nodes)) := by
  obtain ⟨i44, hi44, hz44, hs44, hb44⟩ := info_parts Try.info44
  obtain ⟨i3, hi3, hz3, hs3, hb3⟩ := info_parts Try.info3
  go_enter Try.func12, Try.ntmps12
  go_wp2
  go_loopg [6, 7, 8, 9, 10] T.size (fun gk nv ov pv fv lv wr => PRel T X w gk nv ov pv fv lv wr)
  case atStart => exact ⟨[], Stif.init, 0, 0, ⟨rfl, rfl⟩, rfl, by omega, by omega, by omega, rfl, rfl, rfl, World.ownsRow_nil _ _ _ _, World.ownsRow_nil _ _ _ _, Below.refl _ _⟩
  case round =>
    obtain ⟨L, st, i, x, hch, hrun, hi, hx, hgk, rfl, rfl, rfl, hnv, hov, hbl⟩ := hrel.ex
    have HC : Hid (Stif.chain T X.size 0 0 L i x ∧ Stif.run Stif.init L = some st) := ⟨hch, hrun⟩
    have hg := (Stif.run_good Stif.init_good hrun).1
    have hnl : st.nodes.length ≤ i := by
      have h1 := (Stif.run_good Stif.init_good hrun).2
      have h2 := (Stif.chain_le hch).1
      simp [Stif.init] at h1
      omega
    clear hch hrun hrel
    by_cases hlt : i < T.size
    · go_upto_block 2 with fail
      go_cut [8, 12, 13, 14] (fun p z _ _ wx => wx = wr ∧ ∃ (k y : Nat), p = .int .i64 k ∧ z = .int .u64 y ∧ Hid (Stif.dec T 9 i 0 0 = some (y, k)))
      case first =>
        go_wp2_with fail
        go_loop [8, 12, 13, 14] (fun p z s _ => ∃ (k y c f : Nat), p = .int .i64 k ∧ z = .int .u64 y ∧ s = .int .i64 c ∧ c + 7 * f = 63 ∧ k ≤ T.size ∧ Hid (Stif.dec T f k y c = Stif.dec T 9 i 0 0 ∧ y < Stif.U64)) (fun _ _ s _ => 100 - (intOf s).toNat)
        case atStart => exact ⟨i, 0, 0, 9, rfl, rfl, rfl, by omega, hi, rfl, by decide⟩
        case round =>
          obtain ⟨k, y, c, f, rfl, rfl, rfl, hc, hk, HR⟩ := hrel
          by_cases hkl : k < T.size
          · by_cases hc56 : c ≤ 56
            · obtain ⟨f, rfl⟩ : ∃ f', f = f' + 1 := ⟨f - 1, by omega⟩
              have hz := HR.out.2
              have HZ : Hid (y < Stif.U64) := hz
              clear hz
              go_wp2
              · have hb : (Stif.byte T k).toNat < 128 := by rw [Stif.byte_eq hkl]; omega
                have h1 := HR.out.1
                unfold Stif.dec at h1
                rw [if_pos hkl, if_pos hb, Stif.byte_eq hkl] at h1
                go_meet
                exact ⟨rfl, k + 1, Stif.acc y T[k] c, by go_num, by rw [acc_spell y _ c HZ.out], h1.symm⟩
              · have hb : ¬ (Stif.byte T k).toNat < 128 := by rw [Stif.byte_eq hkl]; omega
                have h1 := HR.out.1
                rw [show Stif.dec T (f + 1) k y c = Stif.dec T f (k + 1) (Stif.acc y T[k] c) (c + 7) by rw [Stif.dec, if_pos hkl, if_neg hb, Stif.byte_eq hkl]] at h1
                go_round
                case rel => exact ⟨k + 1, Stif.acc y T[k] c, c + 7, f, by go_num, by rw [acc_spell y _ c HZ.out], by go_num, by omega, by omega, h1, Stif.acc_lt _ _ _ HZ.out⟩
                case measure => simp [intOf]; omega
            · go_wp2
              go_ret2
              exact ⟨hbl, .inl rfl⟩
          · go_wp2
            go_ret2
            exact ⟨hbl, .inl rfl⟩
      case rest =>
        obtain ⟨hwc, k, y, rfl, rfl, HD⟩ := hcut
        obtain rfl := hwc.symm
        clear hwc
        have hdk := Stif.dec_some T 9 i 0 0 y k HD.out (by decide)
        obtain ⟨hik, hkT, hyU⟩ := hdk
        have HY : Hid (y < Stif.U64) := hyU
        clear hyU
        obtain ⟨t, ht⟩ : ∃ t : Stif.Tok, t = ⟨y % 4, y / 4, i, k, x⟩ := ⟨_, rfl⟩
        have HT : Hid (Stif.tokAt T i x = some t) := by rw [ht]; exact Stif.tokAt_mk HD.out
        have hks : wrap64 (bits BinOp.and IntKind.u64 (y : Int) 3) = (t.kind : Int) := by rw [kind_spell y HY.out, ht]
        have hms : (y : Int) / 4 = (t.n : Int) := by rw [ht]; show (y : Int) / 4 = ((y / 4 : Nat) : Int); omega
        have hnx : t.next = k := by rw [ht]
        have hk3 : t.kind ≤ 3 := (Stif.tokAt_some HT.out).1
        have hwu : IntKind.u64.wrap ((X.size : Int) - (x : Int)) = (X.size : Int) - (x : Int) := by rw [IntKind.wrap_u64]; omega
        clear ht HD HY
        obtain ⟨ao, oc, rfl⟩ := row_slice hov
        obtain ⟨an, nc, rfl⟩ := row_slice hnv
        by_cases hn : t.n ≤ X.size - x
        · go_upto_if 66 with fail
          go_cut [18] (fun pv wx => wx = wr ∧ pv = .int .i64 (Stif.parentOf st.op))
          case first =>
            obtain hop | ⟨p, r, hop⟩ : st.op = [] ∨ ∃ p r, st.op = p :: r := by cases st.op <;> simp
            · have hol : st.op.length ≤ 0 := by simp [hop]
              have HO : Hid (st.op = []) := hop
              clear hop
              go_wp2
              go_meet
              exact ⟨rfl, by rw [HO.out]; rfl⟩
            · have hopl := hg.opl
              have hol : 1 ≤ st.op.length := by simp [hop]
              obtain ⟨g, rfl, hnc, hcm, hbg, hgl⟩ := row_some hov (by omega)
              have hcell : wr.cell? ⟨g, st.op.length - 1, none⟩ = some (.int .i64 (p : Int)) := by
                have e : st.op.length - 1 = r.length := by simp [hop]
                rw [e, hov.cellAt r.length (by rw [hop]; simp), hop]
                exact opRow_top p r
              have HO : Hid (st.op = p :: r) := hop
              clear hop
              go_wp2
              go_meet
              exact ⟨rfl, by rw [HO.out]; rfl⟩
          case rest =>
            obtain ⟨hwc, rfl⟩ := hcut
            obtain rfl := hwc.symm
            clear hwc
            rw [hks]
            go_upto_region 26 with fail
            have hkc : t.kind = 0 ∨ t.kind = 1 ∨ t.kind = 2 ∨ t.kind = 3 := by omega
            have ht1 : t.tok = i ∧ t.txt = x := ⟨(Stif.tokAt_some HT.out).2.1, (Stif.tokAt_some HT.out).2.2.1⟩
            have HT1 : Hid (t.tok = i ∧ t.txt = x) := ht1
            have HNX : Hid (t.next = k) := hnx
            have hopl := hg.opl
            clear ht1 hnx hks hms hwu
            have HCN : Hid (∀ (W : World) j u, (nodeCells (Stif.mkNode t st.op 0))[j]? = some u → ((W.alloc (.cells #[.int .i64 t.kind, .int .i64 i, .int .i64 k, .int .i64 x, .int .i64 t.n, .int .i64 st.op.length, .int .i64 (Stif.parentOf st.op), .int .i64 0] 44)).alloc (.cells #[.int .i64 t.kind, .int .i64 i, .int .i64 k, .int .i64 x, .int .i64 t.n, .int .i64 st.op.length, .int .i64 (Stif.parentOf st.op), .int .i64 0] 44)).cell? ((⟨W.heap.size + 1, 0, none⟩ : Addr).add j) = some u) := by
              intro W
              have := cells_new (W.alloc (.cells #[.int .i64 t.kind, .int .i64 i, .int .i64 k, .int .i64 x, .int .i64 t.n, .int .i64 st.op.length, .int .i64 (Stif.parentOf st.op), .int .i64 0] 44)) [.int .i64 t.kind, .int .i64 i, .int .i64 k, .int .i64 x, .int .i64 t.n, .int .i64 st.op.length, .int .i64 (Stif.parentOf st.op), .int .i64 0] 44
              rw [World.size_alloc] at this
              have e : nodeCells (Stif.mkNode t st.op 0) = [.int .i64 t.kind, .int .i64 i, .int .i64 k, .int .i64 x, .int .i64 t.n, .int .i64 st.op.length, .int .i64 (Stif.parentOf st.op), .int .i64 0] := by
                simp [nodeCells, Stif.mkNode, HT1.out.1, HT1.out.2, HNX.out]
              rw [e]
              exact this
            rcases hkc with hkd | hkd | hkd | hkd
            · have hk0 : ((t.kind : Int) == 0) = true := by rw [beq_iff_eq]; omega
              have HKD : Hid (t.kind = 0) := hkd
              clear hkd
              go_wp2_with (at_builtin; go_must (refine wpList_append_own _ rfl _ _ 28 rfl w.heap.size 44 i44 _ 8 64 Try.underlying28 hi44 hz44 hs44 hb44 rfl (by decide) _ _ _ rfl ((hnv.alloc _).alloc _) ⟨wr.heap.size + 1, 0, none⟩ 1 1 (nodeCells (Stif.mkNode t st.op 0)) rfl rfl (HCN.out _) (ints_one _) (by unfold maxLen; omega) (by omega) (below2 hbl _ _).size ?_); intro v' w3 hown' hgrow _; obtain ⟨g', c', rfl⟩ := ownsRow_succ hown'; obtain ⟨hov', hbl'⟩ := after_app ((hnv.alloc _).alloc _) ((hov.alloc _).alloc _) (by decide) (below2 hbl _ _) hgrow; have HP : Hid (w3.ownsRow w.heap.size 44 8 (.slice (some ⟨g', 0, none⟩) (st.nodes.length + 1) c') (st.nodes.length + 1) (rowOf st.nodes ++ nodeCells (Stif.mkNode t st.op 0)) ∧ w3.ownsRow w.heap.size 3 1 (.slice ao st.op.length oc) st.op.length (opRow st.op) ∧ Below w.heap.size w w3) := ⟨hown', hov', hbl'⟩; clear hown' hgrow hov' hbl')
              go_roundg (T.size - k)
              case measure => omega
              case rel =>
                refine ⟨L ++ [t], ⟨st.nodes ++ [Stif.mkNode t st.op 0], st.op, st.nodes.length⟩, k, x + t.n, ?_, ?_, by omega, by omega, rfl, rfl, by go_num, by go_num, ?_, HP.out.2.1, HP.out.2.2⟩
                · have := Stif.chain_snoc HC.out.1 HT.out (by omega)
                  rw [HNX.out] at this
                  exact this
                · exact Stif.run_snoc HC.out.2 (by simp [Stif.step, HKD.out])
                · rw [rowOf_snoc, List.length_append]
                  exact HP.out.1
            · have hk0 : ((t.kind : Int) == 0) = false := by rw [beq_eq_false_iff_ne]; omega
              have hk1 : ((t.kind : Int) == 1) = true := by rw [beq_iff_eq]; omega
              have HKD : Hid (t.kind = 1) := hkd
              clear hkd
              by_cases hl0 : st.last < 0
              · go_wp2
                go_ret2
                exact ⟨hbl.alloc hbl.size _, .inl rfl⟩
              · obtain ⟨l, hl⟩ := Int.eq_ofNat_of_zero_le (show 0 ≤ st.last by omega)
                have hll : l < st.nodes.length := by have := hg.hi; omega
                obtain ⟨d, hd⟩ : ∃ d, st.nodes[l]? = some d := ⟨_, List.getElem?_eq_getElem hll⟩
                have hdv : d.values ≤ st.nodes.length := hg.vals d (List.mem_of_getElem? hd)
                have HD : Hid (st.nodes[l]? = some d) := hd
                obtain ⟨g, rfl, hnc, hcm, hbg, hgl⟩ := row_some hnv (by omega)
                have hcell : wr.cell? ⟨g, l * 8 + 7, none⟩ = some (.int .i64 (d.values : Int)) := by
                  rw [hnv.cellAt (l * 8 + 7) (by omega), rowOf_get _ _ _ d hd (by omega)]
                  rfl
                have hfr := hnv.frozenAt (l * 8 + 7)
                have HL : Hid (st.last = (l : Int)) := hl
                rw [hl]
                clear hd hl hl0
                go_upto_region 38 with fail
                have hst := hnv.stored (l * 8 + 7) (.int .i64 ((d.values : Int) + 1))
                have hov2 : (wr.setCell ⟨g, l * 8 + 7, none⟩ (.int .i64 ((d.values : Int) + 1))).ownsRow w.heap.size 3 1 (.slice ao st.op.length oc) st.op.length (opRow st.op) := hov.kept hst.2 (rows_apart hnv hov (by decide))
                have hbl2 : Below w.heap.size w (wr.setCell ⟨g, l * 8 + 7, none⟩ (.int .i64 ((d.values : Int) + 1))) := hbl.setCell hbg _
                have hnv2 := hst.1
                rw [rowOf_bump _ _ _ HD.out] at hnv2
                have hsz : wr.heap.size = (wr.setCell ⟨g, l * 8 + 7, none⟩ (.int .i64 ((d.values : Int) + 1))).heap.size := by simp
                clear hst hcell hfr hnv hov hbl
                generalize wr.setCell ⟨g, l * 8 + 7, none⟩ (.int .i64 ((d.values : Int) + 1)) = wr2 at *
                rw [hsz]
                clear hsz
                go_wp2_with (at_builtin; go_must (refine wpList_append_own _ rfl _ _ 28 rfl w.heap.size 44 i44 _ 8 64 Try.underlying28 hi44 hz44 hs44 hb44 rfl (by decide) _ _ _ rfl ((hnv2.alloc _).alloc _) ⟨wr2.heap.size + 1, 0, none⟩ 1 1 (nodeCells (Stif.mkNode t st.op 0)) rfl rfl (HCN.out _) (ints_one _) (by unfold maxLen; omega) (by omega) (below2 hbl2 _ _).size ?_); intro v' w3 hown' hgrow _; obtain ⟨g', c', rfl⟩ := ownsRow_succ hown'; obtain ⟨hov', hbl'⟩ := after_app ((hnv2.alloc _).alloc _) ((hov2.alloc _).alloc _) (by decide) (below2 hbl2 _ _) hgrow; have HP : Hid (w3.ownsRow w.heap.size 44 8 (.slice (some ⟨g', 0, none⟩) (st.nodes.length + 1) c') (st.nodes.length + 1) (rowOf (Stif.bump st.nodes l 1) ++ nodeCells (Stif.mkNode t st.op 0)) ∧ w3.ownsRow w.heap.size 3 1 (.slice ao st.op.length oc) st.op.length (opRow st.op) ∧ Below w.heap.size w w3) := ⟨hown', hov', hbl'⟩; clear hown' hgrow hov' hbl')
                go_roundg (T.size - k)
                case measure => omega
                case rel =>
                  refine ⟨L ++ [t], ⟨Stif.bump st.nodes l 1 ++ [Stif.mkNode t st.op 0], st.op, st.last⟩, k, x + t.n, ?_, ?_, by omega, by omega, rfl, rfl, by go_num, by rw [HL.out], ?_, HP.out.2.1, HP.out.2.2⟩
                  · have := Stif.chain_snoc HC.out.1 HT.out (by omega)
                    rw [HNX.out] at this
                    exact this
                  · exact Stif.run_snoc HC.out.2 (by simp [Stif.step, HKD.out, HL.out])
                  · rw [rowOf_snoc, List.length_append, Stif.bump_length]
                    exact HP.out.1
            · have hk0 : ((t.kind : Int) == 0) = false := by rw [beq_eq_false_iff_ne]; omega
              have hk1 : ((t.kind : Int) == 1) = false := by rw [beq_eq_false_iff_ne]; omega
              have hk2 : ((t.kind : Int) == 2) = true := by rw [beq_iff_eq]; omega
              have HKD : Hid (t.kind = 2) := hkd
              clear hkd
              go_upto_region 41 with (at_builtin; go_must (refine wpList_append_own _ rfl _ _ 28 rfl w.heap.size 44 i44 _ 8 64 Try.underlying28 hi44 hz44 hs44 hb44 rfl (by decide) _ _ _ rfl ((hnv.alloc _).alloc _) ⟨wr.heap.size + 1, 0, none⟩ 1 1 (nodeCells (Stif.mkNode t st.op 0)) rfl rfl (HCN.out _) (ints_one _) (by unfold maxLen; omega) (by omega) (below2 hbl _ _).size ?_); intro v' w3 hown' hgrow _; obtain ⟨g', c', rfl⟩ := ownsRow_succ hown'; obtain ⟨hov', hbl'⟩ := after_app ((hnv.alloc _).alloc _) ((hov.alloc _).alloc _) (by decide) (below2 hbl _ _) hgrow)
              clear hnv hov hbl hgrow HCN
              go_wp2_with (at_builtin; go_must (refine wpList_append_own _ rfl _ _ 37 rfl w.heap.size 3 i3 _ 1 8 Try.underlying37 hi3 hz3 hs3 hb3 rfl (by decide) _ _ _ rfl (hov'.alloc _) ⟨w3.heap.size, 0, none⟩ 1 1 [.int .i64 (st.nodes.length : Int)] rfl rfl (cell_one_new _ _ _) (by simp [Value.oneCell']) (by unfold maxLen; omega) (by omega) (hbl'.alloc hbl'.size _).size ?_); intro v4 w4 hown4 hgrow4 _; obtain ⟨g4, c4, rfl⟩ := ownsRow_succ hown4; obtain ⟨hnv4, hbl4⟩ := after_app (hov'.alloc _) (hown'.alloc _) (by decide) (hbl'.alloc hbl'.size _) hgrow4; have HP : Hid (w4.ownsRow w.heap.size 44 8 (.slice (some ⟨g', 0, none⟩) (st.nodes.length + 1) c') (st.nodes.length + 1) (rowOf st.nodes ++ nodeCells (Stif.mkNode t st.op 0)) ∧ w4.ownsRow w.heap.size 3 1 (.slice (some ⟨g4, 0, none⟩) (st.op.length + 1) c4) (st.op.length + 1) (opRow st.op ++ [.int .i64 (st.nodes.length : Int)]) ∧ Below w.heap.size w w4) := ⟨hnv4, hown4, hbl4⟩; clear hown4 hgrow4 hnv4 hbl4)
              go_roundg (T.size - k)
              case measure => omega
              case rel =>
                refine ⟨L ++ [t], ⟨st.nodes ++ [Stif.mkNode t st.op 0], st.nodes.length :: st.op, -1⟩, k, x + t.n, ?_, ?_, by omega, by omega, rfl, rfl, by go_num, rfl, ?_, ?_, HP.out.2.2⟩
                · have := Stif.chain_snoc HC.out.1 HT.out (by omega)
                  rw [HNX.out] at this
                  exact this
                · exact Stif.run_snoc HC.out.2 (by simp [Stif.step, HKD.out])
                · rw [rowOf_snoc, List.length_append]
                  exact HP.out.1
                · rw [show opRow (st.nodes.length :: st.op) = opRow st.op ++ [.int .i64 (st.nodes.length : Int)] by simp [opRow]]
                  exact HP.out.2.1
            · have hk0 : ((t.kind : Int) == 0) = false := by rw [beq_eq_false_iff_ne]; omega
              have hk1 : ((t.kind : Int) == 1) = false := by rw [beq_eq_false_iff_ne]; omega
              have hk2 : ((t.kind : Int) == 2) = false := by rw [beq_eq_false_iff_ne]; omega
              have HKD : Hid (t.kind = 3) := hkd
              clear hkd HCN
              by_cases hn0 : t.n = 0
              · have hnb : ((t.n : Int) != 0) = false := by simp [hn0]
                have HN0 : Hid (t.n = 0) := hn0
                clear hn0
                obtain hop | ⟨p, r, hop⟩ : st.op = [] ∨ ∃ p r, st.op = p :: r := by cases st.op <;> simp
                · have hol : ((st.op.length : Int) == 0) = true := by simp [hop]
                  clear hop
                  go_wp2
                  go_ret2
                  exact ⟨hbl.alloc hbl.size _, .inl rfl⟩
                · have hol : ((st.op.length : Int) == 0) = false := by simp [hop]; omega
                  have hol1 : 1 ≤ st.op.length := by simp [hop]
                  obtain ⟨g, rfl, hnc, hcm, hbg, hgl⟩ := row_some hov (by omega)
                  have HO : Hid (st.op = p :: r) := hop
                  clear hop
                  unfold maxLen at hcm
                  go_wp2
                  go_roundg (T.size - k)
                  case measure => omega
                  case rel =>
                    have hop := HO.out
                    refine ⟨L ++ [t], ⟨st.nodes, r, -1⟩, k, x + t.n, ?_, ?_, by omega, by omega, rfl, rfl, by go_num, rfl, hnv.alloc _, ?_, hbl.alloc hbl.size _⟩
                    · have := Stif.chain_snoc HC.out.1 HT.out (by omega)
                      rw [HNX.out] at this
                      exact this
                    · exact Stif.run_snoc HC.out.2 (by simp [Stif.step, HKD.out, HN0.out, hop])
                    · rw [hop] at hov ⊢
                      rw [show opRow (p :: r) = opRow r ++ [.int .i64 (p : Int)] by simp [opRow]] at hov
                      exact (ownsRow_pop (by simp [opRow]) hov).alloc _
              · have hnb : ((t.n : Int) != 0) = true := by rw [bne_iff_ne]; omega
                go_wp2
                go_ret2
                exact ⟨hbl.alloc hbl.size _, .inl rfl⟩
        · go_wp2_with fail
          go_ret2
          exact ⟨hbl, .inl rfl⟩
    · obtain ⟨ao, oc, rfl⟩ := row_slice hov
      obtain ⟨an, nc, rfl⟩ := row_slice hnv
      have hie : i = T.size := by omega
      by_cases hop : st.op = []
      · have hol : st.op.length = 0 := by simp [hop]
        by_cases hxe : x = X.size
        · subst hie hxe
          rw [hol] at hov ⊢
          go_wp2
          go_ret2
          exact ⟨hbl, .inr ⟨_, L, st, rfl, HC.out.1, HC.out.2, hop, hnv⟩⟩
        · rw [hol] at hov ⊢
          have hxb : ((x : Int) != (X.size : Int)) = true := by rw [bne_iff_ne]; omega
          go_wp2
          go_ret2
          exact ⟨hbl, .inl rfl⟩
      · have hol : ((st.op.length : Int) != 0) = true := by
          have : st.op.length ≠ 0 := by simp [hop]
          rw [bne_iff_ne]; omega
        go_wp2
        go_ret2
        exact ⟨hbl, .inl rfl⟩
end Go.Proofs.Qxb6618677a
