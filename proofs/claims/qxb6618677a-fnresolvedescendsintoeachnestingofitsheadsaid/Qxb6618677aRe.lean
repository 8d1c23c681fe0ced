/-
  zzReach: which nodes of a run a walk comes to.
-/
import Derived.Test.Qxb6618677aWs0
import Derived.Test.Qxb6618677aRc
import Derived.Deep.OwnRows
namespace Go.Proofs.Qxb6618677a
open Go.RowKit

/-- What run_front says, and the nodes of the run as the parser makes them. -/
theorem run_front2 {T X : ByteArray} {L : List Stif.Tok} {st : Stif.St} {tok txt b : Int} (hch : Stif.chain T X.size 0 0 L T.size X.size) (hrun : Stif.run Stif.init L = some st) (hop : st.op = [])
    (hs : (tok = 0 ∧ txt = 0 ∧ b = -1) ∨ ∃ (i : Nat) (d : Stif.Node), st.nodes[i]? = some d ∧ d.kind = 2 ∧ (d.next : Int) = tok ∧ (d.txt : Int) + d.n = txt ∧ b = i) :
    ∃ (ts : List Stif.Tok) (i0 x0 s bd : Nat) (R : List Stif.Node) (op : List Nat), tok = i0 ∧ txt = x0 ∧ Stif.chain T X.size i0 x0 ts T.size X.size ∧ Stif.bal bd ts ∧ RunIs st.nodes b s bd R ∧ R.length = (Stif.runN 0 ts).length ∧ (∀ (i : Nat) nd p, R[i]? = some nd → (Stif.runN 0 ts)[i]? = some p → Stif.Meets bd nd p) ∧
      op.length = bd ∧ Stif.parentOf op = b ∧ st.nodes.drop s = Stif.nodesOf op s ts := by
  have hk3 := Stif.chain_kind hch
  have hn := Stif.nodes_of_run hk3 hrun
  have hb := (Stif.run_bal hk3 hrun hop).1
  rcases hs with ⟨rfl, rfl, rfl⟩ | ⟨i, d, hd, hk2, rfl, rfl, rfl⟩
  · obtain ⟨N, h1, h2, h3⟩ := Stif.run_meets L [] 0 0 0 rfl hb
    have h4 : (Stif.nodesOf [] 0 L).takeWhile (fun d => decide (0 ≤ d.depth)) = Stif.nodesOf [] 0 L := takeWhile_self (fun _ => by simp)
    exact ⟨L, 0, 0, 0, 0, N, [], rfl, rfl, hch, hb, ⟨by rw [hn]; exact h1, .inl ⟨rfl, rfl, rfl, by rw [hn, ← h1, h4]⟩⟩, h2, h3, rfl, rfl, by rw [hn]; rfl⟩
  · rw [hn] at hd
    obtain ⟨A, t, B, o, hL, _, hdt, hdrop, hbal⟩ := Stif.node_split hd
    have e2 : t.kind = 2 := by rw [hdt] at hk2; exact hk2
    have hb2 := hbal hb
    rw [Stif.bal, if_pos e2] at hb2
    rw [if_pos e2] at hdrop
    obtain ⟨N, h1, h2, h3⟩ := Stif.run_meets B ((0 + i) :: o) (0 + i + 1) 0 (o.length + 1) (by simp) (by simpa using hb2)
    have hc2 : ∃ j y, Stif.chain T X.size 0 0 A j y ∧ Stif.chain T X.size j y (t :: B) T.size X.size := Stif.chain_append (by rw [← hL]; exact hch)
    obtain ⟨j, y, _, hc3⟩ := hc2
    have ht := Stif.tokAt_some hc3.1
    refine ⟨B, t.next, t.txt + t.n, i + 1, o.length + 1, N, (0 + i) :: o, by rw [hdt]; rfl, by rw [hdt]; simp [Stif.mkNode], ?_, hb2, ⟨?_, .inr ⟨i, d, rfl, rfl, by rw [hn]; exact hd, by rw [hdt]; rfl⟩⟩, h2, h3, by simp, ?_, ?_⟩
    · rw [ht.2.2.1]; exact hc3.2.2
    · rw [hn, hdrop]; exact h1
    · show ((0 + i : Nat) : Int) = (i : Int); rw [Nat.zero_add]
    · rw [hn, hdrop, show 0 + i + 1 = i + 1 by omega]

/-- Of each node of the run: is it come to (rA)? is it gone into (eA)? -/
structure Reach (R : List Stif.Node) (P : List (Nat × Stif.Tok)) (b : Int) (s : Nat) (into : Nat → Stif.Tok → Bool) (rA eA : Nat → Bool) : Prop where
  par : ∀ (j : Nat) nd, R[j]? = some nd → (nd.parent = b ∧ rA (s + j) = true) ∨ ∃ x : Nat, nd.parent = (x : Int) ∧ s ≤ x ∧ x < s + j ∧ rA (s + j) = (rA x && eA x)
  ent : ∀ (j : Nat) p, P[j]? = some p → eA (s + j) = (p.2.kind == 2 && into p.1 p.2)

def rAof (into : Nat → Stif.Tok → Bool) (ts : List Stif.Tok) (s : Nat) (x : Nat) : Bool := ((Stif.reachN into 0 0 ts)[x - s]?).getD false
def eAof (into : Nat → Stif.Tok → Bool) (ts : List Stif.Tok) (s : Nat) (x : Nat) : Bool := ((Stif.runN 0 ts)[x - s]?).elim false fun p => p.2.kind == 2 && into p.1 p.2
theorem reach_of {ns R : List Stif.Node} {b : Int} {s bd : Nat} {ts : List Stif.Tok} {op : List Nat} (into : Nat → Stif.Tok → Bool) (hR : RunIs ns b s bd R) (hl : R.length = (Stif.runN 0 ts).length) (h1 : op.length = bd) (h2 : Stif.parentOf op = b) (h3 : ns.drop s = Stif.nodesOf op s ts) :
    Reach R (Stif.runN 0 ts) b s into (rAof into ts s) (eAof into ts s) := by
  have he : ∀ (j : Nat) p, (Stif.runN (0 + 0) ts)[j]? = some p → eAof into ts s (s + j) = (p.2.kind == 2 && into p.1 p.2) := fun j p h => by
    unfold eAof
    rw [show s + j - s = j by omega, show Stif.runN 0 ts = Stif.runN (0 + 0) ts from rfl, h]; rfl
  refine ⟨fun j nd h => ?_, he⟩
  have hj := (List.getElem?_eq_some_iff.1 h).1
  have hg := hR.get h
  rw [← List.getElem?_drop, h3] at hg
  exact Stif.parents into (rAof into ts s) (eAof into ts s) b bd s ts op s 0 0 (Nat.le_refl _) (by omega) (fun i hi => by
      have : i = 0 := by omega
      subst this
      simp [Stif.gate, h1]) (by simpa using h2) (by simp) (fun j r h => by
      unfold rAof
      rw [show s + j - s = j by omega, h]; rfl) he j nd (by rw [← hl]; exact hj) hg

def rowF (s i : Nat) (f : Nat → Bool) (j : Nat) : Value := .bool (decide (s ≤ j ∧ j < s + i) && f j)
theorem rowF_in {s i : Nat} {f : Nat → Bool} {j : Nat} (h1 : s ≤ j) (h2 : j < s + i) : rowF s i f j = .bool (f j) := by simp [rowF, h1, h2]
theorem row_set {w : World} {g n s i : Nat} {f : Nat → Bool} {u : Bool} (h : w.rowIs g 4 n (rowF s i f)) (hu : u = f (s + i)) : (w.setCell ⟨g, s + i, none⟩ (.bool u)).rowIs g 4 n (rowF s (i + 1) f) :=
  (h.set (s + i) (.bool u)).congr fun j _ => by
    by_cases e : j = s + i
    · subst e; simp [rowF, hu]
    · simp only [e, if_false, rowF]
      have : (s ≤ j ∧ j < s + i) ↔ (s ≤ j ∧ j < s + (i + 1)) := by omega
      simp only [this]
theorem row_keep {w : World} {g n s i : Nat} {f : Nat → Bool} (h : w.rowIs g 4 n (rowF s i f)) (hu : f (s + i) = false) : w.rowIs g 4 n (rowF s (i + 1) f) :=
  h.congr fun j _ => by
    by_cases e : j = s + i
    · subst e; simp [rowF, hu]
    · simp only [rowF]
      have : (s ≤ j ∧ j < s + i) ↔ (s ≤ j ∧ j < s + (i + 1)) := by omega
      simp only [this]

def ndObj (nd : Stif.Node) : Obj := .cells #[.int .i64 nd.kind, .int .i64 nd.tok, .int .i64 nd.next, .int .i64 nd.txt, .int .i64 nd.n, .int .i64 nd.depth, .int .i64 nd.parent, .int .i64 nd.values] 44
/-- Behind the first 'if' of a round. -/
structure RMid (w2 wr wx : World) (g1 g2 n s i : Nat) (rA eA : Nat → Bool) (nd : Stif.Node) : Prop where
  blk : wx.heap[wr.heap.size]? = some (ndObj nd)
  r1 : wx.rowIs g1 4 n (rowF s (i + 1) rA)
  r2 : wx.rowIs g2 4 n (rowF s i eA)
  bl : Below w2.heap.size w2 wx
  sz : wr.heap.size < wx.heap.size
theorem rmid {w2 wr : World} {g1 g2 n s i : Nat} {rA eA : Nat → Bool} {nd : Stif.Node} {u : Bool} (h1 : wr.rowIs g1 4 n (rowF s i rA)) (h2 : wr.rowIs g2 4 n (rowF s i eA)) (hb : Below w2.heap.size w2 wr) (hg : w2.heap.size ≤ g1) (hne : g1 ≠ g2) (hu : u = rA (s + i)) :
    RMid w2 wr ((wr.setCell ⟨g1, s + i, none⟩ (.bool u)).alloc (ndObj nd)) g1 g2 n s i rA eA nd := by
  have e : (wr.setCell ⟨g1, s + i, none⟩ (.bool u)).heap.size = wr.heap.size := by simp [World.setCell]
  have hs := hb.size
  refine ⟨?_, (row_set h1 hu).alloc _, (h2.setOther (by exact fun e => hne e.symm) _).alloc _, (hb.setCell hg _).alloc (by rw [e]; exact hs) _, by rw [World.size_alloc, e]; omega⟩
  rw [← e]
  exact World.alloc_heap_new _ _

set_option maxRecDepth 100000 in
set_option maxHeartbeats 4000000 in
theorem reach_any (v : Value) (ns R : List Stif.Node) (P : List (Nat × Stif.Tok)) (rA eA : Nat → Bool) (base s bd : Nat) (X av : ByteArray) (md : Int) (pv : Value) (b : Int) (w : World) (hn : w.ownsRow base 44 8 v ns.length (rowOf ns)) (hlen : ns.length ≤ 1048576) (hX : X.size ≤ 1048576) (hR : RunIs ns b s bd R) (hd : ∀ d ∈ ns, d.depth ≤ 1048576)
    (hx : ∀ d ∈ ns, d.txt + d.n ≤ X.size) (hl : R.length = P.length) (hm : ∀ (i : Nat) nd p, R[i]? = some nd → P[i]? = some p → Stif.Meets bd nd p) (hre : Reach R P b s (intoOf X av md) rA eA) :
    Calls Try.prog 16 #[v, .int .i64 b, .string X, .bool false, .int .i64 md, .string av, pv] w fun e w' => Below w.heap.size w w' ∧ ∃ g, e = .returned (.slice (some ⟨g, 0, none⟩) ns.length ns.length) ∧ w.heap.size ≤ g ∧ w'.rowIs g 4 ns.length (rowF s R.length rA) := by
  obtain ⟨hsl, rfl⟩ := hR.le
  have hmk := run_make_row' (P := Try.prog) 38 4 (.bool false) 1 Try.underlying38 Try.info4 rfl .i64 .i64 ns.length (by omega) (by omega)
  have HL : Hid (R.length = P.length) := hl
  clear hl
  go_enter Try.func16, Try.ntmps16
  go_wp2_with (first | (go_at_call 17; refine (runEnd_run v ns R _ s bd _ _ hn (by omega) hR).mono ?_; rintro e w1 ⟨rfl, hb1⟩))
  have hn1 := ownsRow_below hn hb1 (Nat.le_refl _)
  refine (baseDepth_run v ns R _ s bd _ _ hn1 (by omega) hR hd).mono ?_; rintro e w2 ⟨rfl, rfl⟩
  obtain ⟨ao, c, rfl⟩ := row_slice hn1
  have HN : Hid (w2.ownsRow base 44 8 (.slice ao ns.length c) ns.length (rowOf ns)) := hn1
  have HR : Hid (RunIs ns (↑s - 1) s bd R ∧ (∀ d ∈ ns, d.depth ≤ 1048576) ∧ (∀ d ∈ ns, d.txt + d.n ≤ X.size)) := ⟨hR, hd, hx⟩
  have HM : Hid ((∀ (i : Nat) nd p, R[i]? = some nd → P[i]? = some p → Stif.Meets bd nd p) ∧ Reach R P (↑s - 1) s (intoOf X av md) rA eA) := ⟨hm, hre⟩
  clear hn hn1 hR hd hx hm hre
  go_wp2
  have hg2 : ((w2.alloc (Obj.cells (madeCells #[Value.bool false] ns.length) 4)).alloc (Obj.cells (madeCells #[Value.bool false] ns.length) 4)).rowIs (w2.heap.size + 1) 4 ns.length (rowF s 0 eA) :=
    (by have := World.rowIs_made (w2.alloc (Obj.cells (madeCells #[Value.bool false] ns.length) 4)) (.bool false) ns.length 4; rwa [World.size_alloc] at this : World.rowIs _ (w2.heap.size + 1) 4 ns.length (fun _ => .bool false)).congr fun j _ => by simp [rowF]; omega
  have hg1 : ((w2.alloc (Obj.cells (madeCells #[Value.bool false] ns.length) 4)).alloc (Obj.cells (madeCells #[Value.bool false] ns.length) 4)).rowIs w2.heap.size 4 ns.length (rowF s 0 rA) :=
    ((World.rowIs_made w2 (.bool false) ns.length 4).alloc _).congr fun j _ => by simp [rowF]; omega
  have hbl0 : Below w2.heap.size w2 ((w2.alloc (Obj.cells (madeCells #[Value.bool false] ns.length) 4)).alloc (Obj.cells (madeCells #[Value.bool false] ns.length) 4)) := ((Below.refl _ _).alloc (Nat.le_refl _) _).alloc (by rw [World.size_alloc]; omega) _
  generalize (w2.alloc (Obj.cells (madeCells #[Value.bool false] ns.length) 4)).alloc (Obj.cells (madeCells #[Value.bool false] ns.length) 4) = w3 at hg1 hg2 hbl0 ⊢
  have hgb : w2.heap.size ≤ w2.heap.size := Nat.le_refl _
  have hgc : w2.heap.size ≤ w2.heap.size + 1 := by omega
  have hgn : w2.heap.size ≠ w2.heap.size + 1 := by omega
  have hgw : w.heap.size ≤ w2.heap.size := hb1.size
  generalize hq2 : w2.heap.size + 1 = g2 at hg2 hgc hgn ⊢
  clear hq2
  generalize hq1 : w2.heap.size = g1 at hg1 hgb hgn ⊢
  have hgw1 : w.heap.size ≤ g1 := by omega
  have hgb1 : w2.heap.size ≤ g1 := by omega
  have hgc1 : w2.heap.size ≤ g2 := by omega
  clear hq1 hgb hgc
  have HG : Hid (w3.rowIs g1 4 ns.length (rowF s 0 rA) ∧ w3.rowIs g2 4 ns.length (rowF s 0 eA) ∧ Below w2.heap.size w2 w3) := ⟨hg1, hg2, hbl0⟩
  clear hg1 hg2 hbl0
  go_loopg [19] R.length (fun gk iv wr => ∃ i : Nat, gk = R.length - i ∧ i ≤ R.length ∧ iv = .int .i64 ((s + i : Nat) : Int) ∧ Hid (wr.rowIs g1 4 ns.length (rowF s i rA) ∧ wr.rowIs g2 4 ns.length (rowF s i eA) ∧ Below w2.heap.size w2 wr))
  case atStart => exact ⟨0, by omega, by omega, by go_num, HG⟩
  case round =>
    obtain ⟨i, hgk, hi, rfl, HW⟩ := hrel
    clear HG
    by_cases hlt : i < R.length
    · obtain ⟨nd, hnd⟩ : ∃ d, R[i]? = some d := ⟨_, List.getElem?_eq_getElem hlt⟩
      obtain ⟨p, hp⟩ : ∃ p, P[i]? = some p := ⟨_, List.getElem?_eq_getElem (by have := HL.out; omega)⟩
      obtain ⟨g, rfl, hnc, hcm, hbg, hgl⟩ := row_some HN.out (by omega)
      have hrow := ownsRow_below HN.out HW.out.2.2 (Nat.le_refl _)
      have hnn := HR.out.1.get hnd
      obtain ⟨c0, c1, c2, c3, c4, c5, c6, c7⟩ := nodeAt hrow hnn
      have hmm := HM.out.1 i nd p hnd hp
      have hpar := HM.out.2.par i nd hnd
      have hent := HM.out.2.ent i p hp
      have hdep := HR.out.2.1 nd (List.mem_of_getElem? hnn)
      have htx := HR.out.2.2 nd (List.mem_of_getElem? hnn)
      have hgl' : g < wr.heap.size := by have := HW.out.2.2.size; omega
      have hl1 : g1 < wr.heap.size := HW.out.1.lt
      have hl2 : g2 < wr.heap.size := HW.out.2.1.lt
      have HE : Hid (eA (s + i) = (p.2.kind == 2 && intoOf X av md p.1 p.2)) := hent
      have HP : Hid ((nd.parent = (s : Int) - 1 ∧ rA (s + i) = true) ∨ ∃ x : Nat, nd.parent = (x : Int) ∧ s ≤ x ∧ x < s + i ∧ rA (s + i) = (rA x && eA x)) := hpar
      have HMM : Hid (Stif.Meets bd nd p) := hmm
      have z1 : wr.cell? ⟨g1, s + i, none⟩ = some (rowF s i rA (s + i)) := HW.out.1.cell (by omega)
      have z2 : wr.frozen? ⟨g1, s + i, none⟩ = false := HW.out.1.frozen _
      clear hent hpar hmm hrow hnn hnd hp
      go_upto_if 49 with fail
      go_cut [] from 50 to 67 (fun wx => RMid w2 wr wx g1 g2 ns.length s i rA eA nd)
      case first =>
        rcases HP.out with ⟨h1, h2⟩ | ⟨x, h1, h2, h3, h4⟩
        · have hb1 : (nd.parent == (s : Int) - 1) = true := by simp [h1]
          clear h1
          have H2 : Hid (rA (s + i) = true) := h2
          clear h2
          go_wp2
          go_meet
          exact rmid HW.out.1 HW.out.2.1 HW.out.2.2 hgb1 hgn H2.out.symm
        · have hb1 : (nd.parent == (s : Int) - 1) = false := by rw [beq_eq_false_iff_ne]; omega
          have hxn : nd.parent.toNat = x := by omega
          have k1 : wr.cell? ⟨g1, nd.parent.toNat, none⟩ = some (.bool (rA x)) := by rw [HW.out.1.cell (i := nd.parent.toNat) (by omega), hxn, rowF_in h2 h3]
          have k2 : wr.cell? ⟨g2, nd.parent.toNat, none⟩ = some (.bool (eA x)) := by rw [HW.out.2.1.cell (i := nd.parent.toNat) (by omega), hxn, rowF_in h2 h3]
          have hx0 : 0 ≤ nd.parent := by omega
          have hx1 : nd.parent < ns.length := by omega
          have H4 : Hid (rA (s + i) = (rA x && eA x)) := h4
          clear h1 hxn h4
          cases hrx : rA x
          · have H5 : Hid (rA x = false) := hrx
            rw [hrx] at k1
            clear hrx
            go_wp2
            go_meet
            exact rmid HW.out.1 HW.out.2.1 HW.out.2.2 hgb1 hgn (by rw [H4.out, H5.out, Bool.false_and])
          · have H5 : Hid (rA x = true) := hrx
            rw [hrx] at k1
            clear hrx
            go_wp2
            go_meet
            exact rmid HW.out.1 HW.out.2.1 HW.out.2.2 hgb1 hgn (by rw [H4.out, H5.out, Bool.true_and])
      case rest =>
        obtain ⟨blk, r1, r2, bl, sz⟩ := hcut
        clear c0 c1 c2 c3 c4 c5 c6 c7 hgl' hl1 hl2 z1 z2 HP
        have hdb := HMM.out.depth
        have hkk := HMM.out.kind
        have n0 := cell_at (i := 0) blk rfl
        have n3 := cell_at (i := 3) blk rfl
        have n4 := cell_at (i := 4) blk rfl
        have n5 := cell_at (i := 5) blk rfl
        have y1 : wc.cell? ⟨g2, s + i, none⟩ = some (rowF s i eA (s + i)) := r2.cell (by omega)
        have y2 : wc.frozen? ⟨g2, s + i, none⟩ = false := r2.frozen _
        have HQ : Hid (wc.rowIs g1 4 ns.length (rowF s (i + 1) rA) ∧ wc.rowIs g2 4 ns.length (rowF s i eA) ∧ Below w2.heap.size w2 wc) := ⟨r1, r2, bl⟩
        have HD : Hid (nd.depth = bd + p.1) := hdb
        have hbd : (bd : Int) ≤ nd.depth := by omega
        have HK : Hid (nd.kind = p.2.kind) := hkk
        clear r1 r2 bl blk hdb hkk HW
        generalize wr.heap.size = bn at *
        by_cases hk2 : nd.kind = 2
        · have hkb : ((nd.kind : Int) == 2) = true := by simp [hk2]
          have HK2 : Hid (nd.kind = 2) := hk2
          clear hk2
          by_cases hlm : (nd.depth : Int) - bd < md
          · have hlb : decide ((nd.depth : Int) - bd < md) = true := by simp only [hlm, decide_true]
            go_wp2
            go_roundg (R.length - (i + 1))
            case measure => omega
            case rel =>
              refine ⟨i + 1, rfl, by omega, by go_num, HQ.out.1.setOther (by exact hgn) _, row_set HQ.out.2.1 ?_, HQ.out.2.2.setCell hgc1 _⟩
              have e1 : (p.1 : Int) = (nd.depth : Int) - bd := by have := HD.out; omega
              have e2 : eA (s + i) = (decide ((nd.depth : Int) - bd < md) && !((X.extract nd.txt (nd.txt + nd.n)).toList == av.toList)) := by
                rw [HE.out, ← HK.out, HK2.out, intoOf, e1, HMM.out.txt, HMM.out.n]; rfl
              rw [e2, hlb]; rfl
          · have hlb : decide ((nd.depth : Int) - bd < md) = false := by simp only [hlm, decide_false]
            go_wp2
            go_roundg (R.length - (i + 1))
            case measure => omega
            case rel =>
              refine ⟨i + 1, rfl, by omega, by go_num, HQ.out.1.setOther (by exact hgn) _, row_set HQ.out.2.1 ?_, HQ.out.2.2.setCell hgc1 _⟩
              have e1 : (p.1 : Int) = (nd.depth : Int) - bd := by have := HD.out; omega
              have e2 : eA (s + i) = (decide ((nd.depth : Int) - bd < md) && !((X.extract nd.txt (nd.txt + nd.n)).toList == av.toList)) := by
                rw [HE.out, ← HK.out, HK2.out, intoOf, e1, HMM.out.txt, HMM.out.n]; rfl
              rw [e2, hlb]; rfl
        · have hkb : ((nd.kind : Int) == 2) = false := by simp; omega
          have HK2 : Hid (nd.kind ≠ 2) := hk2
          clear hk2
          go_wp2
          go_roundg (R.length - (i + 1))
          case measure => omega
          case rel =>
            refine ⟨i + 1, rfl, by omega, by go_num, HQ.out.1, row_keep HQ.out.2.1 ?_, HQ.out.2.2⟩
            rw [HE.out, ← HK.out]
            have := HK2.out
            simp [this]
    obtain rfl : i = R.length := by omega
    clear hgk hi hlt
    go_wp2
    go_ret
    exact ⟨hb1.trans (HW.out.2.2.mono hgw), g1, rfl, hgw1, HW.out.1⟩
end Go.Proofs.Qxb6618677a
