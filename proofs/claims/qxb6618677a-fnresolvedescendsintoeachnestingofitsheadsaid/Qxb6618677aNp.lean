/-
  zzNamedByPath.
-/
import Derived.Test.Qxb6618677aNp0
import Derived.Test.Qxb6618677aRp
import Derived.Test.Qxb6618677aZv
namespace Go.Proofs.Qxb6618677a
open Go.RowKit

def NPost (X : ByteArray) (Pa : List ByteArray) (nm : ByteArray) (ts : List Stif.Tok) (w : World) (e : Ending) (w' : World) : Prop :=
  Below w.heap.size w w' ∧ ∃ v, e = .returned (.tuple #[.int .i64 ((named X Pa nm false ts).length : Nat), .int .i64 ((named X Pa nm true ts).length : Nat), v]) ∧
    w'.ownsRow w.heap.size 9 1 v (allv X ts (named X Pa nm false ts)).length ((allv X ts (named X Pa nm false ts)).map .string)

theorem cell_two_new (w : World) (o : Obj) (u : Value) (t : TypeId) : ∀ j x, [u][j]? = some x → ((w.alloc o).alloc (.cells #[u] t)).cell? ((⟨w.heap.size + 1, 0, none⟩ : Addr).add j) = some x := by
  have := cell_one_new (w.alloc o) u t
  rwa [World.size_alloc] at this
/-- Another block is none of the row's own. -/
theorem row_other {w : World} {base k n : Nat} {v : Value} {xs : List Value} {o : Obj} (h : w.ownsRow base 9 1 v n xs) (hk : w.heap[k]? = some o) (ho : ∀ c fr, o ≠ .cells c 9 fr) : v.ownBlock ≠ some k := by
  rcases h.2 with ⟨h1, _⟩ | ⟨g, cap, cur, hv, _, hh, _⟩
  · rw [h1]; intro e; cases e
  · rw [hv]
    intro e
    cases e
    rw [hh] at hk
    cases hk
    exact ho _ _ rfl
theorem runN_kind : ∀ (ts : List Stif.Tok) (d : Nat), ∀ p ∈ Stif.runN d ts, p.2.kind ≠ 3
  | [], d, p, h => by simp [Stif.runN] at h
  | a :: L, d, p, h => by
    unfold Stif.runN at h
    by_cases k3 : a.kind = 3
    · rw [if_pos k3] at h
      split at h
      · simp at h
      · exact runN_kind L _ p h
    · rw [if_neg k3] at h
      split at h
      · rcases List.mem_cons.1 h with rfl | h
        · exact k3
        · exact runN_kind L _ p h
      · rcases List.mem_cons.1 h with rfl | h
        · exact k3
        · exact runN_kind L _ p h
theorem selK_yes {X : ByteArray} {Pa : List ByteArray} {nm : ByteArray} {p : Nat × Stif.Tok} (h1 : p.2.kind ≠ 1) (h2 : p.1 = Pa.length) (h3 : ((X.extract p.2.txt (p.2.txt + p.2.n)).toList == nm.toList) = true) (nest : Bool) : selK X Pa nm nest (p, true) = (((p.2.kind : Int) == 2) == nest) := by
  unfold selK fsel Stif.sel Stif.isField
  rw [h3, h2]
  simp [h1]
theorem selK_depth {X : ByteArray} {Pa : List ByteArray} {nm : ByteArray} {nest r : Bool} {p : Nat × Stif.Tok} (h : p.1 ≠ Pa.length) : selK X Pa nm nest (p, r) = false := by
  unfold selK fsel
  have : (p.1 == Pa.length) = false := by simpa using h
  rw [this]; simp
theorem selK_name {X : ByteArray} {Pa : List ByteArray} {nm : ByteArray} {nest r : Bool} {p : Nat × Stif.Tok} (h : ((X.extract p.2.txt (p.2.txt + p.2.n)).toList == nm.toList) = false) : selK X Pa nm nest (p, r) = false := by
  unfold selK fsel
  rw [h]; simp

set_option maxRecDepth 100000 in
set_option maxHeartbeats 4000000 in
theorem namedByPath_any (v : Value) (ns R : List Stif.Node) (base s bd : Nat) (T X : ByteArray) (Pa : List ByteArray) (nm : ByteArray) (g0 o0 c0 i0 x0 : Nat) (ts : List Stif.Tok) (op : List Nat) (b : Int) (w : World) (hpa : StrRow w (.slice (some ⟨g0, o0, none⟩) (Pa.length + 1) c0) g0 (Pa ++ [nm])) (hPl : Pa.length ≤ 1048576)
    (hn : w.ownsRow base 44 8 v ns.length (rowOf ns)) (hlen : ns.length ≤ 1048576) (hT : T.size ≤ 1048576) (hX : X.size ≤ 1048576) (hR : RunIs ns b s bd R) (hd : ∀ d ∈ ns, d.depth ≤ 1048576) (hx : ∀ d ∈ ns, d.txt + d.n ≤ X.size) (hl : R.length = (Stif.runN 0 ts).length)
    (hm : ∀ (i : Nat) nd p, R[i]? = some nd → (Stif.runN 0 ts)[i]? = some p → Stif.Meets bd nd p) (hch : Stif.chain T X.size i0 x0 ts T.size X.size) (h1 : op.length = bd) (h2 : Stif.parentOf op = b) (h3 : ns.drop s = Stif.nodesOf op s ts) :
    Calls Try.prog 24 #[v, .int .i64 b, .string X, .slice (some ⟨g0, o0, none⟩) (Pa.length + 1) c0] w (NPost X Pa nm ts w) := by
  have hre := reach_of (pathInto X Pa) hR hl h1 h2 h3
  obtain ⟨hsl, rfl⟩ := hR.le
  have hg0 := hpa.lt
  obtain ⟨i9, hi9, hz9, hs9, hb9⟩ := info_parts Try.info9
  have hlast : w.cell? ⟨g0, o0 + Pa.length, none⟩ = some (.string nm) := by
    obtain ⟨o', c', hv, _, _, h⟩ := hpa.ex
    simp at hv
    obtain ⟨rfl, rfl⟩ := hv
    exact h Pa.length nm (by simp)
  have hPi : (Pa.length : Int) ≤ 1048576 := by omega
  have HLn : Hid (R.length = (Stif.runN 0 ts).length) := hl
  clear hl
  go_enter Try.func24, Try.ntmps24
  go_wp2_with fail
  refine (reach_path v ns R (Stif.runN 0 ts) _ _ base s bd X Pa nm g0 o0 c0 0 _ _ w hpa hPl hn hlen hX hR hd hx HLn.out hm hre).mono ?_
  rintro e w1 ⟨hb1, g1, rfl, hg1, hrow⟩
  have hn1 := ownsRow_below hn hb1 (Nat.le_refl _)
  go_wp2_with fail
  refine (runEnd_run v ns R _ s bd _ _ hn1 (by omega) hR).mono ?_
  rintro e w2 ⟨rfl, hb2⟩
  have hn2 := ownsRow_below hn1 hb2 (Nat.le_refl _)
  go_wp2_with fail
  refine (baseDepth_run v ns R _ s bd _ _ hn2 (by omega) hR hd).mono ?_
  rintro e w3 ⟨rfl, rfl⟩
  have hrow2 : w3.rowIs g1 4 ns.length (rowF s R.length (rAof (pathInto X Pa) ts s)) := hrow.of_block (hb2.block g1 hrow.lt)
  have hBw : Below w.heap.size w w3 := hb1.trans (hb2.mono hb1.size)
  obtain ⟨ao, c, rfl⟩ := row_slice hn2
  have HN : Hid (w3.ownsRow base 44 8 (.slice ao ns.length c) ns.length (rowOf ns) ∧ w3.rowIs g1 4 ns.length (rowF s R.length (rAof (pathInto X Pa) ts s)) ∧ Below w.heap.size w w3) := ⟨hn2, hrow2, hBw⟩
  have HR : Hid (RunIs ns (↑s - 1) s bd R ∧ (∀ d ∈ ns, d.depth ≤ 1048576) ∧ (∀ d ∈ ns, d.txt + d.n ≤ X.size) ∧ R.length = (Stif.runN 0 ts).length) := ⟨hR, hd, hx, HLn.out⟩
  have HM : Hid ((∀ (i : Nat) nd p, R[i]? = some nd → (Stif.runN 0 ts)[i]? = some p → Stif.Meets bd nd p) ∧ Stif.chain T X.size i0 x0 ts T.size X.size ∧ ns.drop s = Stif.nodesOf op s ts) := ⟨hm, hch, h3⟩
  have hl3 : w3.cell? ⟨g0, o0 + Pa.length, none⟩ = some (.string nm) := by rw [hBw.cell hg0]; exact hlast
  clear hn hn1 hn2 hrow hrow2 hR hd hx hm hch h1 h2 h3 hre hpa hb1 hb2 hBw hlast
  go_wp2_with fail
  go_loopg [15, 16, 17, 18] R.length (fun gk pv nv vv iv wr => ∃ (i a m : Nat) (L : List ByteArray) (v : Value), gk = R.length - i ∧ i ≤ R.length ∧ pv = .int .i64 (a : Int) ∧ nv = .int .i64 (m : Int) ∧ vv = v ∧ iv = .int .i64 ((s + i : Nat) : Int) ∧ Hid (a = (selI X Pa nm false ts i).length ∧ m = (selI X Pa nm true ts i).length ∧ L = allv X ts (selI X Pa nm false ts i) ∧ wr.ownsRow w3.heap.size 9 1 v L.length (L.map .string) ∧ Below w3.heap.size w3 wr))
  case atStart => exact ⟨0, 0, 0, [], .slice none 0 0, by omega, by omega, rfl, rfl, rfl, by go_num, by simp [selI], by simp [selI], by simp [selI, allv], World.ownsRow_nil _ _ _ _, Below.refl _ _⟩
  case round =>
    obtain ⟨i, a, m, L, v, hgk, hi, rfl, rfl, hv, rfl, HW⟩ := hrel
    replace hv := hv.symm
    subst hv
    by_cases hlt : i < R.length
    · obtain ⟨nd, hnd⟩ : ∃ d, R[i]? = some d := ⟨_, List.getElem?_eq_getElem hlt⟩
      obtain ⟨p, hp⟩ : ∃ p, (Stif.runN 0 ts)[i]? = some p := ⟨_, List.getElem?_eq_getElem (by have := HR.out.2.2.2; omega)⟩
      obtain ⟨r, hr⟩ : ∃ r, (Stif.reachN (pathInto X Pa) 0 0 ts)[i]? = some r := ⟨_, List.getElem?_eq_getElem (by have h1 := HR.out.2.2.2; have h2 := Stif.reachN_length (pathInto X Pa) ts 0 0; rw [show (0 + 0 : Nat) = 0 from rfl] at h2; omega)⟩
      obtain ⟨g, rfl, hnc, hcm, hbg, hgl⟩ := row_some HN.out.1 (by omega)
      have hrow := ownsRow_below HN.out.1 HW.out.2.2.2.2 (Nat.le_refl _)
      have hnn := HR.out.1.get hnd
      obtain ⟨c0, c1, c2, c3, c4, c5, c6, c7⟩ := nodeAt hrow hnn
      have hmm := HM.out.1 i nd p hnd hp
      have hdep := HR.out.2.1 nd (List.mem_of_getElem? hnn)
      have htx := HR.out.2.2.1 nd (List.mem_of_getElem? hnn)
      have hws := HW.out.2.2.2.2.size
      have hgl' : g < wr.heap.size := by omega
      have hl1 : g1 < wr.heap.size := by have := HN.out.2.1.lt; omega
      have hl0 : g0 < wr.heap.size := by have := HN.out.2.2.size; omega
      have z1 : wr.cell? ⟨g1, s + i, none⟩ = some (.bool r) := by
        have h1 := HN.out.2.1.cell (i := s + i) (by omega)
        rw [HW.out.2.2.2.2.cell (show g1 < w3.heap.size from HN.out.2.1.lt), h1, rowF_in (by omega) (by omega)]
        unfold rAof
        rw [show s + i - s = i by omega, hr]
        rfl
      have z2 : wr.cell? ⟨g0, o0 + Pa.length, none⟩ = some (.string nm) := by
        rw [HW.out.2.2.2.2.cell (show g0 < w3.heap.size by have := HN.out.2.2.size; omega)]; exact hl3
      have HMM : Hid (Stif.Meets bd nd p ∧ (Stif.runN 0 ts)[i]? = some p ∧ (Stif.reachN (pathInto X Pa) 0 0 ts)[i]? = some r ∧ ns[s + i]? = some nd) := ⟨hmm, hp, hr, hnn⟩
      have hbd : (bd : Int) ≤ nd.depth := by have := hmm.depth; omega
      have hsi : ((s : Int) + i) < ns.length := by omega
      have hltb : decide (((s + i : Nat) : Int) < ((s : Int) + R.length)) = true := by simp; omega
      have hal : a ≤ 1048576 := by have := HW.out.1; have := selI_len X Pa nm false ts i; omega
      have hml : m ≤ 1048576 := by have := HW.out.2.1; have := selI_len X Pa nm true ts i; omega
      clear hmm hrow hnn hnd hp hr hws
      have skip : (selK X Pa nm false (p, r) = false) → (selK X Pa nm true (p, r) = false) → ∀ W', Below wr.heap.size wr W' → Hid (a = (selI X Pa nm false ts (i + 1)).length ∧ m = (selI X Pa nm true ts (i + 1)).length ∧ L = allv X ts (selI X Pa nm false ts (i + 1)) ∧ W'.ownsRow w3.heap.size 9 1 v L.length (L.map .string) ∧ Below w3.heap.size w3 W') := fun h1 h2 W' hb => by
        obtain ⟨k1, k2, k3, k4, k5⟩ := HW.out
        have e1 := selI_step (X := X) (Pa := Pa) (nm := nm) (nest := false) HMM.out.2.1 HMM.out.2.2.1
        have e2 := selI_step (X := X) (Pa := Pa) (nm := nm) (nest := true) HMM.out.2.1 HMM.out.2.2.1
        rw [h1] at e1
        rw [h2] at e2
        simp only [Bool.false_eq_true, if_false, List.append_nil] at e1 e2
        rw [e1, e2]
        exact ⟨k1, k2, k3, ownsRow_below k4 hb (Nat.le_refl _), k5.trans (hb.mono k5.size)⟩
      have HS : Hid ((selK X Pa nm false (p, r) = false) → (selK X Pa nm true (p, r) = false) → ∀ W', Below wr.heap.size wr W' → Hid (a = (selI X Pa nm false ts (i + 1)).length ∧ m = (selI X Pa nm true ts (i + 1)).length ∧ L = allv X ts (selI X Pa nm false ts (i + 1)) ∧ W'.ownsRow w3.heap.size 9 1 v L.length (L.map .string) ∧ Below w3.heap.size w3 W')) := skip
      clear skip
      by_cases hk1 : nd.kind = 1
      · have hkb : ((nd.kind : Int) == 1) = true := by simp [hk1]
        have HK : Hid (nd.kind = 1) := hk1
        clear hk1
        go_wp2
        go_quiet (fail)
        go_wp2
        go_roundg (R.length - (i + 1))
        case measure => omega
        case rel => exact ⟨i + 1, a, m, L, v, rfl, by omega, rfl, rfl, rfl, by go_num, HS.out (by have := HMM.out.1.kind; have := HK.out; simp [selK, Stif.sel, Stif.isField]; omega) (by have := HMM.out.1.kind; have := HK.out; simp [selK, Stif.sel, Stif.isField]; omega) _ (below_drewN ((Below.refl _ _).alloc (Nat.le_refl _) _) _)⟩
      · have hkb : ((nd.kind : Int) == 1) = false := by simp; omega
        have HK : Hid (nd.kind ≠ 1) := hk1
        clear hk1
        cases r with
        | false =>
          go_wp2
          go_quiet (fail)
          go_wp2
          go_roundg (R.length - (i + 1))
          case measure => omega
          case rel => exact ⟨i + 1, a, m, L, v, rfl, by omega, rfl, rfl, rfl, by go_num, HS.out (by simp [selK, Stif.sel]) (by simp [selK, Stif.sel]) _ (below_drewN ((Below.refl _ _).alloc (Nat.le_refl _) _) _)⟩
        | true =>
        by_cases hdp : (nd.depth : Int) - bd = Pa.length
        case neg =>
          have hdb : ((nd.depth : Int) - bd != Pa.length) = true := by simp [hdp]
          have HD : Hid ((nd.depth : Int) - bd ≠ Pa.length) := hdp
          clear hdp
          go_wp2
          go_quiet (fail)
          go_wp2
          go_roundg (R.length - (i + 1))
          case measure => omega
          case rel => exact ⟨i + 1, a, m, L, v, rfl, by omega, rfl, rfl, rfl, by go_num, HS.out (selK_depth (by have := HD.out; have := HMM.out.1.depth; omega)) (selK_depth (by have := HD.out; have := HMM.out.1.depth; omega)) _ (below_drewN ((Below.refl _ _).alloc (Nat.le_refl _) _) _)⟩
        have hdb : ((nd.depth : Int) - bd != Pa.length) = false := by simp [hdp]
        have HD : Hid ((nd.depth : Int) - bd = Pa.length) := hdp
        have hpl1 : (Pa.length : Int) < (Pa.length : Int) + 1 := by omega
        clear hdp
        cases hnm : ((X.extract nd.txt (nd.txt + nd.n)).toList == nm.toList) with
        | false =>
          have HNM : Hid (((X.extract nd.txt (nd.txt + nd.n)).toList == nm.toList) = false) := hnm
          go_wp2
          go_quiet (fail)
          go_wp2
          go_roundg (R.length - (i + 1))
          case measure => omega
          case rel => exact ⟨i + 1, a, m, L, v, rfl, by omega, rfl, rfl, rfl, by go_num, HS.out (selK_name (by rw [← HMM.out.1.txt, ← HMM.out.1.n]; exact HNM.out)) (selK_name (by rw [← HMM.out.1.txt, ← HMM.out.1.n]; exact HNM.out)) _ (below_drewN ((Below.refl _ _).alloc (Nat.le_refl _) _) _)⟩
        | true =>
        have HNM : Hid (((X.extract nd.txt (nd.txt + nd.n)).toList == nm.toList) = true) := hnm
        by_cases hk2 : nd.kind = 2
        · have hkc : ((nd.kind : Int) == 2) = true := by simp [hk2]
          have HK2 : Hid (nd.kind = 2) := hk2
          clear hk2
          go_wp2
          go_quiet (fail)
          go_wp2
          go_roundg (R.length - (i + 1))
          case measure => omega
          case rel =>
            refine ⟨i + 1, a, m + 1, L, v, rfl, by omega, rfl, by go_num, rfl, by go_num, ?_⟩
            obtain ⟨k1, k2, k3, k4, k5⟩ := HW.out
            have e1 := selI_step (X := X) (Pa := Pa) (nm := nm) (nest := false) HMM.out.2.1 HMM.out.2.2.1
            have e2 := selI_step (X := X) (Pa := Pa) (nm := nm) (nest := true) HMM.out.2.1 HMM.out.2.2.1
            have q1 := selK_yes (X := X) (nm := nm) (Pa := Pa) (p := p) (by rw [← HMM.out.1.kind]; exact HK.out) (by have := HD.out; have := HMM.out.1.depth; omega) (by rw [← HMM.out.1.txt, ← HMM.out.1.n]; exact HNM.out)
            have hpk : p.2.kind = 2 := by rw [← HMM.out.1.kind]; exact HK2.out
            rw [q1 false, hpk] at e1
            rw [q1 true, hpk] at e2
            simp at e1 e2
            have hB := below_drewN ((Below.refl wr.heap.size wr).alloc (Nat.le_refl _) (ndObj nd)) nq
            exact ⟨by rw [e1]; exact k1, by rw [e2, List.length_append, ← k2]; rfl, by rw [e1]; exact k3, ownsRow_below k4 hB (Nat.le_refl _), k5.trans (hB.mono k5.size)⟩
        · have hkc : ((nd.kind : Int) == 2) = false := by simp; omega
          have hk0 : nd.kind = 0 := by
            have h1 := HMM.out.1.kind
            have h2 := runN_kind ts 0 p (List.mem_of_getElem? HMM.out.2.1)
            have h3 := Stif.chain_kind HM.out.2.1 p.2 (Stif.runN_mem ts 0 p (List.mem_of_getElem? HMM.out.2.1))
            have := HK.out
            omega
          obtain ⟨hv1, hv2⟩ := node_vals HM.out.2.1 HM.out.2.2 HMM.out.2.2.2 HMM.out.2.1 HMM.out.1 hk0
          have HV : Hid (nd.values = (fvals X ts p).length ∧ (∀ j, j < nd.values → ∃ d, ns[s + i + 1 + j]? = some d ∧ (fvals X ts p)[j]? = some (X.extract d.txt (d.txt + d.n))) ∧ nd.kind = 0) := ⟨hv1, hv2, hk0⟩
          have hvl : nd.values ≤ 1048576 := by
            have h1 := fvals_len X ts p
            have h2 := (Stif.chain_le HM.out.2.1).1
            omega
          clear hv1 hv2 hk2 hk0
          go_wp2
          go_quiet (fail)
          go_wp2
          have hB := below_drewN ((Below.refl wr.heap.size wr).alloc (Nat.le_refl _) (ndObj nd)) nq
          have HI : Hid (((wr.alloc (ndObj nd)).drewN nq).ownsRow w3.heap.size 9 1 v L.length (L.map .string) ∧ Below w3.heap.size w3 ((wr.alloc (ndObj nd)).drewN nq) ∧ ((wr.alloc (ndObj nd)).drewN nq).heap[wr.heap.size]? = some (ndObj nd)) :=
            ⟨ownsRow_below HW.out.2.2.2.1 hB (Nat.le_refl _), HW.out.2.2.2.2.trans (hB.mono HW.out.2.2.2.2.size), World.alloc_heap_new wr _⟩
          clear hB
          change Code.wp Try.prog _ _ _ ((wr.alloc (ndObj nd)).drewN nq)
          clear z1 z2 c0 c1 c2 c3 c4 c5 c6 c7 hgl' hl1 hl0
          generalize (wr.alloc (ndObj nd)).drewN nq = W4 at HI ⊢
          generalize wr.heap.size = bn at HI ⊢
          go_loopg [17, 20] nd.values (fun gq vv jv wq => ∃ (k : Nat) (v' : Value), gq = nd.values - k ∧ k ≤ nd.values ∧ vv = v' ∧ jv = .int .i64 ((k + 1 : Nat) : Int) ∧ Hid (wq.ownsRow w3.heap.size 9 1 v' (L ++ (fvals X ts p).take k).length ((L ++ (fvals X ts p).take k).map .string) ∧ Below w3.heap.size w3 wq ∧ wq.heap[bn]? = some (ndObj nd)))
          case atStart => exact ⟨0, v, by omega, by omega, rfl, by go_num, by simpa using HI.out.1, HI.out.2⟩
          case round =>
            obtain ⟨k, v', hgq, hk, hvv, rfl, HQ⟩ := hrel
            replace hvv := hvv.symm
            subst hvv
            clear HI
            have q7 : wr.cell? ⟨bn, 7, none⟩ = some (.int .i64 nd.values) := cell_at HQ.out.2.2 rfl
            by_cases hkl : k < nd.values
            · have hkb : decide (((k + 1 : Nat) : Int) ≤ (nd.values : Int)) = true := by simp; omega
              obtain ⟨d, hd, hfd⟩ := HV.out.2.1 k hkl
              have hrow := ownsRow_below HN.out.1 HQ.out.2.1 (Nat.le_refl _)
              rw [show s + i + 1 + k = s + i + (k + 1) by omega] at hd
              obtain ⟨d0, d1, d2, d3, d4, d5, d6, d7⟩ := nodeAt hrow hd
              have hdx := HR.out.2.2.1 d (List.mem_of_getElem? hd)
              have hdl : s + i + (k + 1) < ns.length := (List.getElem?_eq_some_iff.1 hd).1
              have HF : Hid ((fvals X ts p)[k]? = some (X.extract d.txt (d.txt + d.n))) := hfd
              have hLl : (L ++ (fvals X ts p).take k).length ≤ 2199023255552 := by
                have h1 := HW.out.2.2.1
                have h2 := flat_len (fvals X ts) T.size (fun a => by have := fvals_len X ts a; have := (Stif.chain_le HM.out.2.1).1; omega) (selI X Pa nm false ts i)
                have h3 := selI_len X Pa nm false ts i
                have h4 : (selI X Pa nm false ts i).length * T.size ≤ 1048576 * 1048576 := Nat.mul_le_mul (by omega) hT
                rw [List.length_append, h1]
                unfold allv
                have h5 := List.length_take_le k (fvals X ts p)
                omega
              have hd1 : ((s + i : Nat) : Int) + ((k + 1 : Nat) : Int) < ns.length := by omega
              clear hd hfd hrow
              go_wp2_with (at_builtin; go_must (refine wpList_append_own_at _ rfl _ _ 45 rfl w3.heap.size 9 i9 _ 1 16 Try.underlying45 hi9 hz9 hs9 hb9 rfl (by decide) v' _ _ rfl ((HQ.out.1.alloc _).alloc _) ⟨wr.heap.size + 1, 0, none⟩ 1 1 [.string (X.extract d.txt (d.txt + d.n))] rfl rfl (cell_two_new _ _ _ _) (by simp [Value.oneCell']) (by unfold maxLen; omega) (by omega) (by have := HQ.out.2.1.size; simp; omega) ?_); intro v2 w5 hown hgrow _ hat)
              obtain ⟨g5, cap5, rfl⟩ := ownsRow_succ hown
              have hB2 : Below w3.heap.size w3 w5 := ((HQ.out.2.1.alloc HQ.out.2.1.size _).alloc (by have := HQ.out.2.1.size; simp; omega) _).grown hgrow (by have := HQ.out.2.1.size; simp; omega) (fun q hq => (HQ.out.1.lt q hq).1)
              have hbnl : bn < wr.heap.size := (Array.getElem?_eq_some_iff.1 HQ.out.2.2).1
              have hbk : w5.heap[bn]? = some (ndObj nd) := by
                rw [hgrow.block bn (by simp; omega) (fun e => row_other HQ.out.1 HQ.out.2.2 (by intro c fr h; cases h) e.symm), Below.heap_alloc _ _ _ (by simp; omega), Below.heap_alloc _ _ _ hbnl]
                exact HQ.out.2.2
              have HX : Hid (w5.ownsRow w3.heap.size 9 1 (.slice (some ⟨g5, 0, none⟩) ((L ++ (fvals X ts p).take k).length + 1) cap5) (L ++ (fvals X ts p).take (k + 1)).length ((L ++ (fvals X ts p).take (k + 1)).map .string) ∧ Below w3.heap.size w3 w5 ∧ w5.heap[bn]? = some (ndObj nd)) := by
                refine ⟨?_, hB2, hbk⟩
                have e : L ++ (fvals X ts p).take (k + 1) = (L ++ (fvals X ts p).take k) ++ [X.extract d.txt (d.txt + d.n)] := by
                  rw [List.take_add_one, HF.out, List.append_assoc]; rfl
                have el : (L ++ (fvals X ts p).take (k + 1)).length = (L ++ (fvals X ts p).take k).length + 1 := by rw [e, List.length_append]; rfl
                rw [el, e, List.map_append]
                exact hown
              clear hown hgrow hat hB2 hbk
              go_wp2
              go_roundg (nd.values - (k + 1))
              case measure => omega
              case rel => exact ⟨k + 1, _, rfl, by omega, rfl, by go_num, HX⟩
            · have hkb : decide (((k + 1 : Nat) : Int) ≤ (nd.values : Int)) = false := by simp; omega
              go_wp2
              go_roundg (R.length - (i + 1))
              case measure => omega
              case rel =>
                obtain rfl : k = nd.values := by omega
                obtain ⟨j1, j2, j3⟩ := HQ.out
                rw [List.take_of_length_le (Nat.le_of_eq HV.out.1.symm)] at j1
                refine ⟨i + 1, a + 1, m, L ++ fvals X ts p, v', rfl, by omega, by go_num, rfl, rfl, by go_num, ?_⟩
                obtain ⟨k1, k2, k3, k4, k5⟩ := HW.out
                have e1 := selI_step (X := X) (Pa := Pa) (nm := nm) (nest := false) HMM.out.2.1 HMM.out.2.2.1
                have e2 := selI_step (X := X) (Pa := Pa) (nm := nm) (nest := true) HMM.out.2.1 HMM.out.2.2.1
                have q1 := selK_yes (X := X) (nm := nm) (Pa := Pa) (p := p) (by rw [← HMM.out.1.kind]; exact HK.out) (by have := HD.out; have := HMM.out.1.depth; omega) (by rw [← HMM.out.1.txt, ← HMM.out.1.n]; exact HNM.out)
                have hpk : p.2.kind = 0 := by rw [← HMM.out.1.kind]; exact HV.out.2.2
                rw [q1 false, hpk] at e1
                rw [q1 true, hpk] at e2
                simp at e1 e2
                exact ⟨by rw [e1, List.length_append, ← k1]; rfl, by rw [e2]; exact k2, by rw [e1, k3, allv_snoc], j1, j2⟩
    · obtain rfl : i = R.length := by omega
      have hltb : decide (((s + R.length : Nat) : Int) < ((s : Int) + R.length)) = false := by simp
      go_wp2
      refine bodyPost_ret (v := .tuple #[.int .i64 (a : Int), .int .i64 (m : Int), v]) (by simp [results, Try.results24, go_sem]) rfl ?_
      obtain ⟨k1, k2, k3, k4, k5⟩ := HW.out
      rw [selI_all (Stif.chain_kind HM.out.2.1) (by have := HR.out.2.2.2; omega)] at k1 k3
      rw [selI_all (Stif.chain_kind HM.out.2.1) (by have := HR.out.2.2.2; omega)] at k2
      subst k1 k2 k3
      refine ⟨HN.out.2.2.trans (k5.mono HN.out.2.2.size), v, rfl, ?_⟩
      rcases k4.2 with ⟨h1, h2⟩ | ⟨g, cap, cur, hv, hg, hr⟩
      · exact ⟨k4.1, .inl ⟨h1, h2⟩⟩
      · exact ⟨k4.1, .inr ⟨g, cap, cur, hv, by have := HN.out.2.2.size; omega, hr⟩⟩
end Go.Proofs.Qxb6618677a
