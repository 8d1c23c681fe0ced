/-
  zzStart, zzRunEnd, zzBaseDepth, ZZNewFields.
-/
import Derived.Test.Qxb6618677aPz
import Derived.Test.Qxb6618677aNm
import Derived.BigQuiet
import Derived.Deep.QuietTactic
namespace Go.Proofs.Qxb6618677a
open Go.RowKit

theorem ownsRow_below {w w' : World} {B base : Nat} {e : TypeId} {size : Nat} {v : Value} {n : Nat} {xs : List Value} (h : w.ownsRow base e size v n xs) (hb : Below B w w') (hB : w.heap.size ≤ B) : w'.ownsRow base e size v n xs := by
  rcases h.2 with h1 | ⟨g, cap, cur, hv, hg, hh, hr⟩
  · exact ⟨h.1, .inl h1⟩
  · exact ⟨h.1, .inr ⟨g, cap, cur, hv, hg, (hb.block g (by have := (Array.getElem?_eq_some_iff.1 hh).1; omega)).trans hh, hr⟩⟩

/-- The eight cells of the i-th node. -/
structure NodeAt (w : World) (g i : Nat) (d : Stif.Node) : Prop where
  c0 : w.cell? ⟨g, i * 8, none⟩ = some (.int .i64 d.kind)
  c1 : w.cell? ⟨g, i * 8 + 1, none⟩ = some (.int .i64 d.tok)
  c2 : w.cell? ⟨g, i * 8 + 2, none⟩ = some (.int .i64 d.next)
  c3 : w.cell? ⟨g, i * 8 + 3, none⟩ = some (.int .i64 d.txt)
  c4 : w.cell? ⟨g, i * 8 + 4, none⟩ = some (.int .i64 d.n)
  c5 : w.cell? ⟨g, i * 8 + 5, none⟩ = some (.int .i64 d.depth)
  c6 : w.cell? ⟨g, i * 8 + 6, none⟩ = some (.int .i64 d.parent)
  c7 : w.cell? ⟨g, i * 8 + 7, none⟩ = some (.int .i64 d.values)
theorem nodeAt {w : World} {base g c : Nat} {ns : List Stif.Node} (h : w.ownsRow base 44 8 (.slice (some ⟨g, 0, none⟩) ns.length c) ns.length (rowOf ns)) {i : Nat} {d : Stif.Node} (hi : ns[i]? = some d) : NodeAt w g i d := by
  have hlt : i < ns.length := (List.getElem?_eq_some_iff.1 hi).1
  have k : ∀ j, j < 8 → w.cell? ⟨g, i * 8 + j, none⟩ = (nodeCells d)[j]? := fun j hj => by
    rw [h.cellAt (i * 8 + j) (by omega)]
    exact rowOf_get ns i j d hi hj
  exact ⟨k 0 (by omega), k 1 (by omega), k 2 (by omega), k 3 (by omega), k 4 (by omega), k 5 (by omega), k 6 (by omega), k 7 (by omega)⟩

set_option maxRecDepth 100000 in
set_option maxHeartbeats 400000 in
theorem newFields_any (T X : ByteArray) (tok txt skip : Int) (w : World) :
    Calls Try.prog 14 #[.string T, .string X, .int .i64 tok, .int .i64 txt, .int .i64 skip] w fun e w' => e = .returned (.agg #[.pointer (some ⟨w.heap.size + 1, 0, none⟩), .int .i64 tok, .int .i64 txt, .int .i64 skip]) ∧
      w' = (w.alloc (.cells #[.pointer (some ⟨w.heap.size + 1, 0, none⟩), .int .i64 tok, .int .i64 txt, .int .i64 skip] 35)).alloc (.cells #[.string T, .string X, .slice none 0 0] 74) := by
  go_enter Try.func14, Try.ntmps14
  go_wp2
  exact bodyPost_ret (v := .agg #[.pointer (some ⟨w.heap.size + 1, 0, none⟩), .int .i64 tok, .int .i64 txt, .int .i64 skip]) (by simp [results, Try.results14, go_sem]) rfl ⟨rfl, rfl⟩

set_option maxRecDepth 100000 in
set_option maxHeartbeats 1000000 in
theorem start_any (v : Value) (ns : List Stif.Node) (base : Nat) (tok txt skip : Int) (w : World) (hn : w.ownsRow base 44 8 v ns.length (rowOf ns)) (hlen : ns.length ≤ 1048576) (hsz : ∀ d ∈ ns, d.txt + d.n ≤ 1048576) :
    Calls Try.prog 13 #[v, .int .i64 tok, .int .i64 txt, .int .i64 skip] w fun e w' => Below w.heap.size w w' ∧ ((∃ b, e = .returned (.tuple #[.int .i64 b, .bool false])) ∨
      ∃ b : Int, e = .returned (.tuple #[.int .i64 b, .bool true]) ∧ skip = 0 ∧ ((tok = 0 ∧ txt = 0 ∧ b = -1) ∨ ∃ (i : Nat) (d : Stif.Node), ns[i]? = some d ∧ d.kind = 2 ∧ (d.next : Int) = tok ∧ (d.txt : Int) + d.n = txt ∧ b = i)) := by
  obtain ⟨ao, c, rfl⟩ := row_slice hn
  by_cases hs : skip = 0
  · have hsb : (skip != 0) = false := by simp [hs]
    have HS : Hid (skip = 0) := hs
    clear hs
    by_cases h0 : tok = 0 ∧ txt = 0
    · obtain ⟨rfl, rfl⟩ := h0
      go_enter Try.func13, Try.ntmps13
      go_wp2
      go_ret2
      exact ⟨Below.refl _ _, .inr ⟨-1, rfl, HS.out, .inl ⟨by trivial, by trivial, rfl⟩⟩⟩
    · have hb0 : (tok == 0) = false ∨ (tok == 0) = true ∧ (txt == 0) = false := by
        by_cases ht : tok = 0
        · exact .inr ⟨by simp [ht], by rw [beq_eq_false_iff_ne]; exact fun h => h0 ⟨ht, h⟩⟩
        · exact .inl (by rw [beq_eq_false_iff_ne]; exact ht)
      clear h0
      rcases hb0 with hb0 | ⟨hb0, hb1⟩
      all_goals
        go_enter Try.func13, Try.ntmps13
        go_wp2
        go_loopg [10] ns.length (fun gk iv wr => ∃ i : Nat, gk = ns.length - i ∧ i ≤ ns.length ∧ iv = .int .i64 i ∧ Below w.heap.size w wr)
        case atStart => exact ⟨0, by omega, by omega, rfl, Below.refl _ _⟩
        case round =>
          obtain ⟨i, hgk, hi, rfl, hbl⟩ := hrel
          by_cases hlt : i < ns.length
          · obtain ⟨g, rfl, hnc, hcm, hbg, hgl⟩ := row_some hn (by omega)
            obtain ⟨d, hd⟩ : ∃ d, ns[i]? = some d := ⟨_, List.getElem?_eq_getElem hlt⟩
            obtain ⟨c0, c1, c2, c3, c4, c5, c6, c7⟩ := nodeAt (ownsRow_below hn hbl (Nat.le_refl _)) hd
            have hgl' : g < wr.heap.size := by have := hbl.size; omega
            have HD : Hid (ns[i]? = some d) := hd
            have HN : Hid (w.ownsRow base 44 8 (.slice (some ⟨g, 0, none⟩) ns.length c) ns.length (rowOf ns)) := hn
            have hdn : d.txt + d.n ≤ 1048576 := hsz d (List.mem_of_getElem? hd)
            clear hd hn hsz
            go_wp2
            · have h2 : (d.kind : Int) = 2 := by assumption
              have h3 : (d.next : Int) = tok := by assumption
              have h4 : ((d.txt : Int) + d.n == txt) = true := by assumption
              go_ret2
              exact ⟨hbl.alloc hbl.size _, .inr ⟨i, rfl, HS.out, .inr ⟨i, d, HD.out, by omega, h3, beq_iff_eq.1 h4, rfl⟩⟩⟩
            all_goals
              go_roundg (ns.length - (i + 1))
              case measure => omega
              case rel => exact ⟨i + 1, rfl, by omega, by go_num, hbl.alloc hbl.size _⟩
          · go_wp2
            go_ret2
            exact ⟨hbl, .inl ⟨_, rfl⟩⟩
  · have hsb : (skip != 0) = true := by rw [bne_iff_ne]; exact hs
    go_enter Try.func13, Try.ntmps13
    go_wp2
    go_ret2
    exact ⟨Below.refl _ _, .inl ⟨_, rfl⟩⟩

/-- The index after the last node within the run of base. -/
def runEnd (ns : List Stif.Node) (b : Nat) (dep : Nat) : Nat := b + 1 + ((ns.drop (b + 1)).takeWhile fun d => decide (dep < d.depth)).length

theorem runEnd_step (ns : List Stif.Node) (dep i : Nat) (d : Stif.Node) (hd : ns[i]? = some d) (h : dep < d.depth) : ((ns.drop i).takeWhile fun d => decide (dep < d.depth)).length = 1 + ((ns.drop (i + 1)).takeWhile fun d => decide (dep < d.depth)).length := by
  obtain ⟨hlt, hd'⟩ := List.getElem?_eq_some_iff.1 hd
  rw [List.drop_eq_getElem_cons hlt, hd', List.takeWhile_cons]
  simp [h]
  omega
theorem runEnd_stop (ns : List Stif.Node) (dep i : Nat) (h : ∀ d, ns[i]? = some d → ¬ dep < d.depth) : ((ns.drop i).takeWhile fun d => decide (dep < d.depth)).length = 0 := by
  rcases Nat.lt_or_ge i ns.length with hlt | hge
  · rw [List.drop_eq_getElem_cons hlt, List.takeWhile_cons]
    have := h _ (List.getElem?_eq_getElem hlt)
    simp [this]
  · simp [List.drop_eq_nil_of_le hge]

set_option maxRecDepth 100000 in
set_option maxHeartbeats 1000000 in
theorem runEnd_top (v : Value) (ns : List Stif.Node) (base : Nat) (w : World) (hn : w.ownsRow base 44 8 v ns.length (rowOf ns)) :
    Calls Try.prog 17 #[v, .int .i64 (-1)] w fun e w' => e = .returned (.int .i64 ns.length) ∧ w' = w := by
  obtain ⟨ao, c, rfl⟩ := row_slice hn
  go_enter Try.func17, Try.ntmps17
  go_wp2
  go_ret
  exact ⟨rfl, rfl⟩

set_option maxRecDepth 100000 in
set_option maxHeartbeats 1000000 in
theorem runEnd_at (v : Value) (ns : List Stif.Node) (base b : Nat) (db : Stif.Node) (w : World) (hn : w.ownsRow base 44 8 v ns.length (rowOf ns)) (hlen : ns.length ≤ 1048576) (hb : ns[b]? = some db) :
    Calls Try.prog 17 #[v, .int .i64 b] w fun e w' => e = .returned (.int .i64 (runEnd ns b db.depth)) ∧ Below w.heap.size w w' := by
  obtain ⟨ao, c, rfl⟩ := row_slice hn
  have hbl : b < ns.length := (List.getElem?_eq_some_iff.1 hb).1
  obtain ⟨g, rfl, hnc, hcm, hbg, hgl⟩ := row_some hn (by omega)
  have cb := (nodeAt hn hb).c5
  have HN : Hid (w.ownsRow base 44 8 (.slice (some ⟨g, 0, none⟩) ns.length c) ns.length (rowOf ns)) := hn
  clear hn hb
  go_enter Try.func17, Try.ntmps17
  go_wp2
  go_loopg [5] (ns.length - (b + 1)) (fun gk iv wr => ∃ i m0 : Nat, gk = ns.length - i ∧ i ≤ ns.length ∧ b < i ∧ iv = .int .i64 i ∧ wr = w.drewN m0 ∧ Hid (runEnd ns b db.depth = i + ((ns.drop i).takeWhile fun d => decide (db.depth < d.depth)).length))
  case atStart => exact ⟨b + 1, 0, rfl, by omega, by omega, by go_num, rfl, rfl⟩
  case round =>
    obtain ⟨i, m0, hgk, hi, hbi, rfl, rfl, HR⟩ := hrel
    by_cases hlt : i < ns.length
    · obtain ⟨d, hd⟩ : ∃ d, ns[i]? = some d := ⟨_, List.getElem?_eq_getElem hlt⟩
      have ci := (nodeAt HN.out hd).c5
      have HD : Hid (ns[i]? = some d) := hd
      clear hd
      have hltb : decide ((i : Int) < (ns.length : Int)) = true := by simp; omega
      by_cases hdd : db.depth < d.depth
      · go_wp2
        go_quiet (fail)
        go_wp2
        go_roundg (ns.length - (i + 1))
        case measure => omega
        case rel => exact ⟨i + 1, m0 + nq, rfl, by omega, by omega, by go_num, rfl, by have := HR.out; rw [runEnd_step ns db.depth i d HD.out hdd] at this; show _ = _; omega⟩
      · go_wp2
        go_quiet (fail)
        go_wp2
        go_ret
        refine ⟨?_, below_drewN (below_drewN (Below.refl _ _) _) _⟩
        have := HR.out
        rw [runEnd_stop ns db.depth i (fun d' hd' => by rw [HD.out] at hd'; cases hd'; exact hdd)] at this
        rw [this]
        rfl
    · have hltb : decide ((i : Int) < (ns.length : Int)) = false := by simp; omega
      go_wp2
      go_quiet (fail)
      go_wp2
      go_ret
      refine ⟨?_, below_drewN (below_drewN (Below.refl _ _) _) _⟩
      have := HR.out
      rw [runEnd_stop ns db.depth i (fun d' hd' => by have := (List.getElem?_eq_some_iff.1 hd').1; omega)] at this
      rw [this]
      rfl

set_option maxRecDepth 100000 in
set_option maxHeartbeats 1000000 in
theorem baseDepth_top (v : Value) (w : World) : Calls Try.prog 18 #[v, .int .i64 (-1)] w fun e w' => e = .returned (.int .i64 0) ∧ w' = w := by
  go_enter Try.func18, Try.ntmps18
  go_wp2
  go_ret
  exact ⟨rfl, rfl⟩

set_option maxRecDepth 100000 in
set_option maxHeartbeats 1000000 in
theorem baseDepth_at (v : Value) (ns : List Stif.Node) (base b : Nat) (db : Stif.Node) (w : World) (hn : w.ownsRow base 44 8 v ns.length (rowOf ns)) (_hlen : ns.length ≤ 1048576) (hb : ns[b]? = some db) (hd : db.depth ≤ 1048576) :
    Calls Try.prog 18 #[v, .int .i64 b] w fun e w' => e = .returned (.int .i64 ((db.depth + 1 : Nat) : Int)) ∧ w' = w := by
  obtain ⟨ao, c, rfl⟩ := row_slice hn
  have hbl : b < ns.length := (List.getElem?_eq_some_iff.1 hb).1
  obtain ⟨g, rfl, hnc, hcm, hbg, hgl⟩ := row_some hn (by omega)
  have cb := (nodeAt hn hb).c5
  clear hn hb
  go_enter Try.func18, Try.ntmps18
  go_wp2
  go_ret
  exact ⟨by simp, rfl⟩

end Go.Proofs.Qxb6618677a
