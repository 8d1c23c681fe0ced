/-
  Pieces.AddChunk.
-/
import Derived.Test.Qxb6618748aAd
namespace Go.Proofs.Qxb6618748a
open Go.RowKit

theorem enc_le (p : Pc) (hf : p.f < 3) (hn : p.T.length ≤ 1048576) (hr : p.r.length ≤ 1048576) (hc : p.c.length ≤ 1048576) : p.enc.length ≤ p.r.length + p.c.length + (p.T.flatMap Tk.enc).length + 30 := by
  have h1 := Lib.uvarint_length64 (x := p.T.length * 4 + p.f) (by omega)
  have h2 := Lib.uvarint_length64 (x := p.r.length) (by omega)
  have h3 := Lib.uvarint_length64 (x := p.c.length) (by omega)
  unfold Pc.enc
  rw [List.length_append, List.length_append]
  split
  · simp only [List.length_append]; omega
  · simp only [List.length_nil]; omega
theorem text_le (t : Tk) : t.x.s.size ≤ t.enc.length := by
  unfold Tk.enc encTok encText
  simp only [List.length_append, size_list]
  omega
theorem Ap.keepT {bp base k : Nat} {w w' : World} {c : Array Value} {T : TypeId} {fr : Nat × Nat} (h : Ap true bp base w w') (hn : k ≠ bp) (hk : w.heap[k]? = some (.cells c T fr)) (hT : T ≠ 5) : w'.heap[k]? = some (.cells c T fr) :=
  (h.block k (Array.getElem?_eq_some_iff.1 hk).1 (.inr ⟨fun _ => hn, fun c fr => by rw [hk]; intro e; cases e; exact hT rfl⟩)).trans hk
theorem take_one {TS : List Tk} {i : Nat} {t : Tk} (h : TS[i]? = some t) : (TS.drop i).take 1 = [t] := by
  have hlt := (List.getElem?_eq_some_iff.1 h).1
  rw [List.drop_eq_getElem_cons hlt, (List.getElem?_eq_some_iff.1 h).2]
  rfl
/-- What a chunk comes to. -/
structure Adds (r c : List UInt8) (TS : List Tk) (ps : List Pc) : Prop where
  ok : ∀ p ∈ ps, p.ok
  T : ps.flatMap Pc.T = TS
  r : ps.flatMap Pc.r = r
  c : ps.flatMap Pc.c = c
theorem Adds.one {r c : List UInt8} {TS : List Tk} {f : Nat} (h : (Pc.mk f r c TS).ok) : Adds r c TS [Pc.mk f r c TS] :=
  ⟨fun p hp => by cases List.mem_singleton.1 hp; exact h, by simp, by simp, by simp⟩
theorem Adds.append {r c r' c' : List UInt8} {TS TS' : List Tk} {ps qs : List Pc} (h : Adds r c TS ps) (k : Adds r' c' TS' qs) : Adds (r ++ r') (c ++ c') (TS ++ TS') (ps ++ qs) :=
  ⟨fun p hp => (List.mem_append.1 hp).elim (h.ok p) (k.ok p), by rw [List.flatMap_append, h.T, k.T], by rw [List.flatMap_append, h.r, k.r], by rw [List.flatMap_append, h.c, k.c]⟩
theorem Adds.nil : Adds [] [] [] [] := ⟨fun p hp => (by cases hp), rfl, rfl, rfl⟩
/-- A text that is none comes of parts that are none. -/
theorem Adds.noc {r : List UInt8} {TS : List Tk} {ps : List Pc} (h : Adds r [] TS ps) : ∀ p ∈ ps, p.c = [] := fun p hp => List.flatMap_eq_nil_iff.1 h.c p hp
theorem Adds.nor {c : List UInt8} {TS : List Tk} {ps : List Pc} (h : Adds [] c TS ps) : ∀ p ∈ ps, p.r = [] := fun p hp => List.flatMap_eq_nil_iff.1 h.r p hp

/-- What AddChunk, addText and AddWhole do. -/
def AddsOk (bp base N : Nat) (r c : List UInt8) (TS : List Tk) (D : List UInt8) (K : Nat) (w : World) (e : Ending) (w' : World) : Prop :=
  e = .returned (.tuple #[]) ∧ ∃ (ps : List Pc) (v' : Value), Adds r c TS ps ∧ PAt bp base w' v' (N + ps.length) (D ++ ps.flatMap Pc.enc) ∧ Ap true bp base w w' ∧ (ps.flatMap Pc.enc).length ≤ r.length + c.length + 2 * (TS.flatMap Tk.enc).length + K ∧ ps.length ≤ TS.length + 1

set_option maxRecDepth 100000 in
set_option maxHeartbeats 1000000 in
theorem addChunk_any (bp base N : Nat) (r c : ByteArray) (a : Option Addr) (n tc : Nat) (TS : List Tk) (D : List UInt8) (v : Value) (w : World) (hbp : bp < base) (hb : base ≤ w.heap.size) (hr : r.size ≤ 1048576) (hc : c.size ≤ 1048576) (hN : N + n ≤ 4194304) (hT : ToksAt bp base w a n tc TS) (hP : PAt bp base w v N D) (hl : D.length + r.size + c.size + 2 * (TS.flatMap Tk.enc).length + 40 * (n + 1) ≤ 1099511627776) :
    Calls Try.prog 41 #[.pointer (some ⟨bp, 0, none⟩), .agg #[.string r, .string c, .slice a n tc]] w (AddsOk bp base N r.data.toList c.data.toList TS D (40 * (n + 1)) w) := by
  have H : Hid (ToksAt bp base w a n tc TS ∧ PAt bp base w v N D) := ⟨hT, hP⟩
  have hle := hT.le
  have hcap := hT.cap
  have hcm := hT.cm
  clear hT hP
  go_enter Try.func41, Try.ntmps41
  go_wp2_with fail
  have hbx : Below w.heap.size w (w.alloc (.cells #[.string r, .string c, .slice a n tc] 46)) := (Below.refl _ _).alloc (Nat.le_refl _) _
  have HW : Hid (PAt bp base (w.alloc (.cells #[.string r, .string c, .slice a n tc] 46)) v N D ∧ (w.alloc (.cells #[.string r, .string c, .slice a n tc] 46)).heap[w.heap.size]? = some (.cells #[.string r, .string c, .slice a n tc] 46) ∧ Ap true bp base w (w.alloc (.cells #[.string r, .string c, .slice a n tc] 46)) ∧ ToksAt bp base (w.alloc (.cells #[.string r, .string c, .slice a n tc] 46)) a n tc TS) := ⟨H.out.2.below hbx, Deep.blk_alloc_new _ _, .of_below hbx, H.out.1.below hbx⟩
  clear hbx
  generalize w.alloc (.cells #[.string r, .string c, .slice a n tc] 46) = W at HW ⊢
  have hb0 := hb
  have hbp3 : bp < w.heap.size := (Array.getElem?_eq_some_iff.1 H.out.2.box).1
  generalize w.heap.size = b3 at HW hb hbp3 ⊢
  refine (form_any bp base r c a n tc TS W HW.out.2.2.2).mono ?_
  rintro e w1 ⟨f, rfl, hb1, hf3, hf0, hf1⟩
  have HF : Hid (f < 3 ∧ (f = 0 → r.data.toList = [] ∧ c.data.toList = cat TS) ∧ (f = 1 → c.data.toList = [] ∧ r.data.toList = cat TS)) := ⟨hf3, hf0, hf1⟩
  have HW1 : Hid (PAt bp base w1 v N D ∧ w1.heap[b3]? = some (.cells #[.string r, .string c, .slice a n tc] 46) ∧ Ap true bp base w w1) := ⟨HW.out.1.below hb1, (hb1.block b3 (Array.getElem?_eq_some_iff.1 HW.out.2.1).1).trans HW.out.2.1, HW.out.2.2.1.next hb1⟩
  have q0 : w1.cell? ⟨b3, 0, none⟩ = some (.string r) := cell_atB HW1.out.2.1 rfl
  have q1 : w1.cell? ⟨b3, 1, none⟩ = some (.string c) := cell_atB HW1.out.2.1 rfl
  have q2 : w1.cell? ⟨b3, 2, none⟩ = some (.slice a n tc) := cell_atB HW1.out.2.1 rfl
  have hbw : base ≤ w1.heap.size := Nat.le_trans hb0 HW1.out.2.2.size
  clear hb1 hf0 hf1 HW
  dsimp only
  by_cases hf2 : f = 2
  case pos =>
    have hfb : ((f : Int) == 2) = true := by simp; omega
    go_wp2_with fail
    refine (add_any bp base N r c a n tc TS D v w1 hbp hbw hr hc (by omega) (H.out.1.ap HW1.out.2.2) HW1.out.1 (by omega)).mono ?_
    rintro e w2 ⟨rfl, f', v', hok, hP2, hA2⟩
    dsimp only
    go_wp2
    refine bodyPost_ret (v := .tuple #[]) (by simp [results, Try.results41, go_sem]) rfl ?_
    have hel := enc_le (Pc.mk f' r.data.toList c.data.toList TS) hok.lt (by have := H.out.1.len; simp only; omega) (by simp only [size_list]; exact hr) (by simp only [size_list]; exact hc)
    simp only [size_list] at hel
    refine ⟨rfl, _, v', Adds.one hok, by simpa using hP2, HW1.out.2.2.trans hA2, ?_, by simp⟩
    rw [List.flatMap_cons, List.flatMap_nil, List.append_nil, size_list, size_list]
    omega
  case neg =>
    have hfb : ((f : Int) == 2) = false := by simp; omega
    by_cases hf1 : f = 1
    case pos =>
      have hf1b : ((f : Int) == 1) = true := by simp; omega
      have HF1 : Hid (f = 1 ∧ f ≠ 2) := ⟨hf1, hf2⟩
      clear hf1 hf2
      go_wp2_with fail
      clear hfb
      go_loopg [18] n (fun gk iv wr => ∃ (i : Nat) (ps : List Pc) (vi : Value), gk = n - i ∧ i ≤ n ∧ iv = .int .i64 (i : Int) ∧ Hid (Adds (cat (TS.take (i))) ([]) (TS.take (i)) ps ∧ ps.length = i ∧ PAt bp base wr vi (N + (i)) (D ++ ps.flatMap Pc.enc) ∧ wr.heap[b3]? = some (.cells #[.string r, .string c, .slice a n tc] 46) ∧ Ap true bp base w wr ∧ (ps.flatMap Pc.enc).length ≤ 2 * ((TS.take (i)).flatMap Tk.enc).length + 40 * (i)))
      case atStart => exact ⟨0, [], v, by omega, by omega, rfl, Adds.nil, rfl, by simpa using HW1.out.1, HW1.out.2.1, HW1.out.2.2, by simp⟩
      case round =>
        clear q0 q1 q2
        obtain ⟨i, ps, vi, hgk, hi5, rfl, HR⟩ := hrel
        by_cases hlt : i < n
        · obtain ⟨t, ht⟩ : ∃ t, TS[i]? = some t := ⟨_, List.getElem?_eq_getElem (by have := H.out.1.len; omega)⟩
          have hTa := H.out.1.ap HR.out.2.2.2.2.1
          obtain ⟨g, o, a', c', ca, cc, hx, hT⟩ := hTa.cell i t ht
          subst hx
          have HTA : Hid (ToksAt bp base wr (some ⟨g, o, none⟩) n tc TS ∧ TS[i]? = some t) := ⟨hTa, ht⟩
          clear hTa
          have hltb : decide ((i : Int) < (n : Int)) = true := by simp; omega
          have hlt' : (i : Int) < (n : Int) := by omega
          have k0 := hT.tx.c0
          have k1 := hT.tx.c1
          have k2 := hT.tx.c2
          have k3 := hT.c3
          have hgl : g < wr.heap.size := cell_lt k0
          have hts := hT.tx.size
          have hfl := flat_take_le Tk.enc TS (i + 1)
          rw [flat_take_succ _ ht, List.length_append] at hfl
          have hxt := text_le t
          have HTK : Hid ((TS.take (i + 1)).flatMap Tk.enc = (TS.take i).flatMap Tk.enc ++ t.enc ∧ TS.take (i + 1) = TS.take i ++ [t]) := ⟨flat_take_succ Tk.enc ht, by rw [List.take_add_one, ht]; rfl⟩
          have r2 : wr.cell? ⟨b3, 2, none⟩ = some (.slice (some ⟨g, o, none⟩) n tc) := cell_atB HR.out.2.2.2.1 rfl
          have hb3l : b3 < wr.heap.size := cell_lt r2
          have hti : ¬ (tc = i) := by omega
          have hi1 : (i : Int) + 1 ≤ (tc : Int) := by omega
          have hi2 : (i : Int) ≤ (i : Int) + 1 := by omega
          have hi0 : (0 : Int) ≤ (i : Int) := by omega
          have hwi : IntKind.i64.wrap ((i : Int) + 1) = (i : Int) + 1 := by rw [IntKind.wrap_i64]; omega
          have hwi2 : wrap64 ((i : Int) + 1) = (i : Int) + 1 := wrap64_id (by omega) (by omega)
          clear hT ht
          go_upto_region 7 with fail
          have hb8 : Below wr.heap.size wr (wr.alloc (.cells #[.string t.x.s, .float .f64 t.x.f, .slice a' t.x.I.length c', .slice ca t.C.length cc] 31)) := (Below.refl _ _).alloc (Nat.le_refl _) _
          have HV : Hid ((wr.alloc (.cells #[.string t.x.s, .float .f64 t.x.f, .slice a' t.x.I.length c', .slice ca t.C.length cc] 31)).heap[wr.heap.size]? = some (.cells #[.string t.x.s, .float .f64 t.x.f, .slice a' t.x.I.length c', .slice ca t.C.length cc] 31) ∧ (wr.alloc (.cells #[.string t.x.s, .float .f64 t.x.f, .slice a' t.x.I.length c', .slice ca t.C.length cc] 31)).heap[b3]? = some (.cells #[.string r, .string c, .slice (some ⟨g, o, none⟩) n tc] 46) ∧ Below wr.heap.size wr (wr.alloc (.cells #[.string t.x.s, .float .f64 t.x.f, .slice a' t.x.I.length c', .slice ca t.C.length cc] 31))) := ⟨Deep.blk_alloc_new _ _, (hb8.block b3 hb3l).trans HR.out.2.2.2.1, hb8⟩
          clear hb8 k0 k1 k2 k3 hgl r2 hb3l
          generalize wr.alloc (.cells #[.string t.x.s, .float .f64 t.x.f, .slice a' t.x.I.length c', .slice ca t.C.length cc] 31) = W8 at HV ⊢
          have HV2 : Hid (Below wr.heap.size wr W8) := HV.out.2.2
          obtain ⟨b6, hb6⟩ : ∃ b6, wr.heap.size = b6 := ⟨_, rfl⟩
          rw [hb6] at HV ⊢
          have t0 : W8.cell? ⟨b6, 0, none⟩ = some (.string t.x.s) := cell_atB HV.out.1 rfl
          have r2 : W8.cell? ⟨b3, 2, none⟩ = some (.slice (some ⟨g, o, none⟩) n tc) := cell_atB HV.out.2.1 rfl
          clear hb6
          have n6 := World.new_ne W8 _ t0
          have n3 := World.new_ne W8 _ r2
          have l6 : b6 < W8.heap.size := cell_lt t0
          go_region_held3 (fun w' => w'.cell? ⟨b6, 0, none⟩ = some (.string t.x.s) ∧ w'.cell? ⟨b3, 2, none⟩ = some (.slice (some ⟨g, o, none⟩) n tc)) (go_keep) (fail)
          go_wp2_with fail
          have HA : Hid (Below wr.heap.size wr (W8.alloc (.cells #[.string t.x.s, .string ⟨#[]⟩, .slice (some ⟨g, o + i * 4, none⟩) 1 (tc - i)] 46)).drew) := (HV2.out.alloc HV2.out.size _).drew
          clear t0 r2 n6 n3 l6 HV hti hi1 hi2 hi0 hwi hwi2
          generalize (W8.alloc (.cells #[.string t.x.s, .string ⟨#[]⟩, .slice (some ⟨g, o + i * 4, none⟩) 1 (tc - i)] 46)).drew = W9 at HA ⊢
          have hE0 : (⟨#[]⟩ : ByteArray).size = 0 := rfl
          have hEl : (⟨#[]⟩ : ByteArray).data.toList = [] := rfl
          have hTs : ToksAt bp base W9 (some ⟨g, o + i * 4, none⟩) 1 (tc - i) [t] := by
            have h1 := ((HTA.out.1.below HA.out).drop (k := i) (by omega)).take (k := 1) (by omega)
            rw [take_one HTA.out.2] at h1
            exact h1
          have hpn := HR.out.2.2.2.2.2
          have hf1' : ([t] : List Tk).flatMap Tk.enc = t.enc := by simp
          refine (add_any bp base (N + i) t.x.s (⟨#[]⟩ : ByteArray) _ 1 (tc - i) [t] (D ++ ps.flatMap Pc.enc) vi W9 hbp (Nat.le_trans hb0 (Nat.le_trans HR.out.2.2.2.2.1.size HA.out.size)) hts (by rw [hE0]; omega) (by omega) hTs (HR.out.2.2.1.below HA.out) (by rw [hf1', hE0, List.length_append]; omega)).mono ?_
          rintro e w9 ⟨rfl, f', v9, hok, hP9, hA9⟩
          have hel := enc_le (Pc.mk f' t.x.s.data.toList (⟨#[]⟩ : ByteArray).data.toList [t]) hok.lt (by simp) (by simp only [size_list]; exact hts) (Nat.zero_le _)
          simp only [size_list, hf1', List.length_nil] at hel
          have hAw := HR.out.2.2.2.2.1.trans ((Ap.of_below HA.out).trans hA9)
          have HN : Hid (Adds (cat (TS.take (i + 1))) ([]) (TS.take (i + 1)) (ps ++ [Pc.mk f' t.x.s.data.toList (⟨#[]⟩ : ByteArray).data.toList [t]]) ∧ (ps ++ [Pc.mk f' t.x.s.data.toList (⟨#[]⟩ : ByteArray).data.toList [t]]).length = i + 1 ∧ PAt bp base w9 v9 (N + (i + 1)) (D ++ (ps ++ [Pc.mk f' t.x.s.data.toList (⟨#[]⟩ : ByteArray).data.toList [t]]).flatMap Pc.enc) ∧ w9.heap[b3]? = some (.cells #[.string r, .string c, .slice (some ⟨g, o, none⟩) n tc] 46) ∧ Ap true bp base w w9 ∧ ((ps ++ [Pc.mk f' t.x.s.data.toList (⟨#[]⟩ : ByteArray).data.toList [t]]).flatMap Pc.enc).length ≤ 2 * ((TS.take (i + 1)).flatMap Tk.enc).length + 40 * (i + 1)) := by
            refine ⟨?_, by rw [List.length_append, HR.out.2.1]; rfl, ?_, ?_, hAw, ?_⟩
            · have h1 := HR.out.1.append (Adds.one hok)
              rw [HTK.out.2, cat_append]
              simpa [cat, hEl] using h1
            · rw [List.flatMap_append, ← List.append_assoc]
              have h2 := hP9
              rw [Nat.add_assoc] at h2
              simpa using h2
            · exact ((Ap.of_below HA.out).trans hA9).keepT (by omega) HR.out.2.2.2.1 (by decide)
            · rw [List.flatMap_append, List.length_append, HTK.out.1, List.length_append]
              simp only [List.flatMap_cons, List.flatMap_nil, List.append_nil]
              omega
          clear hel hAw hA9 hP9 hok hTs hpn
          dsimp only
          go_wp2
          go_roundg (n - (i + 1))
          case measure => omega
          case rel => exact ⟨i + 1, _, v9, rfl, by omega, by go_num, HN⟩
        · have hltb : decide ((i : Int) < (n : Int)) = false := by simp; omega
          have hin : i = n := by omega
          have HN0 : Hid (TS.take i = TS) := List.take_of_length_le (by have := H.out.1.len; omega)
          go_wp2
          refine bodyPost_ret (v := .tuple #[]) (by simp [results, Try.results41, go_sem]) rfl ?_
          obtain ⟨h1, h2, h3, h4, h5, h6⟩ := HR.out
          rw [HN0.out] at h1 h6
          have hfx := HF.out
          have hne := HF1.out
          have hrc : r.data.toList = cat TS ∧ c.data.toList = [] := ⟨(hfx.2.2 hne.1).2, (hfx.2.2 hne.1).1⟩
          refine ⟨rfl, ps, vi, ?_, by rw [h2]; exact h3, h5, by omega, by rw [h2]; have := H.out.1.len; omega⟩
          rw [hrc.1, hrc.2]
          exact h1
    case neg =>
      have hf1b : ((f : Int) == 1) = false := by simp; omega
      have HF1 : Hid (f ≠ 1 ∧ f ≠ 2) := ⟨hf1, hf2⟩
      clear hf1 hf2
      go_wp2_with fail
      clear hfb
      go_loopg [18] n (fun gk iv wr => ∃ (i : Nat) (ps : List Pc) (vi : Value), gk = n - i ∧ i ≤ n ∧ iv = .int .i64 (i : Int) ∧ Hid (Adds ([]) (cat (TS.take (i))) (TS.take (i)) ps ∧ ps.length = i ∧ PAt bp base wr vi (N + (i)) (D ++ ps.flatMap Pc.enc) ∧ wr.heap[b3]? = some (.cells #[.string r, .string c, .slice a n tc] 46) ∧ Ap true bp base w wr ∧ (ps.flatMap Pc.enc).length ≤ 2 * ((TS.take (i)).flatMap Tk.enc).length + 40 * (i)))
      case atStart => exact ⟨0, [], v, by omega, by omega, rfl, Adds.nil, rfl, by simpa using HW1.out.1, HW1.out.2.1, HW1.out.2.2, by simp⟩
      case round =>
        clear q0 q1 q2
        obtain ⟨i, ps, vi, hgk, hi5, rfl, HR⟩ := hrel
        by_cases hlt : i < n
        · obtain ⟨t, ht⟩ : ∃ t, TS[i]? = some t := ⟨_, List.getElem?_eq_getElem (by have := H.out.1.len; omega)⟩
          have hTa := H.out.1.ap HR.out.2.2.2.2.1
          obtain ⟨g, o, a', c', ca, cc, hx, hT⟩ := hTa.cell i t ht
          subst hx
          have HTA : Hid (ToksAt bp base wr (some ⟨g, o, none⟩) n tc TS ∧ TS[i]? = some t) := ⟨hTa, ht⟩
          clear hTa
          have hltb : decide ((i : Int) < (n : Int)) = true := by simp; omega
          have hlt' : (i : Int) < (n : Int) := by omega
          have k0 := hT.tx.c0
          have k1 := hT.tx.c1
          have k2 := hT.tx.c2
          have k3 := hT.c3
          have hgl : g < wr.heap.size := cell_lt k0
          have hts := hT.tx.size
          have hfl := flat_take_le Tk.enc TS (i + 1)
          rw [flat_take_succ _ ht, List.length_append] at hfl
          have hxt := text_le t
          have HTK : Hid ((TS.take (i + 1)).flatMap Tk.enc = (TS.take i).flatMap Tk.enc ++ t.enc ∧ TS.take (i + 1) = TS.take i ++ [t]) := ⟨flat_take_succ Tk.enc ht, by rw [List.take_add_one, ht]; rfl⟩
          have r2 : wr.cell? ⟨b3, 2, none⟩ = some (.slice (some ⟨g, o, none⟩) n tc) := cell_atB HR.out.2.2.2.1 rfl
          have hb3l : b3 < wr.heap.size := cell_lt r2
          have hti : ¬ (tc = i) := by omega
          have hi1 : (i : Int) + 1 ≤ (tc : Int) := by omega
          have hi2 : (i : Int) ≤ (i : Int) + 1 := by omega
          have hi0 : (0 : Int) ≤ (i : Int) := by omega
          have hwi : IntKind.i64.wrap ((i : Int) + 1) = (i : Int) + 1 := by rw [IntKind.wrap_i64]; omega
          have hwi2 : wrap64 ((i : Int) + 1) = (i : Int) + 1 := wrap64_id (by omega) (by omega)
          clear hT ht
          go_upto_region 7 with fail
          have hb8 : Below wr.heap.size wr (wr.alloc (.cells #[.string t.x.s, .float .f64 t.x.f, .slice a' t.x.I.length c', .slice ca t.C.length cc] 31)) := (Below.refl _ _).alloc (Nat.le_refl _) _
          have HV : Hid ((wr.alloc (.cells #[.string t.x.s, .float .f64 t.x.f, .slice a' t.x.I.length c', .slice ca t.C.length cc] 31)).heap[wr.heap.size]? = some (.cells #[.string t.x.s, .float .f64 t.x.f, .slice a' t.x.I.length c', .slice ca t.C.length cc] 31) ∧ (wr.alloc (.cells #[.string t.x.s, .float .f64 t.x.f, .slice a' t.x.I.length c', .slice ca t.C.length cc] 31)).heap[b3]? = some (.cells #[.string r, .string c, .slice (some ⟨g, o, none⟩) n tc] 46) ∧ Below wr.heap.size wr (wr.alloc (.cells #[.string t.x.s, .float .f64 t.x.f, .slice a' t.x.I.length c', .slice ca t.C.length cc] 31))) := ⟨Deep.blk_alloc_new _ _, (hb8.block b3 hb3l).trans HR.out.2.2.2.1, hb8⟩
          clear hb8 k0 k1 k2 k3 hgl r2 hb3l
          generalize wr.alloc (.cells #[.string t.x.s, .float .f64 t.x.f, .slice a' t.x.I.length c', .slice ca t.C.length cc] 31) = W8 at HV ⊢
          have HV2 : Hid (Below wr.heap.size wr W8) := HV.out.2.2
          obtain ⟨b6, hb6⟩ : ∃ b6, wr.heap.size = b6 := ⟨_, rfl⟩
          rw [hb6] at HV ⊢
          have t0 : W8.cell? ⟨b6, 0, none⟩ = some (.string t.x.s) := cell_atB HV.out.1 rfl
          have r2 : W8.cell? ⟨b3, 2, none⟩ = some (.slice (some ⟨g, o, none⟩) n tc) := cell_atB HV.out.2.1 rfl
          clear hb6
          have n6 := World.new_ne W8 _ t0
          have n3 := World.new_ne W8 _ r2
          have l6 : b6 < W8.heap.size := cell_lt t0
          go_region_held3 (fun w' => w'.cell? ⟨b6, 0, none⟩ = some (.string t.x.s) ∧ w'.cell? ⟨b3, 2, none⟩ = some (.slice (some ⟨g, o, none⟩) n tc)) (go_keep) (fail)
          go_wp2_with fail
          have HA : Hid (Below wr.heap.size wr (W8.alloc (.cells #[.string ⟨#[]⟩, .string t.x.s, .slice (some ⟨g, o + i * 4, none⟩) 1 (tc - i)] 46)).drew) := (HV2.out.alloc HV2.out.size _).drew
          clear t0 r2 n6 n3 l6 HV hti hi1 hi2 hi0 hwi hwi2
          generalize (W8.alloc (.cells #[.string ⟨#[]⟩, .string t.x.s, .slice (some ⟨g, o + i * 4, none⟩) 1 (tc - i)] 46)).drew = W9 at HA ⊢
          have hE0 : (⟨#[]⟩ : ByteArray).size = 0 := rfl
          have hEl : (⟨#[]⟩ : ByteArray).data.toList = [] := rfl
          have hTs : ToksAt bp base W9 (some ⟨g, o + i * 4, none⟩) 1 (tc - i) [t] := by
            have h1 := ((HTA.out.1.below HA.out).drop (k := i) (by omega)).take (k := 1) (by omega)
            rw [take_one HTA.out.2] at h1
            exact h1
          have hpn := HR.out.2.2.2.2.2
          have hf1' : ([t] : List Tk).flatMap Tk.enc = t.enc := by simp
          refine (add_any bp base (N + i) (⟨#[]⟩ : ByteArray) t.x.s _ 1 (tc - i) [t] (D ++ ps.flatMap Pc.enc) vi W9 hbp (Nat.le_trans hb0 (Nat.le_trans HR.out.2.2.2.2.1.size HA.out.size)) (by rw [hE0]; omega) hts (by omega) hTs (HR.out.2.2.1.below HA.out) (by rw [hf1', hE0, List.length_append]; omega)).mono ?_
          rintro e w9 ⟨rfl, f', v9, hok, hP9, hA9⟩
          have hel := enc_le (Pc.mk f' (⟨#[]⟩ : ByteArray).data.toList t.x.s.data.toList [t]) hok.lt (by simp) (Nat.zero_le _) (by simp only [size_list]; exact hts)
          simp only [size_list, hf1', List.length_nil] at hel
          have hAw := HR.out.2.2.2.2.1.trans ((Ap.of_below HA.out).trans hA9)
          have HN : Hid (Adds ([]) (cat (TS.take (i + 1))) (TS.take (i + 1)) (ps ++ [Pc.mk f' (⟨#[]⟩ : ByteArray).data.toList t.x.s.data.toList [t]]) ∧ (ps ++ [Pc.mk f' (⟨#[]⟩ : ByteArray).data.toList t.x.s.data.toList [t]]).length = i + 1 ∧ PAt bp base w9 v9 (N + (i + 1)) (D ++ (ps ++ [Pc.mk f' (⟨#[]⟩ : ByteArray).data.toList t.x.s.data.toList [t]]).flatMap Pc.enc) ∧ w9.heap[b3]? = some (.cells #[.string r, .string c, .slice (some ⟨g, o, none⟩) n tc] 46) ∧ Ap true bp base w w9 ∧ ((ps ++ [Pc.mk f' (⟨#[]⟩ : ByteArray).data.toList t.x.s.data.toList [t]]).flatMap Pc.enc).length ≤ 2 * ((TS.take (i + 1)).flatMap Tk.enc).length + 40 * (i + 1)) := by
            refine ⟨?_, by rw [List.length_append, HR.out.2.1]; rfl, ?_, ?_, hAw, ?_⟩
            · have h1 := HR.out.1.append (Adds.one hok)
              rw [HTK.out.2, cat_append]
              simpa [cat, hEl] using h1
            · rw [List.flatMap_append, ← List.append_assoc]
              have h2 := hP9
              rw [Nat.add_assoc] at h2
              simpa using h2
            · exact ((Ap.of_below HA.out).trans hA9).keepT (by omega) HR.out.2.2.2.1 (by decide)
            · rw [List.flatMap_append, List.length_append, HTK.out.1, List.length_append]
              simp only [List.flatMap_cons, List.flatMap_nil, List.append_nil]
              omega
          clear hel hAw hA9 hP9 hok hTs hpn
          dsimp only
          go_wp2
          go_roundg (n - (i + 1))
          case measure => omega
          case rel => exact ⟨i + 1, _, v9, rfl, by omega, by go_num, HN⟩
        · have hltb : decide ((i : Int) < (n : Int)) = false := by simp; omega
          have hin : i = n := by omega
          have HN0 : Hid (TS.take i = TS) := List.take_of_length_le (by have := H.out.1.len; omega)
          go_wp2
          refine bodyPost_ret (v := .tuple #[]) (by simp [results, Try.results41, go_sem]) rfl ?_
          obtain ⟨h1, h2, h3, h4, h5, h6⟩ := HR.out
          rw [HN0.out] at h1 h6
          have hfx := HF.out
          have hne := HF1.out
          have hrc : r.data.toList = [] ∧ c.data.toList = cat TS := ⟨(hfx.2.1 (by omega)).1, (hfx.2.1 (by omega)).2⟩
          refine ⟨rfl, ps, vi, ?_, by rw [h2]; exact h3, h5, by omega, by rw [h2]; have := H.out.1.len; omega⟩
          rw [hrc.1, hrc.2]
          exact h1
end Go.Proofs.Qxb6618748a
