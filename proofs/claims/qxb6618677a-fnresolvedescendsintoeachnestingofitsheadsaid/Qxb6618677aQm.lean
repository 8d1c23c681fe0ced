/-
  A region that draws its order whose first operations are quiet and whose last ones, which all await the first, are not: the quiet ones by one lexical walk, the rest in every world of the class.
-/
import Derived.Test.Qxb6618677aQr
namespace Go.Proofs.Qxb6618677a
open Go.RowKit

def cntF (l : List Bool) : Nat := (l.filter fun b => !b).length
theorem cntF_set : ∀ (l : List Bool) (i : Nat), l[i]? = some false → cntF (l.set i true) + 1 = cntF l
  | [], i, h => by simp at h
  | b :: l, 0, h => by simp at h; subst h; simp [cntF]
  | b :: l, i + 1, h => by
    have := cntF_set l i (by simpa using h)
    cases b <;> simp [cntF] at this ⊢ <;> omega
theorem cntF_zero : ∀ (l : List Bool), cntF l = 0 → ∀ b ∈ l, b = true
  | [], _, b, h => by simp at h
  | a :: l, h, b, hb => by
    cases a with
    | false => simp [cntF] at h
    | true =>
      rcases List.mem_cons.1 hb with rfl | hb
      · rfl
      · exact cntF_zero l (by simpa [cntF] using h) b hb
theorem cntF_pos : ∀ (l : List Bool), cntF l ≠ 0 → ∃ i : Nat, l[i]? = some false ∧ ∀ j : Nat, j < i → l[j]? = some true
  | [], h => by simp [cntF] at h
  | false :: l, _ => ⟨0, by simp, fun j hj => by omega⟩
  | true :: l, h => by
    obtain ⟨i, h1, h2⟩ := cntF_pos l (by simpa [cntF] using h)
    exact ⟨i + 1, by simpa using h1, fun j hj => by cases j with | zero => simp | succ j => simpa using h2 j (by omega)⟩

/-- The shape: the first m operations await earlier ones alone and are guarded by such; each of them is awaited by a later one up to number m; each one behind number m awaits one from m on. -/
def mixB (md : Region.Mode) (ops : List Oper) (m : Nat) : Bool :=
  (List.range m).all (fun i => match ops[i]? with
    | some o => o.after.toList.all (fun e => !Region.binds md e || decide (e.on < i)) && (match o.guard with | some g => decide (g.1 < m) | none => true)
    | none => false) &&
  (List.range m).all (fun i => (List.range (m + 1)).any fun j => decide (i < j) && (match ops[j]? with
    | some o => o.after.toList.any fun e => Region.binds md e && decide (e.on = i)
    | none => false)) &&
  (List.range ops.length).all (fun i => decide (i ≤ m) || (match ops[i]? with
    | some o => o.after.toList.any fun e => Region.binds md e && decide (m ≤ e.on)
    | none => false))

section
variable {F : Fence} {n : Nat} {P : Program} {md : Region.Mode} {C : World → Prop}

structure Mix (md : Region.Mode) (ops : List Oper) (m : Nat) : Prop where
  a : ∀ i o, i < m → ops[i]? = some o → (∀ e ∈ o.after, Region.binds md e = true → e.on < i) ∧ (∀ g, o.guard = some g → g.1 < m)
  b : ∀ i, i < m → ∃ j o e, i < j ∧ j ≤ m ∧ ops[j]? = some o ∧ e ∈ o.after ∧ Region.binds md e = true ∧ e.on = i
  c : ∀ i o, m < i → ops[i]? = some o → ∃ e ∈ o.after, Region.binds md e = true ∧ m ≤ e.on
  lt : m < ops.length
theorem mix_of {ops : List Oper} {m : Nat} (h : mixB md ops m = true) (hm : m < ops.length) : Mix md ops m := by
  unfold mixB at h
  simp only [Bool.and_eq_true, List.all_eq_true, List.mem_range] at h
  obtain ⟨⟨h1, h2⟩, h3⟩ := h
  refine ⟨fun i o hi ho => ?_, fun i hi => ?_, fun i o hi ho => ?_, hm⟩
  · have := h1 i hi
    simp only [ho, Bool.and_eq_true, List.all_eq_true] at this
    refine ⟨fun e he hb => ?_, fun g hg => ?_⟩
    · have := this.1 e (Array.mem_toList_iff.2 he)
      simpa [hb] using this
    · have := this.2
      simpa [hg] using this
  · have := h2 i hi
    rw [List.any_eq_true] at this
    obtain ⟨j, hj, hj2⟩ := this
    simp only [List.mem_range, Bool.and_eq_true, decide_eq_true_eq] at hj hj2
    obtain ⟨hj2, hj3⟩ := hj2
    cases ho : ops[j]? with
    | none => simp only [ho] at hj3; cases hj3
    | some o =>
      simp only [ho, List.any_eq_true, Bool.and_eq_true, decide_eq_true_eq] at hj3
      obtain ⟨e, he, hb, hon⟩ := hj3
      exact ⟨j, o, e, hj2, by omega, ho, Array.mem_toList_iff.1 he, hb, hon⟩
  · have := h3 i (List.getElem?_eq_some_iff.1 ho).1
    simp only [ho, Bool.or_eq_true, decide_eq_true_eq, List.any_eq_true, Bool.and_eq_true] at this
    rcases this with h | ⟨e, he, hb, hon⟩
    · omega
    · exact ⟨e, Array.mem_toList_iff.1 he, hb, hon⟩

/-- Of the first m, those come up so far; none of the rest. -/
structure Part (ops : List Oper) (m : Nat) (md : Region.Mode) (la l : List Bool) : Prop where
  sa : la.length = m
  s : l.length = ops.length
  lo : ∀ i, i < m → l[i]? = la[i]?
  hi : ∀ i, m ≤ i → i < ops.length → l[i]? = some false
  down : ∀ i o, i < m → ops[i]? = some o → la[i]? = some true → ∀ e ∈ o.after, Region.binds md e = true → la[e.on]? = some true

theorem getD_list (l : List Bool) (i : Nat) (d : Bool) : l.toArray.getD i d = (l[i]?).getD d := by
  simp [Array.getD_eq_getD_getElem?]
theorem part_low {ops : List Oper} {m : Nat} {la l : List Bool} (hM : Mix md ops m) (h : Part ops m md la l) (hne : cntF la ≠ 0) {i : Nat} (hi : i ∈ Region.ready md ops.toArray l.toArray) : i < m ∧ i ∈ Region.ready md (ops.take m).toArray la.toArray := by
  obtain ⟨h1, o, ho, h2⟩ := mem_ready.1 hi
  rw [getD_list] at h1
  have ho' : ops[i]? = some o := by simpa using ho
  have hio := (List.getElem?_eq_some_iff.1 ho').1
  have e2 : ∀ e ∈ o.after, Region.binds md e = true → (l[e.on]?).getD false = true := fun e he hb => by rw [← getD_list]; exact h2 e he hb
  have hlt : i < m := by
    rcases Nat.lt_trichotomy i m with hlt | rfl | hgt
    · exact hlt
    · -- the last that has not come up among the first m is awaited
      exfalso
      have big : ∀ k, k ≤ i → (∀ j, i - k ≤ j → j < i → la[j]? = some true) := fun k => by
        induction k with
        | zero => exact fun _ j h1 h2 => by omega
        | succ k ih =>
          intro hk j hj1 hj2
          rcases Nat.lt_or_ge (i - (k + 1)) j with hlt | hge
          · exact ih (by omega) j (by omega) hj2
          · obtain rfl : j = i - (k + 1) := by omega
            obtain ⟨y, oy, e, hy1, hy2, hoy, he, hb, hon⟩ := hM.b (i - (k + 1)) hj2
            rcases Nat.lt_or_ge y i with hyi | hyi
            · have hyt := ih (by omega) y (by omega) hyi
              have := h.down y oy hyi hoy hyt e he hb
              rwa [hon] at this
            · obtain rfl : y = i := by omega
              rw [ho'] at hoy; cases hoy
              have := e2 e he hb
              rw [hon, h.lo _ hj2] at this
              cases hq : la[y - (k + 1)]? with
              | none => rw [hq] at this; simp at this
              | some b => rw [hq] at this; simp at this; rw [this]
      obtain ⟨z, hz1, _⟩ := cntF_pos la hne
      have hzl : z < i := by rw [← h.sa]; exact (List.getElem?_eq_some_iff.1 hz1).1
      have := big i (Nat.le_refl _) z (by omega) hzl
      rw [hz1] at this; cases this
    · exfalso
      obtain ⟨e, he, hb, hon⟩ := hM.c i o hgt ho'
      have := e2 e he hb
      rcases Nat.lt_or_ge e.on ops.length with hl | hl
      · rw [h.hi _ hon hl] at this; simp at this
      · rw [List.getElem?_eq_none (by rw [h.s]; exact hl)] at this; simp at this
  refine ⟨hlt, mem_ready.2 ⟨by rw [getD_list, ← h.lo i hlt]; exact h1, o, by simp [hlt, ho'], fun e he hb => ?_⟩⟩
  have h3 := (hM.a i o hlt ho').1 e he hb
  rw [getD_list, ← h.lo e.on (by omega)]
  exact e2 e he hb

theorem Part.set {ops : List Oper} {m : Nat} {la l : List Bool} (h : Part ops m md la l) {i : Nat} (hi : i < m) (hr : ∀ o, ops[i]? = some o → ∀ e ∈ o.after, Region.binds md e = true → la[e.on]? = some true) : Part ops m md (la.set i true) (l.set i true) := by
  refine ⟨by simp [h.sa], by simp [h.s], fun j hj => ?_, fun j h1 h2 => ?_, fun j o hj ho ht e he hb => ?_⟩
  · rw [List.getElem?_set, List.getElem?_set, h.lo j hj]
    have e1 : (i < l.length) = (i < la.length) := by
      have := h.lo i hi
      rw [h.sa]
      have h3 : la[i]? ≠ none := by rw [Ne, List.getElem?_eq_none_iff, h.sa]; omega
      rw [← this, Ne, List.getElem?_eq_none_iff] at h3
      simp only [eq_iff_iff]; omega
    simp only [e1]
  · rw [List.getElem?_set_ne (by omega)]; exact h.hi j h1 h2
  · have old : la[e.on]? = some true → (la.set i true)[e.on]? = some true := fun hq => by
      by_cases hei : i = e.on
      · rw [List.getElem?_set, if_pos hei, if_pos (by rw [h.sa]; exact hi)]
      · rw [List.getElem?_set_ne hei]; exact hq
    by_cases hij : i = j
    · subst hij; exact old (hr o ho e he hb)
    · rw [List.getElem?_set_ne hij] at ht
      exact old (h.down j o hj ho ht e he hb)

theorem bridge {ops : List Oper} {m : Nat} (hM : Mix md ops m) (hnd : NoDefer ops.toArray) {Q : Act → Prop} {Q' : Exit → Act → World → Prop} (r : Nat)
    (hQ : ∀ a w, C w → Q a → ∀ l : List Bool, l.length = ops.length → (∀ i, i < m → l[i]? = some true) → (∀ i, m ≤ i → i < ops.length → l[i]? = some false) → wpAnyIn F n P md ops.toArray Q' r l.toArray a w) :
    ∀ (fuel : Nat) (la l : List Bool) (a : Act) (w : World), Part ops m md la l → cntF la = fuel → C w → wpAnyQIn F n P md (ops.take m).toArray C Q fuel la.toArray a → wpAnyIn F n P md ops.toArray Q' (fuel + r) l.toArray a w
  | 0, la, l, a, w, hp, hc, hw, h => by
    rw [Nat.zero_add]
    refine hQ a w hw h.2 l hp.s (fun i hi => ?_) hp.hi
    rw [hp.lo i hi]
    obtain ⟨b, hb⟩ : ∃ b, la[i]? = some b := ⟨_, List.getElem?_eq_getElem (by rw [hp.sa]; exact hi)⟩
    rw [hb, cntF_zero la hc b (List.mem_of_getElem? hb)]
  | fuel + 1, la, l, a, w, hp, hc, hw, h => by
    have hne : cntF la ≠ 0 := by omega
    rw [show fuel + 1 + r = (fuel + r) + 1 by omega]
    refine ⟨fun h0 => ?_, fun i hi => ?_⟩
    · exfalso
      obtain ⟨z, hz1, hz2⟩ := cntF_pos la hne
      have hzm : z < m := by rw [← hp.sa]; exact (List.getElem?_eq_some_iff.1 hz1).1
      obtain ⟨o, ho⟩ : ∃ o, ops[z]? = some o := ⟨_, List.getElem?_eq_getElem (by have := hM.lt; omega)⟩
      have : z ∈ Region.ready md ops.toArray l.toArray := mem_ready.2 ⟨by rw [getD_list, hp.lo z hzm, hz1]; rfl, o, by simpa using ho, fun e he hb => by
        have h3 := (hM.a z o hzm ho).1 e he hb
        rw [getD_list, hp.lo _ (by omega), hz2 _ h3]; rfl⟩
      rw [h0] at this; cases this
    · obtain ⟨hlt, hiA⟩ := part_low hM hp hne hi
      obtain ⟨o, ho⟩ : ∃ o, ops[i]? = some o := ⟨_, List.getElem?_eq_getElem (by have := hM.lt; omega)⟩
      have hh := h.2 i hiA
      obtain ⟨hu, o2, ho2, haft⟩ := mem_ready.1 hiA
      have ho2' : o2 = o := by
        have : (ops.take m)[i]? = some o2 := by simpa using ho2
        rw [List.getElem?_take, if_pos hlt, ho] at this
        exact (Option.some.inj this).symm
      subst ho2'
      rw [getD_list] at hu
      have hfalse : la[i]? = some false := by
        cases hq : la[i]? with
        | none => rw [hq] at hu; cases hu
        | some b => rw [hq] at hu; simp at hu; rw [hu]
      have hpart := hp.set hlt (fun o' ho' e he hb => by
        rw [ho] at ho'; cases ho'
        have := haft e he hb
        rw [getD_list] at this
        cases hq : la[e.on]? with
        | none => rw [hq] at this; cases this
        | some b => rw [hq] at this; simp at this; rw [this])
      have hcnt : cntF (la.set i true) = fuel := by have := cntF_set la i hfalse; omega
      have ih := fun a' w' hw' hk => bridge hM hnd r hQ fuel (la.set i true) (l.set i true) a' w' hpart hcnt hw' hk
      have s1 : la.toArray.setIfInBounds i true = (la.set i true).toArray := by simp
      have s2 : l.toArray.setIfInBounds i true = (l.set i true).toArray := by simp
      have hwant : Region.wanted o2 (yielded ops.toArray a.tmps) = Region.wanted o2 (yielded (ops.take m).toArray a.tmps) := by
        unfold Region.wanted
        cases hg : o2.guard with
        | none => rfl
        | some g =>
          obtain ⟨j, b⟩ := g
          have hjm := (hM.a i o2 hlt ho).2 _ hg
          have : yielded ops.toArray a.tmps j = yielded (ops.take m).toArray a.tmps j := by
            unfold yielded
            have : (ops.take m).toArray[j]? = ops.toArray[j]? := by simp [hjm]
            rw [this]
          simp only [this]
      unfold qOpIn at hh
      unfold wpOpIn
      simp only [ho2] at hh
      have ho3 : ops.toArray[i]? = some o2 := by simpa using ho
      simp only [ho3, s2, hwant]
      rw [s1] at hh
      obtain ⟨ha, hh⟩ := hh
      split
      · rename_i hwt
        simp only [hwt, if_true] at hh
        exact quiet_op (hnd i o2 ho3) hw (fun a' w' hw' hk => ih a' w' hw' hk) ha hh
      · rename_i hwt
        simp only [hwt] at hh
        exact ⟨ha _ hw, ih _ _ hw hh⟩

theorem part_nil {ops : List Oper} {m : Nat} (hm : m < ops.length) : Part ops m md (List.replicate m false) (List.replicate ops.length false) := by
  refine ⟨by simp, by simp, fun i hi => ?_, fun i _ h2 => ?_, fun i o hi ho ht => ?_⟩
  · rw [List.getElem?_replicate, List.getElem?_replicate, if_pos hi, if_pos (by omega)]
  · rw [List.getElem?_replicate, if_pos h2]
  · rw [List.getElem?_replicate, if_pos hi] at ht; cases ht
theorem cntF_rep (m : Nat) : cntF (List.replicate m false) = m := by simp [cntF]

theorem list_two {l : List Bool} {N m : Nat} (hl : l.length = N) (hm : m ≤ N) (h1 : ∀ i, i < m → l[i]? = some true) (h2 : ∀ i, m ≤ i → i < N → l[i]? = some false) : l = List.replicate m true ++ List.replicate (N - m) false := by
  apply List.ext_getElem?
  intro i
  rcases Nat.lt_or_ge i m with h | h
  · rw [h1 i h, List.getElem?_append_left (by simpa using h), List.getElem?_replicate, if_pos h]
  · rw [List.getElem?_append_right (by simpa using h)]
    rcases Nat.lt_or_ge i N with h' | h'
    · rw [h2 i h h', List.getElem?_replicate, if_pos (by simp; omega)]
    · rw [List.getElem?_eq_none (by omega), List.getElem?_eq_none (by simp; omega)]

/-- THE QUIET ONES BY ONE LEXICAL WALK; THE REST IN EVERY WORLD OF THE CLASS. -/
theorem region_mix {id : Nat} {Q' : Exit → Act → World → Prop} {a : Act} {V : World} {l : List Oper} (m : Nat) (hml : m < l.length) (hM : mixB .any l m = true) (hnd : NoDefer l.toArray) (hm : P.follows .mixedOrders = true) (hB : Region.lexB .any (l.take m).toArray = true)
    (h : wpQuietIn F n P (l.take m).toArray (fun w' => ∃ x : Grew V, w' = x.1) (fun a' => ∀ w', (∃ x : Grew V, w' = x.1) → wpAnyIn F n P .any l.toArray Q' (l.length - m) (List.replicate m true ++ List.replicate (l.length - m) false).toArray a' w') (l.take m) a) :
    (Code.region id l.toArray true).wpIn F n P Q' a V := by
  simp only [Region.lexB, Bool.and_eq_true] at hB
  refine wpIn_region_any hm ?_
  have hq := wpAnyQIn_lex (F := F) (n := n) (P := P) (C := fun w' => ∃ x : Grew V, w' = x.1) (md := .any) hB.1 (l.take m) 0 (Array.replicate (l.take m).toArray.size false) a (by simp) (by simpa using hB.2) h
  have hlm : (l.take m).length = m := by rw [List.length_take]; omega
  have hb := bridge (F := F) (n := n) (P := P) (md := .any) (C := fun w' => ∃ x : Grew V, w' = x.1) (mix_of hM hml) hnd (Q := fun a' => ∀ w', (∃ x : Grew V, w' = x.1) → wpAnyIn F n P .any l.toArray Q' (l.length - m) (List.replicate m true ++ List.replicate (l.length - m) false).toArray a' w') (Q' := Q') (l.length - m) (fun a' w' hw' hq' ls h1 h2 h3 => by
    rw [list_two h1 (by omega) h2 h3]
    exact hq' w' hw') m (List.replicate m false) (List.replicate l.length false) a { V with drawn := V.drawn + 1 } (part_nil hml) (cntF_rep m) ⟨⟨_, (Below.refl _ V).drew⟩, rfl⟩ (by
      rw [hlm] at hq
      simpa [hlm] using hq)
  rw [show m + (l.length - m) = l.length by omega] at hb
  simpa using hb
end
end Go.Proofs.Qxb6618677a
