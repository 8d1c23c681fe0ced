/-
  THE CARD OF 'FnMalformedReportsWrapTheSentinelAndAreTheirOwn', PROVED: the row out of the law's walk, fmt's text told (nothing of it is used), the listed variable tied by the given tie.
-/
import Derived.Test.Qxb6618677aFmtLaw
import Derived.Test.Qxb6618677aFmtCards
import Derived.Test.Qxb6618677aFmtTie
import Derived.ProofKit
import Derived.Stop.JoinedAt
import Derived.Stop.JoinedTold
import Derived.Stop.Texts
import Derived.ShutString
namespace Go.Proofs.Qxb6618677aFmt
open Go.ChangeShapes Go.WideShapes Go.ChangeAt Go.RowKit Go.Kit
open Go.ChangeMaps (open_string shut_string)
open Go.Extern.Stop Go.Stop Go.Extern

theorem own : ownKnob Tryf.prog.godebug = none := by kernel_rfl
theorem laidOut : laidOutB Tryf.pinned.checked.prog = true := by kernel_rfl
theorem stops : Tryf.pinned.checked.prog.stops = ["fmt.errorf"] := by kernel_rfl
theorem stopKnobs : Tryf.pinned.checked.prog.stopKnobs = [] := by kernel_rfl
theorem quiet (os : Os) : Stop.quiet Tryf.pinned.checked.prog os := by
  intro k hk
  rw [stopKnobs] at hk
  cases hk

/-- The listed variable's name, off the given specification. -/
def vn : String := Rows.fnMalformedReportsWrapTheSentinelAndAreTheirOwnSpec.vars.headD ""
theorem gE : Tryf.prog.globalNamed vn = some 0 := by kernel_rfl
theorem gEType : (Tryf.prog.globals[0]?).map (·.type) = some 24 := by kernel_rfl
theorem cells48 : Tryf.prog.cellsOf 48 = 1 := by kernel_rfl
theorem cells9 : Tryf.prog.cellsOf 9 = 1 := by kernel_rfl
theorem rows46 : ((List.range Tryf.prog.types.size).all fun u => Tryf.prog.typeName? 3 u != some errName || u == 46) = true := by kernel_rfl
theorem row46 (u : TypeId) (h : Tryf.prog.typeName? 3 u = some errName) : u = 46 :=
  typeName_ptr_named (nm := "errors.errorString") rows46 (by kernel_rfl) (by decide) u h

def laidOf (low : Nat) (w0 : World) : World :=
  { w0 with heap := w0.heap.modify 0 fun
      | .cells _ t frozen => .cells #[.iface 46 (.pointer (some ⟨low, 0, none⟩))] t frozen
      | o => o }
def sentS : ByteArray := ⟨#[109, 97, 108, 102, 111, 114, 109, 101, 100, 32, 104, 101, 97, 100, 101, 114]⟩
theorem laid_met (os : Os) (args : Array Value) :
    laidMet Tryf.prog Rows.fnMalformedReportsWrapTheSentinelAndAreTheirOwnRow.laid ((laidOf (World.holding Tryf.prog default ⟨#[], #[], []⟩).heap.size (World.holding Tryf.prog os ⟨#[.cells #[.string sentS] 48], #[], []⟩)).forCall (fun _ _ => 0) ⟨#[], args, []⟩).memory :=
  laidMet_of_run (ps := [.cell 0 0, .cell (World.holding Tryf.prog default ⟨#[], #[], []⟩).heap.size 0]) 8 (by kernel_rfl) (by kernel_rfl) (by kernel_rfl)

set_option maxRecDepth 100000 in
theorem lifted (os : Os) (started : os.Started) (H : Type) (enc : TypeId × Value → H) :
    ReturnsInTold none {} Tryf.checked os 3 .any Input.okWide ((OpenSpec.ofChange Rows.fnMalformedReportsWrapTheSentinelAndAreTheirOwnSpec).preRow enc Tryf.prog Tryf.f3 [] false Rows.fnMalformedReportsWrapTheSentinelAndAreTheirOwnRow.laid) (fun F => ((OpenSpec.ofChange Rows.fnMalformedReportsWrapTheSentinelAndAreTheirOwnSpec).at F).post enc Tryf.prog Tryf.f3 false true false false) (aloneAtReturn Tryf.prog) nothingAlways := by
  refine returnsInTold_of_row (C := Tryf.checked) (s := OpenSpec.ofChange Rows.fnMalformedReportsWrapTheSentinelAndAreTheirOwnSpec) (by kernel_rfl) own started (by kernel_rfl) Tryf.func3
    (OpenSpec.witness_stopped_at (enc := enc) (C := Tryf.checked) false (laidOf (World.holding Tryf.prog default ⟨#[], #[], []⟩).heap.size (World.holding Tryf.prog os ⟨#[.cells #[.string sentS] 48], #[], []⟩)) #[.string ByteArray.empty, .string ByteArray.empty] rfl (by kernel_rfl) (by kernel_rfl) (by kernel_rfl)
      (OpenSpec.preRow_of_B rfl 8 (by kernel_rfl) (by kernel_rfl) (laid_met os _))) ?_
  intro F W base args ds gs before _ hF hval0 hW _ _ _ hL _
  have hval : ∀ (j : Nat) t v, Tryf.f3.params[j]? = some t → args[j]? = some v → Value.okWide Tryf.prog W .any base t v := hval0
  have hW' := hW
  obtain ⟨p, q, hA0, hV0, rfl, hfz, hnd⟩ := hW
  have hA : DataW.TrodAll enc Tryf.prog W 0 (fun _ => true) true Tryf.f3.params.toList args.toList ds p := hA0
  have hV : DataW.TrodVars enc Tryf.prog W (fun _ => true) [vn] gs q := hV0
  rw [Tryf.params3] at hA hval
  obtain ⟨v0, v1, d0, d1, p0, p1, rfl, rfl, rfl, h0, h1⟩ := trodAll_two hA
  obtain ⟨r1, rfl, rfl, rfl, w1⟩ := open_string Tryf.underlying9 (hval 0 9 v0 rfl rfl) h0
  obtain ⟨r2, rfl, rfl, rfl, w2⟩ := open_string Tryf.underlying9 (hval 1 9 v1 rfl rfl) h1
  obtain ⟨a, s, hv, hc, hs, hz⟩ := laid_sentinel (n := vn) (nm := errName) hL gE gEType Tryf.underlying24 row46 Tryf.underlying46 Tryf.underlying48 rfl rfl Tryf.underlying9 cells48 cells9
  obtain ⟨rfl, rfl⟩ := hV.unique (vars_read1 enc gE gEType Tryf.underlying24 hv trivial _)
  clear hA0 hV0 hval0
  have hg : W.cell? ⟨0, 0, none⟩ = some (.iface 46 (.pointer (some a))) := by simpa using World.var?_cell gE hv 0
  have e1 : ((OpenSpec.ofChange Rows.fnMalformedReportsWrapTheSentinelAndAreTheirOwnSpec).at F.told).fn H ([.lit (.string r1.data.toList), .lit (.string r2.data.toList)] ++ [tok enc (.iface 46 (.pointer (some a)))]) = { results := [.lit (.bool true)], args := [.lit (.string r1.data.toList), .lit (.string r2.data.toList)], vars := [tok enc (.iface 46 (.pointer (some a)))] } := rfl
  by_cases hbig : 1048576 < r1.size + r2.size
  · refine (law_big r1 r2 W w1 w2 hbig).mono fun e W' ⟨he, hw⟩ => ?_
    subst he; subst hw
    refine ⟨_, rfl, _, _, _, [], [], [.cell 0 0], hW', ?_, ?_, ?_, World.keptBut_refl _ _, fun h => by cases h⟩
    · rw [e1]; exact trodAll_mk1 (shut_bool Tryf.underlying4 _)
    · rw [e1]; exact trodAll_mk2 (shut_string Tryf.underlying9 w1) (shut_string Tryf.underlying9 w2)
    · rw [e1]; exact vars_read1 enc gE gEType Tryf.underlying24 hv trivial _
  · refine (law_small F.told r1 r2 a s W hF hg hc (by omega)).mono fun e W' ⟨he, t1, t2, hw⟩ => ?_
    subst he; subst hw
    have hx : W.Extends (malWorld a r2 t2 (malWorld a r1 t1 W)) := ((((((World.Extends.refl W).alloc _).alloc _).drew).alloc _).alloc _).drew
    refine ⟨_, rfl, _, _, _, [], [], [.cell 0 0], hW', ?_, ?_, ?_, World.keptBut_mono (fun _ h => h.elim) (World.keptBut_none_iff.2 ⟨hx.os, hx.output, hx.block⟩), fun h => by cases h⟩
    · rw [e1]; exact trodAll_mk1 (shut_bool Tryf.underlying4 _)
    · rw [e1]; exact trodAll_mk2 (shut_string Tryf.underlying9 w1) (shut_string Tryf.underlying9 w2)
    · rw [e1]; exact vars_read1 enc gE gEType Tryf.underlying24 (var?_drew (var?_alloc (var?_alloc (var?_drew (var?_alloc (var?_alloc hv)))))) trivial _

/-- THE STATEMENT. -/
theorem proved : Rows.FnMalformedReportsWrapTheSentinelAndAreTheirOwnToldSaid :=
  Claim7.holds_of_told_tied_any_at .later 3 Tryf.f3 "fmt.errorf" [] [] _ _ _ _ _ (by kernel_rfl) rfl rfl rfl laidOut (by kernel_rfl) rfl ⟨rfl, rfl, rfl, rfl, rfl, rfl, rfl⟩ rfl rfl (by kernel_rfl) (by kernel_rfl) Tryf.func3 (by kernel_rfl)
    (of_decide_eq_true (by kernel_rfl)) (of_decide_eq_true (by kernel_rfl)) stops.symm rfl stopKnobs.symm (by kernel_rfl)
    (by kernel_rfl) (by kernel_rfl) (by kernel_rfl) (by kernel_rfl) (by kernel_rfl) (by kernel_rfl) (by kernel_rfl) (by kernel_rfl) (by kernel_rfl) rfl (by kernel_rfl) rfl rfl
    rfl rfl
    rfl (by kernel_rfl) (by kernel_rfl) (by kernel_rfl) (by decide) (by kernel_rfl) fnMalformedReportsWrapTheSentinelAndAreTheirOwn_row_tie
    (OpenClaim.moreEntering_of (by kernel_rfl) (by kernel_rfl) (by kernel_rfl) (by kernel_rfl) (by kernel_rfl) (by kernel_rfl) (by kernel_rfl) (by kernel_rfl) (by kernel_rfl) (by kernel_rfl))
    ⟨_, WideRow.started_initial, quiet _⟩
    (fun os started _ H enc _ => lifted os started H enc)
#print axioms proved

end Go.Proofs.Qxb6618677aFmt
