/-
  stif.malformed and stif.ZZMalformed BY ONE CONTRACT: fmt.Errorf lays two new blocks (the variadic slice's, the new *fmt.wrapError's) and draws once; of its text nothing is said. The closed facts on fmt's stopped front are turned from the guide's worked family on errors.Is (HOWTO 10.9) to this dump's numbers.
-/
import Derived.Test.Qxb6618677aFmtIs
import Derived.Test.Qxb6618677aFmtRows
import Derived.Stop.CallBack
import Derived.Stop.IfaceNil
import GoSem.ClaimData
import Derived.WalkSpells
namespace Go.Proofs.Qxb6618677aFmt
open Go.RowKit Go.Extern.Stop Go.Stop Go.Extern

theorem Tryf.call11 (args : Array Value) (w : World) : (callFunc 11 args).run Tryf.prog w = ((FmtStop.errorf #[9, 44] #[24] args).run Tryf.prog w).andThen fun v w' => .ok (.value v) w' :=
  run_callFunc_extern Tryf.func11 (by kernel_rfl) (by kernel_rfl) (by kernel_rfl) (by kernel_rfl) args w
theorem Tryf.guard (name : String) (w : World) : (FmtStop.guard name).run Tryf.prog w = .ok () w := by kernel_rfl
theorem Tryf.fmt0 : FmtStop.printed? ⟨#[37, 119, 58, 32, 37, 115]⟩ 2 = some [(0, 119, false), (1, 115, false)] := by kernel_rfl
theorem Tryf.fmt0r (w : World) : (FmtDoors.printed ⟨#[37, 119, 58, 32, 37, 115]⟩ 2).run Tryf.prog w = .ok [(0, 119, false), (1, 115, false)] w := by kernel_rfl
def Tryf.shape9 : List UInt8 := [12, 6, 0, 0, 0, 0, 0, 0, 0, 115, 116, 114, 105, 110, 103]
theorem Tryf.op9_115w (name : String) (x : ByteArray) (w : World) : (FmtStop.operand name true 115 false (.iface 9 (.string x))).run Tryf.prog w = .ok (Tryf.shape9, FmtStop.pack x.data.toList) w := by kernel_rfl
theorem Tryf.ptr45 (w : World) : (FmtStop.ptrTo "fmt.wrapError").run Tryf.prog w = .ok 45 w := by kernel_rfl
theorem Tryf.elem45 (w : World) : (elemOf 45).run Tryf.prog w = .ok 75 w := by kernel_rfl
theorem Tryf.isError45 (w : World) : (FmtDoors.textMethod 45 "Error").run Tryf.prog w = .ok true w := by kernel_rfl
theorem Tryf.isError46 (w : World) : (FmtDoors.textMethod 46 "Error").run Tryf.prog w = .ok true w := by kernel_rfl
attribute [local go_sem] Tryf.call11 Tryf.guard Tryf.fmt0 Tryf.fmt0r Tryf.op9_115w Tryf.ptr45 Tryf.elem45 Tryf.isError45 Tryf.isError46

/-- The name of the sentinel's dynamic type, off the given datum. -/
def errName : String := match (Rows.laid_example_com_delrec_delrec_stif_ErrMalformed : DataW Unit) with | .iface nm _ => nm | _ => ""
def Tryf.plain46 : List UInt8 := 14 :: FmtStop.pack errName.toUTF8.data.toList
theorem Tryf.opPlain46_119w (name : String) (a : Addr) (s : ByteArray) (w : World) (hc : w.cell? a = some (.string s)) :
    (FmtStop.operand name true 119 false (.iface 46 (.pointer (some a)))).run Tryf.prog w = .ok (Tryf.plain46, s.data.toList) w := by
  have h1 : (typeStr 46).run Tryf.prog w = .ok errName w := by kernel_rfl
  have d2 : Tryf.t46.desc = .pointer 48 := rfl
  have d3 : Tryf.t48.desc = .named "errors.errorString" 47 := rfl
  simp [FmtStop.operand, h1, d2, d3, run_load, hc, Tryf.plain46]

/-- The world behind one report: the variadic slice's block; the new error's; one draw. -/
def malWorld (a : Addr) (r t : ByteArray) (w : World) : World :=
  ((w.alloc (.cells #[.iface 46 (.pointer (some a)), .iface 9 (.string r)] 20)).alloc (.cells #[.string t, .iface 46 (.pointer (some a))] 75)).drew

set_option maxHeartbeats 400000 in
theorem mal_any (F : Interp) (r : ByteArray) (a : Addr) (s : ByteArray) (w : World) (hF : F.answers w.tape) (hg : w.cell? ⟨0, 0, none⟩ = some (.iface 46 (.pointer (some a))))
    (hs : (w.alloc (.cells #[.iface 46 (.pointer (some a)), .iface 9 (.string r)] 20)).cell? a = some (.string s)) :
    Calls Tryf.prog 5 #[.string r] w fun e w' => e = .returned (.iface 45 (.pointer (some ⟨w.heap.size + 1, 0, none⟩))) ∧ ∃ t, w' = malWorld a r t w := by
  have hF' := answers_open hF
  have hop := Tryf.opPlain46_119w "fmt.errorf" a s _ hs
  go_enter Tryf.func5, Tryf.ntmps5
  go_wp2
  go_ret
  exact ⟨rfl, _, rfl⟩

end Go.Proofs.Qxb6618677aFmt
