/-
  THE WALK of 'tooLong': fmt's text told. The closed facts on fmt.Sprintf's stopped front, after the guide's LabelFmt, at this program's numbers; the text's lemma, after LabelTold.
-/
import Derived.Test.Qxb6614040aFmtRows
import Derived.WalkKit
import Derived.WalkSpells
import Derived.Stop.CallBack
import Derived.Stop.IfaceNil
import Derived.Stop.FmtTextKit
import Derived.Stop.Texts
import Derived.Stop.JoinedTold
namespace Go.Proofs.Qxb6614040aFmt
open Go.RowKit Go.Kit Go.Extern.Stop Go.Stop Go.Extern

theorem call8 (args : Array Value) (w : World) : (callFunc 8 args).run Tryf.prog w = ((FmtStop.sprintf #[9, 45] #[9] args).run Tryf.prog w).andThen fun v w' => .ok (.value v) w' :=
  run_callFunc_extern Tryf.func8 (by kernel_rfl) (by kernel_rfl) (by kernel_rfl) (by kernel_rfl) args w
theorem guard (name : String) (w : World) : (FmtStop.guard name).run Tryf.prog w = .ok () w := by kernel_rfl
theorem fmt0 : FmtStop.printed? ⟨#[109, 117, 115, 116, 32, 98, 101, 32, 110, 111, 32, 109, 111, 114, 101, 32, 116, 104, 97, 110, 32, 37, 100, 32, 99, 104, 97, 114, 97, 99, 116, 101, 114, 115]⟩ 1 = some [(0, 100, false)] := by kernel_rfl
theorem fmt0r (w : World) : (FmtDoors.printed ⟨#[109, 117, 115, 116, 32, 98, 101, 32, 110, 111, 32, 109, 111, 114, 101, 32, 116, 104, 97, 110, 32, 37, 100, 32, 99, 104, 97, 114, 97, 99, 116, 101, 114, 115]⟩ 1).run Tryf.prog w = .ok [(0, 100, false)] w := by kernel_rfl
def shape3 : List UInt8 := [5, 3, 0, 0, 0, 0, 0, 0, 0, 105, 110, 116]
theorem op3_100 (name : String) (x : Int) (w : World) : (FmtStop.operand name false 100 false (.iface 3 (.int .i64 x))).run Tryf.prog w = .ok (shape3, Go.Extern.Stop.digits 8 (x % 2 ^ 64).toNat) w := by kernel_rfl
attribute [local go_sem] call8 guard fmt0 fmt0r op3_100

/-- What fmt is asked. -/
def reading (n : Int) : List (List UInt8) := [[109, 117, 115, 116, 32, 98, 101, 32, 110, 111, 32, 109, 111, 114, 101, 32, 116, 104, 97, 110, 32, 37, 100, 32, 99, 104, 97, 114, 97, 99, 116, 101, 114, 115], shape3, digits 8 (n % 18446744073709551616).toNat]

/-- The message. -/
def msg (n : Int) : List UInt8 := [109, 117, 115, 116, 32, 98, 101, 32, 110, 111, 32, 109, 111, 114, 101, 32, 116, 104, 97, 110, 32] ++ Lib.itoa n ++ [32, 99, 104, 97, 114, 97, 99, 116, 101, 114, 115]
def msgB (n : Int) : ByteArray := ⟨(msg n).toArray⟩

theorem parse_fact : (FmtText.parse [109, 117, 115, 116, 32, 98, 101, 32, 110, 111, 32, 109, 111, 114, 101, 32, 116, 104, 97, 110, 32, 37, 100, 32, 99, 104, 97, 114, 97, 99, 116, 101, 114, 115]).map FmtText.glue = some [.lit [109, 117, 115, 116, 32, 98, 101, 32, 110, 111, 32, 109, 111, 114, 101, 32, 116, 104, 97, 110, 32], .verb {} 100, .lit [32, 99, 104, 97, 114, 97, 99, 116, 101, 114, 115]] := by rfl

theorem text_fact (n : Int) (hw : (Lit.int .i64 n).wf = true) : FmtText.text "fmt.Sprintf" (reading n) = some (msg n) := by
  have hi := FmtText.operand_int_at (sh := shape3) (k := .i64) rfl rfl n hw
  rw [reading, FmtText.text_sprintf_glued parse_fact (FmtText.operands_cons hi FmtText.operands_nil)]
  simp [FmtText.render, FmtText.printArg_d _ _ hw, msg]

theorem text_is (F : Interp) (n : Int) (hw : (Lit.int .i64 n).wf = true) : FmtStop.textOf (F.told "fmt.Sprintf" (reading n) 0) = msgB n := by
  have l := FmtText.itoa_length_le hw
  have ht := told_string F (text_fact n hw) (by simp [msg]; omega)
  have hd : (FmtStop.textOf (F.told "fmt.Sprintf" (reading n) 0)).data.toList = (msgB n).data.toList := by
    rw [textOf_list, ht]; simp [msgB]
  exact ByteArray.ext (Array.toList_inj.1 hd)

set_option maxHeartbeats 400000 in
theorem tooLong_open (F : Interp) (n : Int) (w : World) (hF : F.answers w.tape) :
    Calls Tryf.prog 7 #[.int .i64 n] w fun e w' => e = .returned (.string (FmtStop.textOf (F "fmt.Sprintf" (reading n) 0))) ∧
      w' = (w.alloc (.cells #[.iface 3 (.int .i64 n)] 20)).drew := by
  have hF' := answers_open hF
  go_enter Tryf.func7, Tryf.ntmps7
  go_wp2
  go_ret
  exact ⟨rfl, rfl⟩

theorem tooLong_told (F : Interp) (n : Int) (w : World) (hF : F.told.answers w.tape) (hw : (Lit.int .i64 n).wf = true) :
    Calls Tryf.prog 7 #[.int .i64 n] w fun e w' => e = .returned (.string (msgB n)) ∧
      w' = (w.alloc (.cells #[.iface 3 (.int .i64 n)] 20)).drew := by
  rw [← text_is F n hw]
  exact tooLong_open F.told n w hF

set_option maxHeartbeats 400000 in
theorem zz_told (F : Interp) (n : Int) (w : World) (hF : F.told.answers w.tape) (hw : (Lit.int .i64 n).wf = true) :
    Calls Tryf.prog 4 #[.int .i64 n] w fun e w' => e = .returned (.string (msgB n)) ∧
      w' = (w.alloc (.cells #[.iface 3 (.int .i64 n)] 20)).drew := by
  go_enter Tryf.func4, Tryf.ntmps4
  go_wp2_with (go_at_call 7; refine (tooLong_told F n _ hF hw).mono ?_; rintro e w' ⟨rfl, rfl⟩)
  go_ret
  exact ⟨rfl, rfl⟩
end Go.Proofs.Qxb6614040aFmt
