/- What String gives of an int64, a string and a bool, fmt's texts told by the kit's own function: the decimal text, the string itself, true or false. Nothing that was there is written. No statement is proved here. -/
import Derived.Test.YtncmmnpdmfkehaaFmtRows
import Derived.WalkKit
import Derived.WalkLawsBesides
import Derived.WalkSpells
import Derived.Below
import Derived.Lib.Hide
import Derived.Stop.CallBack
import Derived.Stop.IfaceNil
import Derived.Stop.JoinedTold
import Derived.Stop.Texts
import Derived.Stop.FmtTextKit
import Derived.Stop.FmtTextVerbs
namespace Go.Proofs.YtncmmnpdmfkehaaFmt
open Go.RowKit Go.Extern.Stop Go.Stop Go.Extern Go.Kit

@[go_sem] theorem call11 (args : Array Value) (w : World) : (callFunc 11 args).run Tryf.prog w = ((FmtStop.sprintf #[9, 48] #[9] args).run Tryf.prog w).andThen fun v w' => .ok (.value v) w' :=
  run_callFunc_extern Tryf.func11 (by kernel_rfl) (by kernel_rfl) (by kernel_rfl) (by kernel_rfl) args w
@[go_sem] theorem fguard (name : String) (w : World) : (FmtStop.guard name).run Tryf.prog w = .ok () w := by kernel_rfl
@[go_sem] theorem fmt0 : FmtStop.printed? ⟨#[37, 118]⟩ 1 = some [(0, 118, false)] := by kernel_rfl
@[go_sem] theorem fmt0r (w : World) : (FmtDoors.printed ⟨#[37, 118]⟩ 1).run Tryf.prog w = .ok [(0, 118, false)] w := by kernel_rfl
def shape2 : List UInt8 := [5, 5, 0, 0, 0, 0, 0, 0, 0, 105, 110, 116, 54, 52]
def shape9 : List UInt8 := [12, 6, 0, 0, 0, 0, 0, 0, 0, 115, 116, 114, 105, 110, 103]
def shape4 : List UInt8 := [1, 4, 0, 0, 0, 0, 0, 0, 0, 98, 111, 111, 108]
@[go_sem] theorem op2 (name : String) (x : Int) (w : World) : (FmtStop.operand name false 118 false (.iface 2 (.int .i64 x))).run Tryf.prog w = .ok (shape2, Go.Extern.Stop.digits 8 (x % 2 ^ 64).toNat) w := by kernel_rfl
@[go_sem] theorem op9 (name : String) (x : ByteArray) (w : World) : (FmtStop.operand name false 118 false (.iface 9 (.string x))).run Tryf.prog w = .ok (shape9, FmtStop.pack x.data.toList) w := by kernel_rfl
@[go_sem] theorem op4 (name : String) (b : Bool) (w : World) : (FmtStop.operand name false 118 false (.iface 4 (.bool b))).run Tryf.prog w = .ok (shape4, [if b then 1 else 0]) w := by kernel_rfl
@[go_sem] theorem ta9 (v : Value) (w : World) : (Instr.typeAssert (.iface 9 v) 20 9 false).run Tryf.prog w = .ok v w := by kernel_rfl

theorem t_parse : (FmtText.parse [37, 118]).map FmtText.glue = some [.verb {} 118] := by rfl

theorem t_int (n : Int) (hw : (Lit.int .i64 n).wf = true) : FmtText.text "fmt.Sprintf" [[37, 118], shape2, digits 8 (n % 18446744073709551616).toNat] = some (Lib.itoa n) := by
  have hi := FmtText.operand_int_at (sh := shape2) (k := .i64) rfl rfl n hw
  rw [FmtText.text_sprintf_glued t_parse (FmtText.operands_cons hi FmtText.operands_nil)]
  simp [FmtText.render, FmtText.printArg_v _ _ hw]
theorem t_str (s : List UInt8) (hs : s.length < 2 ^ 64) : FmtText.text "fmt.Sprintf" [[37, 118], shape9, FmtStop.pack s] = some s := by
  have hi := FmtText.operand_str_at (sh := shape9) rfl rfl s hs
  rw [FmtText.text_sprintf_glued t_parse (FmtText.operands_cons hi FmtText.operands_nil)]
  simp [FmtText.render, FmtText.printArg_v_str]
theorem t_bool (b : Bool) : FmtText.text "fmt.Sprintf" [[37, 118], shape4, [if b then 1 else 0]] = some (if b then [116, 114, 117, 101] else [102, 97, 108, 115, 101]) := by
  have hi := FmtText.operand_bool_at (sh := shape4) rfl rfl b
  rw [FmtText.text_sprintf_glued t_parse (FmtText.operands_cons hi FmtText.operands_nil)]
  simp [FmtText.render, FmtText.printArg_v_bool]

set_option maxHeartbeats 400000 in
theorem z5 (F : Interp) (n : Int) (w : World) (hF : F.answers w.tape) :
    Calls Tryf.prog 5 #[.int .i64 n] w fun e w' => e = .returned (.string (FmtStop.textOf (F "fmt.Sprintf" [[37, 118], shape2, digits 8 (n % 18446744073709551616).toNat] 0))) ∧
      (w.alloc (.cells #[.iface 2 (.int .i64 n)] 20)).drew = w' := by
  have hF' := answers_open hF
  go_enter Tryf.func5, Tryf.ntmps5
  go_wp2
  go_ret
  exact ⟨rfl, rfl⟩
set_option maxHeartbeats 400000 in
theorem z8 (F : Interp) (s : ByteArray) (w : World) (hF : F.answers w.tape) :
    Calls Tryf.prog 8 #[.string s] w fun e w' => e = .returned (.string (FmtStop.textOf (F "fmt.Sprintf" [[37, 118], shape9, FmtStop.pack s.data.toList] 0))) ∧
      (w.alloc (.cells #[.iface 9 (.string s)] 20)).drew = w' := by
  have hF' := answers_open hF
  go_enter Tryf.func8, Tryf.ntmps8
  go_wp2
  go_ret
  exact ⟨rfl, rfl⟩
set_option maxHeartbeats 400000 in
theorem z9 (F : Interp) (b : Bool) (w : World) (hF : F.answers w.tape) :
    Calls Tryf.prog 9 #[.bool b] w fun e w' => e = .returned (.string (FmtStop.textOf (F "fmt.Sprintf" [[37, 118], shape4, [if b then 1 else 0]] 0))) ∧
      (w.alloc (.cells #[.iface 4 (.bool b)] 20)).drew = w' := by
  have hF' := answers_open hF
  cases b
  all_goals
    go_enter Tryf.func9, Tryf.ntmps9
    go_wp2
    go_ret
    exact ⟨rfl, rfl⟩

theorem told_text (F : Interp) {reading : List (List UInt8)} {t : List UInt8} (h : FmtText.text "fmt.Sprintf" reading = some t) (hl : t.length < 2 ^ 63) :
    FmtStop.textOf (F.told "fmt.Sprintf" reading 0) = ⟨t.toArray⟩ := by
  have := told_string F h hl
  rw [← textOf_list] at this
  generalize FmtStop.textOf (F.told "fmt.Sprintf" reading 0) = x at *
  cases x with | mk d => cases d with | mk l => simp at this; rw [this]
end Go.Proofs.YtncmmnpdmfkehaaFmt
