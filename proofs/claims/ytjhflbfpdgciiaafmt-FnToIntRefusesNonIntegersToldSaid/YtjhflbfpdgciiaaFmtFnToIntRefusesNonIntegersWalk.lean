/- For every string s, float64 f and bool b the law FnToIntRefusesNonIntegers returns true and writes nothing that was there, whatever texts fmt gives. Conditions: none. -/
import Derived.Test.YtjhflbfpdgciiaaFmtAsserts
import Derived.WalkKit
import Derived.WalkLawsBesides
import Derived.WalkSpells
import Derived.Below
import Derived.Stop.CallBack
import Derived.Stop.IfaceNil
import Derived.Deep.QuietTactic
import Derived.BigQuiet
import Derived.Lib.Hide
namespace Go.Proofs.YtjhflbfpdgciiaaFmt.fnToIntRefusesNonIntegers
open Go.RowKit Go.Extern.Stop Go.Stop Go.Extern Go.Proofs.YtjhflbfpdgciiaaFmt

@[go_sem] theorem call23 (args : Array Value) (w : World) : (callFunc 23 args).run Tryf.prog w = ((FmtStop.errorf #[9, 52] #[48] args).run Tryf.prog w).andThen fun v w' => .ok (.value v) w' :=
  run_callFunc_extern Tryf.func23 (by kernel_rfl) (by kernel_rfl) (by kernel_rfl) (by kernel_rfl) args w
@[go_sem] theorem fguard (name : String) (w : World) : (FmtStop.guard name).run Tryf.prog w = .ok () w := by kernel_rfl
@[go_sem] theorem fmt0 : FmtStop.printed? ⟨#[99, 97, 110, 110, 111, 116, 32, 117, 115, 101, 32, 37, 84, 32, 97, 115, 32, 97, 114, 103, 117, 109, 101, 110, 116, 32, 40, 116, 121, 112, 101, 32, 105, 110, 116, 41]⟩ 1 = some [(0, 84, false)] := by kernel_rfl
@[go_sem] theorem fmt0r (w : World) : (FmtDoors.printed ⟨#[99, 97, 110, 110, 111, 116, 32, 117, 115, 101, 32, 37, 84, 32, 97, 115, 32, 97, 114, 103, 117, 109, 101, 110, 116, 32, 40, 116, 121, 112, 101, 32, 105, 110, 116, 41]⟩ 1).run Tryf.prog w = .ok [(0, 84, false)] w := by kernel_rfl
@[go_sem] theorem opT9 (name : String) (v : Value) (w : World) : (FmtStop.operand name true 84 false (.iface 9 v)).run Tryf.prog w = .ok (21 :: FmtStop.pack [115, 116, 114, 105, 110, 103], []) w := by kernel_rfl
@[go_sem] theorem opT22 (name : String) (v : Value) (w : World) : (FmtStop.operand name true 84 false (.iface 22 v)).run Tryf.prog w = .ok (21 :: FmtStop.pack [102, 108, 111, 97, 116, 54, 52], []) w := by kernel_rfl
@[go_sem] theorem opT4 (name : String) (v : Value) (w : World) : (FmtStop.operand name true 84 false (.iface 4 v)).run Tryf.prog w = .ok (21 :: FmtStop.pack [98, 111, 111, 108], []) w := by kernel_rfl
@[go_sem] theorem opTnil (name : String) (w : World) : (FmtStop.operand name true 84 false .nilIface).run Tryf.prog w = .ok ([0], []) w := by kernel_rfl
@[go_sem] theorem ptr55 (w : World) : (FmtStop.ptrTo "errors.errorString").run Tryf.prog w = .ok 55 w := by kernel_rfl
@[go_sem] theorem elem55 (w : World) : (elemOf 55).run Tryf.prog w = .ok 57 w := by kernel_rfl

theorem bel2 (w : World) (o1 o2 : Obj) (n m : Nat) : Below w.heap.size w ((((w.alloc o1).alloc o2).drewN n).drewN m) :=
  below_drewN (below_drewN (((Below.refl _ _).alloc (Nat.le_refl _) _).alloc (by simp) _) n) m

set_option maxHeartbeats 400000 in
theorem r6 (F : Interp) (s : ByteArray) (w : World) (hF : F.answers w.tape) :
    Calls Tryf.prog 6 #[.string s] w fun e w' => e = .returned (.tuple #[.int .i64 0, .bool false]) ∧ Below w.heap.size w w' := by
  have hF' := answers_open hF
  go_enter Tryf.func6, Tryf.ntmps6
  go_wp2
  go_quiet (fail)
  go_wp2
  go_ret2
  exact ⟨rfl, bel2 _ _ _ 1 _⟩

set_option maxHeartbeats 400000 in
theorem r7 (F : Interp) (x : Nat) (w : World) (hF : F.answers w.tape) :
    Calls Tryf.prog 7 #[.float .f64 x] w fun e w' => e = .returned (.tuple #[.int .i64 0, .bool false]) ∧ Below w.heap.size w w' := by
  have hF' := answers_open hF
  go_enter Tryf.func7, Tryf.ntmps7
  go_wp2
  go_quiet (fail)
  go_wp2
  go_ret2
  exact ⟨rfl, bel2 _ _ _ 1 _⟩

set_option maxHeartbeats 400000 in
theorem r8 (F : Interp) (b : Bool) (w : World) (hF : F.answers w.tape) :
    Calls Tryf.prog 8 #[.bool b] w fun e w' => e = .returned (.tuple #[.int .i64 0, .bool false]) ∧ Below w.heap.size w w' := by
  have hF' := answers_open hF
  go_enter Tryf.func8, Tryf.ntmps8
  go_wp2
  go_quiet (fail)
  go_wp2
  go_ret2
  exact ⟨rfl, bel2 _ _ _ 1 _⟩

set_option maxHeartbeats 400000 in
theorem r9 (F : Interp) (w : World) (hF : F.answers w.tape) :
    Calls Tryf.prog 9 #[] w fun e w' => e = .returned (.tuple #[.int .i64 0, .bool false]) ∧ Below w.heap.size w w' := by
  have hF' := answers_open hF
  go_enter Tryf.func9, Tryf.ntmps9
  go_wp2
  go_quiet (fail)
  go_wp2
  go_ret2
  exact ⟨rfl, bel2 _ _ _ 1 _⟩

set_option maxHeartbeats 1000000 in
theorem walk (F : Interp) (a0 : ByteArray) (a1 : Nat) (a2 : Bool) (w : World) (hF : F.answers w.tape) (w0 : a0.size ≤ maxLen) (_w1 : (Lit.float .f64 a1).wf = true) :
    Calls Tryf.prog 3 #[.string a0, .float .f64 a1, .bool a2] w fun e w' => e = .returned (.bool true) ∧ Below w.heap.size w w' := by
  unfold maxLen at w0
  clear _w1
  by_cases h : 1048576 < a0.size
  · go_enter Tryf.func3, Tryf.ntmps3
    go_wp2
    go_ret
    exact ⟨rfl, Below.refl _ _⟩
  · have H := Lib.hid hF
    clear hF
    go_enter Tryf.func3, Tryf.ntmps3
    go_wp2_with (go_at_call 5; go_in)
    refine (r6 F _ _ H.out).mono ?_
    rintro e w1 ⟨rfl, b1⟩
    have H1 := Lib.hid (show F.answers w1.tape by rw [b1.tape]; exact H.out)
    go_wp2_with fail
    refine (r7 F _ _ H1.out).mono ?_
    rintro e w2 ⟨rfl, b2⟩
    have H2 := Lib.hid (show F.answers w2.tape by rw [b2.tape]; exact H1.out)
    go_wp2_with fail
    refine (r8 F _ _ H2.out).mono ?_
    rintro e w3 ⟨rfl, b3⟩
    have H3 := Lib.hid (show F.answers w3.tape by rw [b3.tape]; exact H2.out)
    go_wp2_with fail
    refine (r9 F _ H3.out).mono ?_
    rintro e w4 ⟨rfl, b4⟩
    have c2 := b1.trans (b2.mono b1.size)
    have c3 := c2.trans (b3.mono c2.size)
    have c4 := c3.trans (b4.mono c3.size)
    go_wp2_with fail
    go_ret
    exact ⟨rfl, c4⟩
end Go.Proofs.YtjhflbfpdgciiaaFmt.fnToIntRefusesNonIntegers
