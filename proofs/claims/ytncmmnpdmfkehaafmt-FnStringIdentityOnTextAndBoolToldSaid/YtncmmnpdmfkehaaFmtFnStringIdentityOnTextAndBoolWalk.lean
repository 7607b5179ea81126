/- For every string s and bool b the law FnStringIdentityOnTextAndBool returns true and writes nothing that was there, fmt's texts told. Conditions: none. -/
import Derived.Test.YtncmmnpdmfkehaaFmtTexts
namespace Go.Proofs.YtncmmnpdmfkehaaFmt.fnStringIdentityOnTextAndBool
open Go.RowKit Go.Extern.Stop Go.Stop Go.Extern Go.Kit Go.Proofs.YtncmmnpdmfkehaaFmt

theorem bel1 (w : World) (o : Obj) : Below w.heap.size w (w.alloc o).drew := ((Below.refl _ _).alloc (Nat.le_refl _) _).drew

theorem s8 (F : Interp) (s : ByteArray) (w : World) (hF : F.told.answers w.tape) (hs : s.size ≤ 1048576) :
    Calls Tryf.prog 8 #[.string s] w fun e w' => e = .returned (.string s) ∧ Below w.heap.size w w' := by
  have hl : s.data.toList.length ≤ 1048576 := by simpa using hs
  have e : FmtStop.textOf (F.told "fmt.Sprintf" [[37, 118], shape9, FmtStop.pack s.data.toList] 0) = s := by
    rw [told_text F (t_str _ (by omega)) (by omega)]
  refine (z8 F.told s w hF).mono ?_
  rintro e1 w1 ⟨rfl, rfl⟩
  rw [e]
  exact ⟨rfl, bel1 _ _⟩

theorem s9 (F : Interp) (b : Bool) (w : World) (hF : F.told.answers w.tape) :
    Calls Tryf.prog 9 #[.bool b] w fun e w' => e = .returned (.string (if b then ⟨#[116, 114, 117, 101]⟩ else ⟨#[102, 97, 108, 115, 101]⟩)) ∧ Below w.heap.size w w' := by
  have e : FmtStop.textOf (F.told "fmt.Sprintf" [[37, 118], shape4, [if b then 1 else 0]] 0) = (if b then ⟨#[116, 114, 117, 101]⟩ else ⟨#[102, 97, 108, 115, 101]⟩) := by
    rw [told_text F (t_bool b) (by cases b <;> simp)]
    cases b <;> rfl
  refine (z9 F.told b w hF).mono ?_
  rintro e1 w1 ⟨rfl, rfl⟩
  rw [e]
  exact ⟨rfl, bel1 _ _⟩

set_option maxHeartbeats 1000000 in
theorem walk (F : Interp) (a0 : ByteArray) (a1 : Bool) (w : World) (hF : F.told.answers w.tape) (w0 : a0.size ≤ maxLen) :
    Calls Tryf.prog 4 #[.string a0, .bool a1] w fun e w' => e = .returned (.bool true) ∧ Below w.heap.size w w' := by
  unfold maxLen at w0
  by_cases h : 1048576 < a0.size
  · go_enter Tryf.func4, Tryf.ntmps4
    go_wp2
    go_ret
    exact ⟨rfl, Below.refl _ _⟩
  · have H := Lib.hid hF
    clear hF
    cases a1
    all_goals
      go_enter Tryf.func4, Tryf.ntmps4
      go_wp2_with (go_at_call 7; go_in)
      refine (s8 F a0 _ H.out (by omega)).mono ?_
      rintro e w1 ⟨rfl, b1⟩
      have H1 := Lib.hid (show F.told.answers w1.tape by rw [b1.tape]; exact H.out)
      go_wp2_with fail
      refine (s9 F _ _ H1.out).mono ?_
      rintro e w2 ⟨rfl, b2⟩
      have c2 := b1.trans (b2.mono b1.size)
      go_wp2_with fail
      go_ret
      exact ⟨rfl, c2⟩
end Go.Proofs.YtncmmnpdmfkehaaFmt.fnStringIdentityOnTextAndBool
