/- What the thin shims over toInt give at each integer kind: the number and true; nothing is written. No statement is proved here. -/
import Derived.Test.YtjhflbfpdgciiaaFmtAsserts
import Derived.WalkKit
import Derived.WalkLawsBesides
import Derived.WalkSpells
import Derived.Below
import Derived.Deep.QuietTactic
import Derived.BigQuiet
namespace Go.Proofs.YtjhflbfpdgciiaaFmt
open Go.RowKit

/-- the world but for draws -/
def Drawn (w w' : World) : Prop := ∃ m, w' = w.drewN m
theorem Drawn.below {w w' : World} (h : Drawn w w') (B : Nat) : Below B w w' := by
  obtain ⟨m, rfl⟩ := h
  exact below_drewN (Below.refl _ _) m


set_option maxHeartbeats 400000 in
theorem z10 (n : Int) (w : World) :
    Calls Tryf.prog 10 #[.int .i64 n] w fun e w' => e = .returned (.tuple #[.int .i64 n, .bool true]) ∧ Drawn w w' := by
  go_enter Tryf.func10, Tryf.ntmps10
  go_wp2
  go_quiet (fail)
  go_wp2
  go_ret2
  exact ⟨rfl, _, rfl⟩

set_option maxHeartbeats 400000 in
theorem z12 (n : Int) (w : World) (h0 : -128 ≤ n) (h1 : n ≤ 127) :
    Calls Tryf.prog 12 #[.int .i8 n] w fun e w' => e = .returned (.tuple #[.int .i64 n, .bool true]) ∧ Drawn w w' := by
  go_enter Tryf.func12, Tryf.ntmps12
  go_wp2
  go_quiet (fail)
  go_wp2
  go_ret2
  exact ⟨rfl, _, rfl⟩

set_option maxHeartbeats 400000 in
theorem z13 (n : Int) (w : World) (h0 : -32768 ≤ n) (h1 : n ≤ 32767) :
    Calls Tryf.prog 13 #[.int .i16 n] w fun e w' => e = .returned (.tuple #[.int .i64 n, .bool true]) ∧ Drawn w w' := by
  go_enter Tryf.func13, Tryf.ntmps13
  go_wp2
  go_quiet (fail)
  go_wp2
  go_ret2
  exact ⟨rfl, _, rfl⟩

set_option maxHeartbeats 400000 in
theorem z14 (n : Int) (w : World) (h0 : -2147483648 ≤ n) (h1 : n ≤ 2147483647) :
    Calls Tryf.prog 14 #[.int .i32 n] w fun e w' => e = .returned (.tuple #[.int .i64 n, .bool true]) ∧ Drawn w w' := by
  go_enter Tryf.func14, Tryf.ntmps14
  go_wp2
  go_quiet (fail)
  go_wp2
  go_ret2
  exact ⟨rfl, _, rfl⟩

set_option maxHeartbeats 400000 in
theorem z15 (n : Int) (w : World) :
    Calls Tryf.prog 15 #[.int .i64 n] w fun e w' => e = .returned (.tuple #[.int .i64 n, .bool true]) ∧ Drawn w w' := by
  go_enter Tryf.func15, Tryf.ntmps15
  go_wp2
  go_quiet (fail)
  go_wp2
  go_ret2
  exact ⟨rfl, _, rfl⟩

set_option maxHeartbeats 400000 in
theorem z16 (n : Int) (w : World) :
    Calls Tryf.prog 16 #[.int .u64 n] w fun e w' => e = .returned (.tuple #[.int .i64 (wrap64 n), .bool true]) ∧ Drawn w w' := by
  go_enter Tryf.func16, Tryf.ntmps16
  go_wp2
  go_quiet (fail)
  go_wp2
  go_ret2
  exact ⟨rfl, _, rfl⟩

set_option maxHeartbeats 400000 in
theorem z17 (n : Int) (w : World) (h0 : 0 ≤ n) (h1 : n ≤ 255) :
    Calls Tryf.prog 17 #[.int .u8 n] w fun e w' => e = .returned (.tuple #[.int .i64 n, .bool true]) ∧ Drawn w w' := by
  go_enter Tryf.func17, Tryf.ntmps17
  go_wp2
  go_quiet (fail)
  go_wp2
  go_ret2
  exact ⟨rfl, _, rfl⟩

set_option maxHeartbeats 400000 in
theorem z18 (n : Int) (w : World) (h0 : 0 ≤ n) (h1 : n ≤ 65535) :
    Calls Tryf.prog 18 #[.int .u16 n] w fun e w' => e = .returned (.tuple #[.int .i64 n, .bool true]) ∧ Drawn w w' := by
  go_enter Tryf.func18, Tryf.ntmps18
  go_wp2
  go_quiet (fail)
  go_wp2
  go_ret2
  exact ⟨rfl, _, rfl⟩

set_option maxHeartbeats 400000 in
theorem z19 (n : Int) (w : World) (h0 : 0 ≤ n) (h1 : n ≤ 4294967295) :
    Calls Tryf.prog 19 #[.int .u32 n] w fun e w' => e = .returned (.tuple #[.int .i64 n, .bool true]) ∧ Drawn w w' := by
  go_enter Tryf.func19, Tryf.ntmps19
  go_wp2
  go_quiet (fail)
  go_wp2
  go_ret2
  exact ⟨rfl, _, rfl⟩

set_option maxHeartbeats 400000 in
theorem z20 (n : Int) (w : World) :
    Calls Tryf.prog 20 #[.int .u64 n] w fun e w' => e = .returned (.tuple #[.int .i64 (wrap64 n), .bool true]) ∧ Drawn w w' := by
  go_enter Tryf.func20, Tryf.ntmps20
  go_wp2
  go_quiet (fail)
  go_wp2
  go_ret2
  exact ⟨rfl, _, rfl⟩
end Go.Proofs.YtjhflbfpdgciiaaFmt
