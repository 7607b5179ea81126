/- For every string fn the law FnCombinedOperatorSpellingAgnostic returns true and writes nothing that was there. Conditions: none. -/
import Derived.Test.YtncmmnpdmfkehaaBase
namespace Go.Proofs.Ytncmmnpdmfkehaa.fnCombinedOperatorSpellingAgnostic
open Go.RowKit Go.Proofs.Ytncmmnpdmfkehaa

set_option maxHeartbeats 400000 in
theorem big (a0 : ByteArray) (w : World) (w0 : a0.size ≤ maxLen) (h : 4096 < a0.size) :
    Calls Try.prog 3 #[.string a0] w fun e w' => e = .returned (.bool true) ∧ Below w.heap.size w w' := by
  unfold maxLen at w0
  by_cases h1 : 1048576 < a0.size
  all_goals
    go_enter Try.func3, Try.ntmps3
    go_wp2
    go_ret
    exact ⟨rfl, Below.refl _ _⟩

set_option maxHeartbeats 1000000 in
theorem of_all (w : World) :
    Calls Try.prog 3 #[.string ⟨#[97, 108, 108]⟩] w fun e w' => e = .returned (.bool true) ∧ Below w.heap.size w w' := by
  go_enter Try.func3, Try.ntmps3
  go_wp2
  go_loop [4] (fun i => ∃ k : Nat, k ≤ 2 ∧ i = .int .i64 k) (fun i => 2 - (intOf i).toNat)
  case atStart => exact ⟨0, by omega, rfl⟩
  case round =>
    obtain ⟨k, hk, rfl⟩ := hrel
    rcases (by omega : k = 0 ∨ k = 1 ∨ k = 2) with rfl | rfl | rfl
    · go_wp2
      go_round
      case rel => exact ⟨1, by omega, rfl⟩
      case measure => simp [intOf]
    · go_wp2
      go_round
      case rel => exact ⟨2, by omega, rfl⟩
      case measure => simp [intOf]
    · go_wp2
      go_ret
      exact ⟨rfl, (Below.refl _ _).alloc (Nat.le_refl _) _⟩

set_option maxHeartbeats 1000000 in
theorem of_any (w : World) :
    Calls Try.prog 3 #[.string ⟨#[97, 110, 121]⟩] w fun e w' => e = .returned (.bool true) ∧ Below w.heap.size w w' := by
  go_enter Try.func3, Try.ntmps3
  go_wp2
  go_loop [4] (fun i => ∃ k : Nat, k ≤ 2 ∧ i = .int .i64 k) (fun i => 2 - (intOf i).toNat)
  case atStart => exact ⟨0, by omega, rfl⟩
  case round =>
    obtain ⟨k, hk, rfl⟩ := hrel
    rcases (by omega : k = 0 ∨ k = 1 ∨ k = 2) with rfl | rfl | rfl
    · go_wp2
      go_round
      case rel => exact ⟨1, by omega, rfl⟩
      case measure => simp [intOf]
    · go_wp2
      go_round
      case rel => exact ⟨2, by omega, rfl⟩
      case measure => simp [intOf]
    · go_wp2
      go_ret
      exact ⟨rfl, (Below.refl _ _).alloc (Nat.le_refl _) _⟩

set_option maxHeartbeats 1000000 in
theorem of_none (w : World) :
    Calls Try.prog 3 #[.string ⟨#[110, 111, 110, 101]⟩] w fun e w' => e = .returned (.bool true) ∧ Below w.heap.size w w' := by
  go_enter Try.func3, Try.ntmps3
  go_wp2
  go_loop [4] (fun i => ∃ k : Nat, k ≤ 2 ∧ i = .int .i64 k) (fun i => 2 - (intOf i).toNat)
  case atStart => exact ⟨0, by omega, rfl⟩
  case round =>
    obtain ⟨k, hk, rfl⟩ := hrel
    rcases (by omega : k = 0 ∨ k = 1 ∨ k = 2) with rfl | rfl | rfl
    · go_wp2
      go_round
      case rel => exact ⟨1, by omega, rfl⟩
      case measure => simp [intOf]
    · go_wp2
      go_round
      case rel => exact ⟨2, by omega, rfl⟩
      case measure => simp [intOf]
    · go_wp2
      go_ret
      exact ⟨rfl, (Below.refl _ _).alloc (Nat.le_refl _) _⟩

set_option maxHeartbeats 1000000 in
theorem of_other (a0 : ByteArray) (w : World) (h : a0.size ≤ 4096) (h1 : ¬ a0.toList = [97, 108, 108]) (h2 : ¬ a0.toList = [97, 110, 121]) (h3 : ¬ a0.toList = [110, 111, 110, 101]) :
    Calls Try.prog 3 #[.string a0] w fun e w' => e = .returned (.bool true) ∧ Below w.heap.size w w' := by
  go_enter Try.func3, Try.ntmps3
  go_wp2
  go_loop [4] (fun i => ∃ k : Nat, k ≤ 2 ∧ i = .int .i64 k) (fun i => 2 - (intOf i).toNat)
  case atStart => exact ⟨0, by omega, rfl⟩
  case round =>
    obtain ⟨k, hk, rfl⟩ := hrel
    rcases (by omega : k = 0 ∨ k = 1 ∨ k = 2) with rfl | rfl | rfl
    · go_wp2
      go_round
      case rel => exact ⟨1, by omega, rfl⟩
      case measure => simp [intOf]
    · go_wp2
      go_round
      case rel => exact ⟨2, by omega, rfl⟩
      case measure => simp [intOf]
    · go_wp2
      go_ret
      exact ⟨rfl, (Below.refl _ _).alloc (Nat.le_refl _) _⟩

theorem walk (a0 : ByteArray) (w : World) (w0 : a0.size ≤ maxLen) :
    Calls Try.prog 3 #[.string a0] w fun e w' => e = .returned (.bool true) ∧ Below w.heap.size w w' := by
  by_cases h : 4096 < a0.size
  · exact big a0 w w0 h
  · by_cases h1 : a0.toList = [97, 108, 108]
    · rw [str_ext h1]; exact of_all w
    · by_cases h2 : a0.toList = [97, 110, 121]
      · rw [str_ext h2]; exact of_any w
      · by_cases h3 : a0.toList = [110, 111, 110, 101]
        · rw [str_ext h3]; exact of_none w
        · exact of_other a0 w (by omega) h1 h2 h3
end Go.Proofs.Ytncmmnpdmfkehaa.fnCombinedOperatorSpellingAgnostic
