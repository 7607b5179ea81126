/- For all strings fn and op the law FnCombinedOperatorResultShape returns true and writes nothing that was there. Conditions: none. -/
import Derived.Test.YtncmmnpdmfkehaaBase
namespace Go.Proofs.Ytncmmnpdmfkehaa.fnCombinedOperatorResultShape
open Go.RowKit Go.Proofs.Ytncmmnpdmfkehaa

set_option maxHeartbeats 1000000 in
theorem big (a0 a1 : ByteArray) (w : World) (w0 : a0.size ≤ maxLen) (w1 : a1.size ≤ maxLen) (h : 4096 < a0.size ∨ 4096 < a1.size) :
    Calls Try.prog 4 #[.string a0, .string a1] w fun e w' => e = .returned (.bool true) ∧ Below w.heap.size w w' := by
  unfold maxLen at w0 w1
  by_cases b0 : 1048576 < a0.size
  · go_enter Try.func4, Try.ntmps4
    go_wp2
    go_ret
    exact ⟨rfl, Below.refl _ _⟩
  · by_cases b1 : 1048576 < a1.size
    · go_enter Try.func4, Try.ntmps4
      go_wp2
      go_ret
      exact ⟨rfl, Below.refl _ _⟩
    · by_cases b2 : 1048576 < a0.size + a1.size
      · have b3 : (1048576 : Int) < (a0.size : Int) + (a1.size : Int) := by omega
        go_enter Try.func4, Try.ntmps4
        go_wp2
        go_ret
        exact ⟨rfl, Below.refl _ _⟩
      · have b3 : ¬ (1048576 : Int) < (a0.size : Int) + (a1.size : Int) := by omega
        by_cases c : 4096 < a0.size
        · go_enter Try.func4, Try.ntmps4
          go_wp2
          go_ret
          exact ⟨rfl, Below.refl _ _⟩
        · have c1 : 4096 < a1.size := by omega
          go_enter Try.func4, Try.ntmps4
          go_wp2
          go_ret
          exact ⟨rfl, Below.refl _ _⟩

set_option maxHeartbeats 1000000 in
theorem of_all_and (w : World) :
    Calls Try.prog 4 #[.string ⟨#[97, 108, 108]⟩, .string ⟨#[97, 110, 100]⟩] w fun e w' => e = .returned (.bool true) ∧ Below w.heap.size w w' := by
  go_enter Try.func4, Try.ntmps4
  go_wp2
  go_ret
  exact ⟨rfl, Below.refl _ _⟩

set_option maxHeartbeats 1000000 in
theorem of_all_amp (w : World) :
    Calls Try.prog 4 #[.string ⟨#[97, 108, 108]⟩, .string ⟨#[38, 38]⟩] w fun e w' => e = .returned (.bool true) ∧ Below w.heap.size w w' := by
  go_enter Try.func4, Try.ntmps4
  go_wp2
  go_ret
  exact ⟨rfl, Below.refl _ _⟩

set_option maxHeartbeats 1000000 in
theorem of_all_other (a1 : ByteArray) (w : World) (h : a1.size ≤ 4096) (h1 : ¬ a1.toList = [97, 110, 100]) (h2 : ¬ a1.toList = [38, 38]) :
    Calls Try.prog 4 #[.string ⟨#[97, 108, 108]⟩, .string a1] w fun e w' => e = .returned (.bool true) ∧ Below w.heap.size w w' := by
  have k1 : (a1.toList == [97, 110, 100]) = false := by simp [h1]
  have k2 : (a1.toList == [38, 38]) = false := by simp [h2]
  go_enter Try.func4, Try.ntmps4
  go_wp2
  go_ret
  exact ⟨rfl, Below.refl _ _⟩

set_option maxHeartbeats 1000000 in
theorem of_any_or (w : World) :
    Calls Try.prog 4 #[.string ⟨#[97, 110, 121]⟩, .string ⟨#[111, 114]⟩] w fun e w' => e = .returned (.bool true) ∧ Below w.heap.size w w' := by
  go_enter Try.func4, Try.ntmps4
  go_wp2
  go_ret
  exact ⟨rfl, Below.refl _ _⟩

set_option maxHeartbeats 1000000 in
theorem of_any_bar (w : World) :
    Calls Try.prog 4 #[.string ⟨#[97, 110, 121]⟩, .string ⟨#[124, 124]⟩] w fun e w' => e = .returned (.bool true) ∧ Below w.heap.size w w' := by
  go_enter Try.func4, Try.ntmps4
  go_wp2
  go_ret
  exact ⟨rfl, Below.refl _ _⟩

set_option maxHeartbeats 1000000 in
theorem of_any_other (a1 : ByteArray) (w : World) (h : a1.size ≤ 4096) (h1 : ¬ a1.toList = [111, 114]) (h2 : ¬ a1.toList = [124, 124]) :
    Calls Try.prog 4 #[.string ⟨#[97, 110, 121]⟩, .string a1] w fun e w' => e = .returned (.bool true) ∧ Below w.heap.size w w' := by
  have k1 : (a1.toList == [111, 114]) = false := by simp [h1]
  have k2 : (a1.toList == [124, 124]) = false := by simp [h2]
  go_enter Try.func4, Try.ntmps4
  go_wp2
  go_ret
  exact ⟨rfl, Below.refl _ _⟩

set_option maxHeartbeats 1000000 in
theorem of_none_and (w : World) :
    Calls Try.prog 4 #[.string ⟨#[110, 111, 110, 101]⟩, .string ⟨#[97, 110, 100]⟩] w fun e w' => e = .returned (.bool true) ∧ Below w.heap.size w w' := by
  go_enter Try.func4, Try.ntmps4
  go_wp2
  go_ret
  exact ⟨rfl, Below.refl _ _⟩

set_option maxHeartbeats 1000000 in
theorem of_none_amp (w : World) :
    Calls Try.prog 4 #[.string ⟨#[110, 111, 110, 101]⟩, .string ⟨#[38, 38]⟩] w fun e w' => e = .returned (.bool true) ∧ Below w.heap.size w w' := by
  go_enter Try.func4, Try.ntmps4
  go_wp2
  go_ret
  exact ⟨rfl, Below.refl _ _⟩

set_option maxHeartbeats 1000000 in
theorem of_none_other (a1 : ByteArray) (w : World) (h : a1.size ≤ 4096) (h1 : ¬ a1.toList = [97, 110, 100]) (h2 : ¬ a1.toList = [38, 38]) :
    Calls Try.prog 4 #[.string ⟨#[110, 111, 110, 101]⟩, .string a1] w fun e w' => e = .returned (.bool true) ∧ Below w.heap.size w w' := by
  have k1 : (a1.toList == [97, 110, 100]) = false := by simp [h1]
  have k2 : (a1.toList == [38, 38]) = false := by simp [h2]
  go_enter Try.func4, Try.ntmps4
  go_wp2
  go_ret
  exact ⟨rfl, Below.refl _ _⟩

set_option maxHeartbeats 1000000 in
theorem of_other (a0 a1 : ByteArray) (w : World) (h : a0.size ≤ 4096) (h' : a1.size ≤ 4096) (h1 : ¬ a0.toList = [97, 108, 108]) (h2 : ¬ a0.toList = [97, 110, 121]) (h3 : ¬ a0.toList = [110, 111, 110, 101]) :
    Calls Try.prog 4 #[.string a0, .string a1] w fun e w' => e = .returned (.bool true) ∧ Below w.heap.size w w' := by
  go_enter Try.func4, Try.ntmps4
  go_wp2
  go_ret
  exact ⟨rfl, Below.refl _ _⟩

theorem walk (a0 a1 : ByteArray) (w : World) (w0 : a0.size ≤ maxLen) (w1 : a1.size ≤ maxLen) :
    Calls Try.prog 4 #[.string a0, .string a1] w fun e w' => e = .returned (.bool true) ∧ Below w.heap.size w w' := by
  by_cases h : 4096 < a0.size ∨ 4096 < a1.size
  · exact big a0 a1 w w0 w1 h
  · have g1 : a1.size ≤ 4096 := by omega
    by_cases h_all : a0.toList = [97, 108, 108]
    · rw [str_ext h_all]
      by_cases p : a1.toList = [97, 110, 100]
      · rw [str_ext p]; exact of_all_and w
      · by_cases q : a1.toList = [38, 38]
        · rw [str_ext q]; exact of_all_amp w
        · exact of_all_other a1 w g1 p q
    by_cases h_any : a0.toList = [97, 110, 121]
    · rw [str_ext h_any]
      by_cases p : a1.toList = [111, 114]
      · rw [str_ext p]; exact of_any_or w
      · by_cases q : a1.toList = [124, 124]
        · rw [str_ext q]; exact of_any_bar w
        · exact of_any_other a1 w g1 p q
    by_cases h_none : a0.toList = [110, 111, 110, 101]
    · rw [str_ext h_none]
      by_cases p : a1.toList = [97, 110, 100]
      · rw [str_ext p]; exact of_none_and w
      · by_cases q : a1.toList = [38, 38]
        · rw [str_ext q]; exact of_none_amp w
        · exact of_none_other a1 w g1 p q
    exact of_other a0 a1 w (by omega) g1 h_all h_any h_none
end Go.Proofs.Ytncmmnpdmfkehaa.fnCombinedOperatorResultShape
