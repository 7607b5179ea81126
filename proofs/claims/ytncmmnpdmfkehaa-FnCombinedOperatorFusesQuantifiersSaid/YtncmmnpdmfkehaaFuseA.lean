/- The law FnCombinedOperatorFusesQuantifiers where its arguments are too long, or where combinedOperator refuses: it returns true. No statement is proved here. -/
import Derived.Test.YtncmmnpdmfkehaaBools
namespace Go.Proofs.Ytncmmnpdmfkehaa.fnCombinedOperatorFusesQuantifiers
open Go.RowKit Go.Proofs.Ytncmmnpdmfkehaa

/-- what cloneBoolsB1 hands back -/
def Got (w w' : World) (a : Option Addr) (len cap b : Nat) (B : Nat → Bool) : Prop :=
  len = cap ∧ Below w.heap.size w w' ∧ (0 < len → a = some ⟨b, 0, none⟩) ∧ ∀ i, i < len → w'.cell? ⟨b, i, none⟩ = some (.bool (B i))

/-- what the copied slice is told by -/
def Seen (w : World) (a : Option Addr) (len cap : Nat) (B : Nat → Bool) : Prop :=
  (a = none ∧ len = 0 ∧ cap = 0) ∨ ∃ x b off, a = some x ∧ (0 < len → x = ⟨b, off, none⟩) ∧ ∀ i, i < len → w.cell? ⟨b, off + i, none⟩ = some (.bool (B i))

theorem seen_of {w : World} {a : Option Addr} {len cap : Nat} {B : Nat → Bool} (h : IsBools w a len cap B) : Seen w a len cap B := by
  rcases h with h | ⟨x, rfl, hl, hm, hc⟩
  · exact .inl h
  · by_cases h0 : 0 < len
    · obtain ⟨b, off, spot⟩ := x
      have hspot : spot = none := by simpa [Addr.add] using World.cell?_spot (hc 0 (by omega))
      subst hspot
      refine .inr ⟨_, b, off, rfl, fun _ => rfl, fun i hi => ?_⟩
      have := hc i (by omega)
      have ea : (⟨b, off, none⟩ : Addr).add i = ⟨b, off + i, none⟩ := by unfold Addr.add; split <;> simp_all
      rw [ea] at this; exact this
    · exact .inr ⟨x, 0, 0, rfl, fun h => absurd h h0, fun i hi => by omega⟩

theorem Seen.later {w w' : World} {a : Option Addr} {len cap : Nat} {B : Nat → Bool} (h : Seen w a len cap B) (hb : Below w.heap.size w w') : Seen w' a len cap B := by
  rcases h with h | ⟨x, b, off, h1, h2, h3⟩
  · exact .inl h
  · refine .inr ⟨x, b, off, h1, h2, fun i hi => ?_⟩
    rw [hb.cell (p := ⟨b, off + i, none⟩) (World.block_lt_of_cell? _ _ (h3 i hi))]; exact h3 i hi

def Cloned (w : World) (len : Nat) (B : Nat → Bool) (e : Ending) (w' : World) : Prop := ∃ a cap b, e = .returned (.slice a len cap) ∧ Got w w' a len cap b B

theorem clone_any (a : Option Addr) (len cap : Nat) (B : Nat → Bool) (w : World) (h : Seen w a len cap B) (hn : len ≤ 65536) :
    Calls Try.prog 13 #[.slice a len cap] w (Cloned w len B) := by
  rcases h with ⟨rfl, rfl, rfl⟩ | ⟨x, b, off, rfl, h2, h3⟩
  · refine (clone_nil 0 w).mono ?_
    rintro e w1 ⟨rfl, rfl⟩
    exact ⟨none, 0, 0, rfl, rfl, Below.refl _ _, fun h => absurd h (by omega), fun i hi => by omega⟩
  · refine (clone_some x b off len cap B w h2 h3 hn).mono ?_
    rintro e w1 ⟨rfl, hb, hr, _⟩
    exact ⟨_, _, w.heap.size, rfl, rfl, hb, fun _ => rfl, fun i hi => hr.cell hi⟩

/-! ### too long: the law returns true at once -/
set_option maxRecDepth 100000 in
set_option maxHeartbeats 4000000 in
theorem big (a0 a1 : ByteArray) (s2 s3 : Option Addr) (n2 n3 c2 c3 : Nat) (w : World) (w0 : a0.size ≤ maxLen) (w1 : a1.size ≤ maxLen) (h2 : n2 ≤ maxLen) (h3 : n3 ≤ maxLen)
    (h : 4096 < a0.size ∨ 4096 < a1.size ∨ 65536 < n2 ∨ 65536 < n3) :
    Calls Try.prog 5 #[.string a0, .string a1, .slice s2 n2 c2, .slice s3 n3 c3] w fun e w' => e = .returned (.bool true) ∧ Below w.heap.size w w' := by
  unfold maxLen at w0 w1 h2 h3
  by_cases b0 : 1048576 < a0.size
  · go_enter Try.func5, Try.ntmps5
    go_wp2
    go_ret
    exact ⟨rfl, Below.refl _ _⟩
  by_cases b1 : 1048576 < a1.size
  · go_enter Try.func5, Try.ntmps5
    go_wp2
    go_ret
    exact ⟨rfl, Below.refl _ _⟩
  by_cases b2 : 1048576 < a0.size + a1.size
  · have z2 : (1048576 : Int) < (a0.size : Int) + (a1.size : Int) := by omega
    go_enter Try.func5, Try.ntmps5
    go_wp2
    go_ret
    exact ⟨rfl, Below.refl _ _⟩
  have z2 : ¬ (1048576 : Int) < (a0.size : Int) + (a1.size : Int) := by omega
  by_cases b3 : 1048576 < n2
  · go_enter Try.func5, Try.ntmps5
    go_wp2
    go_ret
    exact ⟨rfl, Below.refl _ _⟩
  by_cases b4 : 1048576 < a0.size + a1.size + n2
  · have z4 : (1048576 : Int) < (a0.size : Int) + (a1.size : Int) + (n2 : Int) := by omega
    go_enter Try.func5, Try.ntmps5
    go_wp2
    go_ret
    exact ⟨rfl, Below.refl _ _⟩
  have z4 : ¬ (1048576 : Int) < (a0.size : Int) + (a1.size : Int) + (n2 : Int) := by omega
  by_cases b5 : 1048576 < n3
  · go_enter Try.func5, Try.ntmps5
    go_wp2
    go_ret
    exact ⟨rfl, Below.refl _ _⟩
  by_cases b6 : 1048576 < a0.size + a1.size + n2 + n3
  · have z6 : (1048576 : Int) < (a0.size : Int) + (a1.size : Int) + (n2 : Int) + (n3 : Int) := by omega
    go_enter Try.func5, Try.ntmps5
    go_wp2
    go_ret
    exact ⟨rfl, Below.refl _ _⟩
  have z6 : ¬ (1048576 : Int) < (a0.size : Int) + (a1.size : Int) + (n2 : Int) + (n3 : Int) := by omega
  by_cases b7 : 4096 < a0.size
  · go_enter Try.func5, Try.ntmps5
    go_wp2
    go_ret
    exact ⟨rfl, Below.refl _ _⟩
  by_cases b8 : 4096 < a1.size
  · go_enter Try.func5, Try.ntmps5
    go_wp2
    go_ret
    exact ⟨rfl, Below.refl _ _⟩
  by_cases b9 : 65536 < n2
  · go_enter Try.func5, Try.ntmps5
    go_wp2
    go_ret
    exact ⟨rfl, Below.refl _ _⟩
  by_cases b10 : 65536 < n3
  · go_enter Try.func5, Try.ntmps5
    go_wp2
    go_ret
    exact ⟨rfl, Below.refl _ _⟩
  omega

/-! ### combinedOperator -/
def Comb (fn op res : ByteArray) (ok : Bool) : Prop := ∀ w : World, Calls Try.prog 7 #[.string fn, .string op] w fun e w' => e = .returned (.tuple #[.string res, .bool ok]) ∧ w = w'
theorem k_all_and : Comb ⟨#[97, 108, 108]⟩ ⟨#[97, 110, 100]⟩ ⟨#[97, 110, 100]⟩ true := by
  intro w
  go_enter Try.func7, Try.ntmps7
  go_wp2
  go_ret2
  exact ⟨rfl, rfl⟩
theorem k_all_amp : Comb ⟨#[97, 108, 108]⟩ ⟨#[38, 38]⟩ ⟨#[38, 38]⟩ true := by
  intro w
  go_enter Try.func7, Try.ntmps7
  go_wp2
  go_ret2
  exact ⟨rfl, rfl⟩
theorem k_all_no (op : ByteArray) (h1 : ¬ op.toList = [97, 110, 100]) (h2 : ¬ op.toList = [38, 38]) : Comb ⟨#[97, 108, 108]⟩ op ⟨#[]⟩ false := by
  intro w
  have k1 : (op.toList == [97, 110, 100]) = false := by simp [h1]
  have k2 : (op.toList == [38, 38]) = false := by simp [h2]
  go_enter Try.func7, Try.ntmps7
  go_wp2
  go_ret2
  exact ⟨rfl, rfl⟩
theorem k_any_or : Comb ⟨#[97, 110, 121]⟩ ⟨#[111, 114]⟩ ⟨#[111, 114]⟩ true := by
  intro w
  go_enter Try.func7, Try.ntmps7
  go_wp2
  go_ret2
  exact ⟨rfl, rfl⟩
theorem k_any_bar : Comb ⟨#[97, 110, 121]⟩ ⟨#[124, 124]⟩ ⟨#[124, 124]⟩ true := by
  intro w
  go_enter Try.func7, Try.ntmps7
  go_wp2
  go_ret2
  exact ⟨rfl, rfl⟩
theorem k_any_no (op : ByteArray) (h1 : ¬ op.toList = [111, 114]) (h2 : ¬ op.toList = [124, 124]) : Comb ⟨#[97, 110, 121]⟩ op ⟨#[]⟩ false := by
  intro w
  have k1 : (op.toList == [111, 114]) = false := by simp [h1]
  have k2 : (op.toList == [124, 124]) = false := by simp [h2]
  go_enter Try.func7, Try.ntmps7
  go_wp2
  go_ret2
  exact ⟨rfl, rfl⟩
theorem k_none_and : Comb ⟨#[110, 111, 110, 101]⟩ ⟨#[97, 110, 100]⟩ ⟨#[111, 114]⟩ true := by
  intro w
  go_enter Try.func7, Try.ntmps7
  go_wp2
  go_ret2
  exact ⟨rfl, rfl⟩
theorem k_none_amp : Comb ⟨#[110, 111, 110, 101]⟩ ⟨#[38, 38]⟩ ⟨#[124, 124]⟩ true := by
  intro w
  go_enter Try.func7, Try.ntmps7
  go_wp2
  go_ret2
  exact ⟨rfl, rfl⟩
theorem k_none_no (op : ByteArray) (h1 : ¬ op.toList = [97, 110, 100]) (h2 : ¬ op.toList = [38, 38]) : Comb ⟨#[110, 111, 110, 101]⟩ op ⟨#[]⟩ false := by
  intro w
  have k1 : (op.toList == [97, 110, 100]) = false := by simp [h1]
  have k2 : (op.toList == [38, 38]) = false := by simp [h2]
  go_enter Try.func7, Try.ntmps7
  go_wp2
  go_ret2
  exact ⟨rfl, rfl⟩
theorem k_no (fn op : ByteArray) (h1 : ¬ fn.toList = [97, 108, 108]) (h2 : ¬ fn.toList = [97, 110, 121]) (h3 : ¬ fn.toList = [110, 111, 110, 101]) : Comb fn op ⟨#[]⟩ false := by
  intro w
  go_enter Try.func7, Try.ntmps7
  go_wp2
  go_ret2
  exact ⟨rfl, rfl⟩

set_option maxRecDepth 100000 in
set_option maxHeartbeats 1000000 in
theorem refused (a0 a1 : ByteArray) (s2 s3 : Option Addr) (n2 n3 c2 c3 : Nat) (w : World) (h0 : a0.size ≤ 4096) (h1 : a1.size ≤ 4096) (h2 : n2 ≤ 65536) (h3 : n3 ≤ 65536) (hk : Comb a0 a1 ⟨#[]⟩ false) :
    Calls Try.prog 5 #[.string a0, .string a1, .slice s2 n2 c2, .slice s3 n3 c3] w fun e w' => e = .returned (.bool true) ∧ Below w.heap.size w w' := by
  go_enter Try.func5, Try.ntmps5
  go_wp2_with (first | (go_at_call 7; refine (hk _).mono ?_; rintro e w1 ⟨rfl, rfl⟩) | (go_at_call 12; go_in))
  go_ret
  exact ⟨rfl, Below.refl _ _⟩

end Go.Proofs.Ytncmmnpdmfkehaa.fnCombinedOperatorFusesQuantifiers
