/- What the law's own helpers do on slices of bools: quantB1, connectB1, cloneBoolsB1. No statement is proved here. -/
import Derived.Test.YtncmmnpdmfkehaaBase
import Derived.LoopTactic
import Derived.Deep.OwnRows
import Derived.Lib.Hide
namespace Go.Proofs.Ytncmmnpdmfkehaa
open Go.RowKit

def allN (B : Nat → Bool) : Nat → Bool
  | 0 => true
  | n + 1 => allN B n && B n
def anyN (B : Nat → Bool) : Nat → Bool
  | 0 => false
  | n + 1 => anyN B n || B n

theorem allN_true {B : Nat → Bool} : ∀ {n : Nat}, (∀ j, j < n → B j = true) → allN B n = true
  | 0, _ => rfl
  | n + 1, h => by rw [allN, allN_true (fun j hj => h j (by omega)), h n (by omega)]; rfl
theorem allN_false {B : Nat → Bool} {k : Nat} (hk : B k = false) : ∀ {n : Nat}, k < n → allN B n = false
  | 0, h => by omega
  | n + 1, h => by
    rw [allN]
    by_cases e : k = n
    · subst e; rw [hk, Bool.and_false]
    · rw [allN_false hk (by omega)]; rfl
theorem anyN_false {B : Nat → Bool} : ∀ {n : Nat}, (∀ j, j < n → B j = false) → anyN B n = false
  | 0, _ => rfl
  | n + 1, h => by rw [anyN, anyN_false (fun j hj => h j (by omega)), h n (by omega)]; rfl
theorem anyN_true {B : Nat → Bool} {k : Nat} (hk : B k = true) : ∀ {n : Nat}, k < n → anyN B n = true
  | 0, h => by omega
  | n + 1, h => by
    rw [anyN]
    by_cases e : k = n
    · subst e; rw [hk, Bool.or_true]
    · rw [anyN_true hk (by omega)]; rfl
theorem allN_and (P Q : Nat → Bool) : ∀ n, allN (fun i => P i && Q i) n = (allN P n && allN Q n)
  | 0 => rfl
  | n + 1 => by rw [allN, allN, allN, allN_and P Q n]; cases allN P n <;> cases allN Q n <;> cases P n <;> cases Q n <;> rfl
theorem anyN_or (P Q : Nat → Bool) : ∀ n, anyN (fun i => P i || Q i) n = (anyN P n || anyN Q n)
  | 0 => rfl
  | n + 1 => by rw [anyN, anyN, anyN, anyN_or P Q n]; cases anyN P n <;> cases anyN Q n <;> cases P n <;> cases Q n <;> rfl

set_option maxHeartbeats 1000000 in
theorem q_all (a : Option Addr) (b off n cap : Nat) (B : Nat → Bool) (w : World) (ha : 0 < n → a = some ⟨b, off, none⟩) (hc : ∀ i, i < n → w.cell? ⟨b, off + i, none⟩ = some (.bool (B i))) (hn : n ≤ 65536) :
    Calls Try.prog 14 #[.string ⟨#[97, 108, 108]⟩, .slice a n cap] w fun e w' => e = .returned (.tuple #[.bool (allN B n), .bool true]) ∧ w = w' := by
  have HC := Lib.hid hc
  have HA := Lib.hid ha
  clear hc ha
  go_enter Try.func14, Try.ntmps14
  go_wp2
  go_loop [6] (fun i => ∃ k : Nat, k ≤ n ∧ i = .int .i64 k ∧ Hid (∀ j, j < k → B j = true)) (fun i => n - (intOf i).toNat)
  case atStart => exact ⟨0, Nat.zero_le _, rfl, Lib.hid (fun j hj => by omega)⟩
  case round =>
    obtain ⟨k, hk, rfl, HB⟩ := hrel
    by_cases hlt : k < n
    · obtain rfl := HA.out (by omega)
      have hcell := HC.out k hlt
      by_cases hB : B k = false
      · have E := Lib.hid (allN_false (n := n) hB hlt)
        rw [hB] at hcell
        clear hB
        go_wp2
        go_ret2
        exact ⟨by rw [E.out]; rfl, rfl⟩
      · have hB' : B k = true := by simpa using hB
        clear hB
        have E := Lib.hid (show ∀ j, j < k + 1 → B j = true from fun j hj => by
          by_cases e : j = k
          · subst e; exact hB'
          · exact HB.out j (by omega))
        rw [hB'] at hcell
        clear hB'
        go_wp2
        go_round
        case rel => exact ⟨k + 1, by omega, by go_num, E⟩
        case measure => simp [intOf]; omega
    · obtain rfl : k = n := by omega
      have E := Lib.hid (allN_true HB.out)
      go_wp2
      go_ret2
      exact ⟨by rw [E.out]; rfl, rfl⟩

set_option maxHeartbeats 1000000 in
theorem q_any (a : Option Addr) (b off n cap : Nat) (B : Nat → Bool) (w : World) (ha : 0 < n → a = some ⟨b, off, none⟩) (hc : ∀ i, i < n → w.cell? ⟨b, off + i, none⟩ = some (.bool (B i))) (hn : n ≤ 65536) :
    Calls Try.prog 14 #[.string ⟨#[97, 110, 121]⟩, .slice a n cap] w fun e w' => e = .returned (.tuple #[.bool (anyN B n), .bool true]) ∧ w = w' := by
  have HC := Lib.hid hc
  have HA := Lib.hid ha
  clear hc ha
  go_enter Try.func14, Try.ntmps14
  go_wp2
  go_loop [7] (fun i => ∃ k : Nat, k ≤ n ∧ i = .int .i64 k ∧ Hid (∀ j, j < k → B j = false)) (fun i => n - (intOf i).toNat)
  case atStart => exact ⟨0, Nat.zero_le _, rfl, Lib.hid (fun j hj => by omega)⟩
  case round =>
    obtain ⟨k, hk, rfl, HB⟩ := hrel
    by_cases hlt : k < n
    · obtain rfl := HA.out (by omega)
      have hcell := HC.out k hlt
      by_cases hB : B k = true
      · have E := Lib.hid (anyN_true (n := n) hB hlt)
        rw [hB] at hcell
        clear hB
        go_wp2
        go_ret2
        exact ⟨by rw [E.out]; rfl, rfl⟩
      · have hB' : B k = false := by simpa using hB
        clear hB
        have E := Lib.hid (show ∀ j, j < k + 1 → B j = false from fun j hj => by
          by_cases e : j = k
          · subst e; exact hB'
          · exact HB.out j (by omega))
        rw [hB'] at hcell
        clear hB'
        go_wp2
        go_round
        case rel => exact ⟨k + 1, by omega, by go_num, E⟩
        case measure => simp [intOf]; omega
    · obtain rfl : k = n := by omega
      have E := Lib.hid (anyN_false HB.out)
      go_wp2
      go_ret2
      exact ⟨by rw [E.out]; rfl, rfl⟩

set_option maxHeartbeats 1000000 in
theorem q_none (a : Option Addr) (b off n cap : Nat) (B : Nat → Bool) (w : World) (ha : 0 < n → a = some ⟨b, off, none⟩) (hc : ∀ i, i < n → w.cell? ⟨b, off + i, none⟩ = some (.bool (B i))) (hn : n ≤ 65536) :
    Calls Try.prog 14 #[.string ⟨#[110, 111, 110, 101]⟩, .slice a n cap] w fun e w' => e = .returned (.tuple #[.bool (!anyN B n), .bool true]) ∧ w = w' := by
  have HC := Lib.hid hc
  have HA := Lib.hid ha
  clear hc ha
  go_enter Try.func14, Try.ntmps14
  go_wp2
  go_loop [8] (fun i => ∃ k : Nat, k ≤ n ∧ i = .int .i64 k ∧ Hid (∀ j, j < k → B j = false)) (fun i => n - (intOf i).toNat)
  case atStart => exact ⟨0, Nat.zero_le _, rfl, Lib.hid (fun j hj => by omega)⟩
  case round =>
    obtain ⟨k, hk, rfl, HB⟩ := hrel
    by_cases hlt : k < n
    · obtain rfl := HA.out (by omega)
      have hcell := HC.out k hlt
      by_cases hB : B k = true
      · have E := Lib.hid (anyN_true (n := n) hB hlt)
        rw [hB] at hcell
        clear hB
        go_wp2
        go_ret2
        exact ⟨by rw [E.out]; rfl, rfl⟩
      · have hB' : B k = false := by simpa using hB
        clear hB
        have E := Lib.hid (show ∀ j, j < k + 1 → B j = false from fun j hj => by
          by_cases e : j = k
          · subst e; exact hB'
          · exact HB.out j (by omega))
        rw [hB'] at hcell
        clear hB'
        go_wp2
        go_round
        case rel => exact ⟨k + 1, by omega, by go_num, E⟩
        case measure => simp [intOf]; omega
    · obtain rfl : k = n := by omega
      have E := Lib.hid (anyN_false HB.out)
      go_wp2
      go_ret2
      exact ⟨by rw [E.out]; rfl, rfl⟩

theorem c_and (x y : Bool) (w : World) :
    Calls Try.prog 15 #[.string ⟨#[97, 110, 100]⟩, .bool x, .bool y] w fun e w' => e = .returned (.tuple #[.bool (x && y), .bool true]) ∧ w = w' := by
  cases x <;> cases y
  all_goals
    go_enter Try.func15, Try.ntmps15
    go_wp2
    go_ret2
    exact ⟨rfl, rfl⟩

theorem c_amp (x y : Bool) (w : World) :
    Calls Try.prog 15 #[.string ⟨#[38, 38]⟩, .bool x, .bool y] w fun e w' => e = .returned (.tuple #[.bool (x && y), .bool true]) ∧ w = w' := by
  cases x <;> cases y
  all_goals
    go_enter Try.func15, Try.ntmps15
    go_wp2
    go_ret2
    exact ⟨rfl, rfl⟩

theorem c_or (x y : Bool) (w : World) :
    Calls Try.prog 15 #[.string ⟨#[111, 114]⟩, .bool x, .bool y] w fun e w' => e = .returned (.tuple #[.bool (x || y), .bool true]) ∧ w = w' := by
  cases x <;> cases y
  all_goals
    go_enter Try.func15, Try.ntmps15
    go_wp2
    go_ret2
    exact ⟨rfl, rfl⟩

theorem c_bar (x y : Bool) (w : World) :
    Calls Try.prog 15 #[.string ⟨#[124, 124]⟩, .bool x, .bool y] w fun e w' => e = .returned (.tuple #[.bool (x || y), .bool true]) ∧ w = w' := by
  cases x <;> cases y
  all_goals
    go_enter Try.func15, Try.ntmps15
    go_wp2
    go_ret2
    exact ⟨rfl, rfl⟩

theorem info4 : (Try.prog.info? 4).map (fun i => (i.zero, i.size, i.bytes)) = some (some (.bool false), 1, 1) := by kernel_rfl

theorem clone_nil (c : Nat) (w : World) :
    Calls Try.prog 13 #[.slice none 0 c] w fun e w' => e = .returned (.slice none 0 0) ∧ w = w' := by
  have hq := fun (w : World) => Lib.run_eql_slice_nil (P := Try.prog) w 28 4 none 0 c 0 0 Try.underlying28
  go_enter Try.func13, Try.ntmps13
  go_wp2
  go_ret
  exact ⟨rfl, rfl⟩

/-- the copy's row behind k rounds -/
def Copied (B : Nat → Bool) (k : Nat) : Nat → Value := fun i => if i < k then .bool (B i) else .bool false

set_option maxHeartbeats 1000000 in
theorem clone_some (x : Addr) (b off n cap : Nat) (B : Nat → Bool) (w : World) (ha : 0 < n → x = ⟨b, off, none⟩) (hc : ∀ i, i < n → w.cell? ⟨b, off + i, none⟩ = some (.bool (B i))) (hn : n ≤ 65536) :
    Calls Try.prog 13 #[.slice (some x) n cap] w fun e w' => e = .returned (.slice (some ⟨w.heap.size, 0, none⟩) n n) ∧ Below w.heap.size w w' ∧ w'.rowIs w.heap.size 4 n (fun i => .bool (B i)) ∧ w'.heap.size = w.heap.size + 1 := by
  have hq := fun (w : World) => Lib.run_eql_slice_nil (P := Try.prog) w 28 4 (some x) n cap 0 0 Try.underlying28
  have hmk := run_make_row' (P := Try.prog) 28 4 (.bool false) 1 Try.underlying28 info4 rfl .i64 .i64 n (by omega) (by omega)
  have HC := Lib.hid hc
  have HA := Lib.hid ha
  clear hc ha
  go_enter Try.func13, Try.ntmps13
  go_wp2
  clear hmk hq
  go_loopw [4] (fun i wr => ∃ k : Nat, k ≤ n ∧ i = .int .i64 k ∧ Below w.heap.size w wr ∧ wr.rowIs w.heap.size 4 n (Copied B k) ∧ Hid (wr.heap.size = w.heap.size + 1)) (fun i _ => n - (intOf i).toNat)
  case atStart =>
    refine ⟨0, Nat.zero_le _, rfl, (Below.refl _ _).alloc (Nat.le_refl _) _, ?_, Lib.hid (by simp)⟩
    exact (World.rowIs_made w (.bool false) n 4).congr (fun i _ => by simp [Copied])
  case round =>
    obtain ⟨k, hk, rfl, hb, hrow, HS⟩ := hrel
    by_cases hlt : k < n
    · obtain rfl := HA.out (by omega)
      have h0 := HC.out k hlt
      have hbw : b < w.heap.size := World.block_lt_of_cell? _ _ h0
      have hcell : wr.cell? ⟨b, off + k, none⟩ = some (.bool (B k)) := by rw [hb.cell (p := ⟨b, off + k, none⟩) hbw]; exact h0
      have hst : wr.cell? ⟨w.heap.size, k, none⟩ = some (.bool false) := by rw [hrow.cell hlt]; simp [Copied]
      have hfr : wr.frozen? ⟨w.heap.size, k, none⟩ = false := hrow.frozen k
      have HR := Lib.hid hrow
      have HW := Lib.hid hb
      clear hrow hb h0 hbw
      go_wp2
      go_roundw
      case rel =>
        refine ⟨k + 1, by omega, by go_num, HW.out.setCell (Nat.le_refl _) _, (HR.out.set k (.bool (B k))).congr (fun i hi => ?_), Lib.hid (by simpa using HS.out)⟩
        unfold Copied
        by_cases e : i = k
        · subst e; simp
        · by_cases e2 : i < k
          · rw [if_neg e, if_pos e2, if_pos (by omega)]
          · rw [if_neg e, if_neg e2, if_neg (by omega)]
      case measure => simp [intOf]; omega
    · obtain rfl : k = n := by omega
      have HR := Lib.hid hrow
      have HW := Lib.hid hb
      clear hrow hb
      go_wp2
      go_ret
      exact ⟨rfl, HW.out, HR.out.congr (fun i hi => by simp [Copied, hi]), HS.out⟩
end Go.Proofs.Ytncmmnpdmfkehaa
