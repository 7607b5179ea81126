/- For every int64 x and uint64 u the law FnToIntIntegerKindsAgree returns true and writes nothing. Conditions: none. -/
import Derived.Test.YtjhflbfpdgciiaaFmtShims
namespace Go.Proofs.YtjhflbfpdgciiaaFmt.fnToIntIntegerKindsAgree
open Go.RowKit Go.Proofs.YtjhflbfpdgciiaaFmt

theorem back (u : Int) (h0 : 0 ≤ u) (h1 : u ≤ 18446744073709551615) : IntKind.u64.wrap (wrap64 u) = u := by
  unfold wrap64
  simp only [IntKind.wrap, IntKind.signed, IntKind.bits, Bool.false_and, Bool.false_eq_true, if_false]
  omega

theorem same (u : Int) (h0 : 0 ≤ u) (h1 : u ≤ 4294967295) : wrap64 u = u := IntWalk.wrap64_in u ⟨by omega, by omega⟩

theorem bounds_i64 {n : Int} (h : (Lit.int .i64 n).wf = true) : -9223372036854775808 ≤ n ∧ n ≤ 9223372036854775807 := by
  simpa [Lit.wf, IntKind.min, IntKind.max, IntKind.signed, IntKind.bits] using h
theorem bounds_u64 {n : Int} (h : (Lit.int .u64 n).wf = true) : 0 ≤ n ∧ n ≤ 18446744073709551615 := by
  simpa [Lit.wf, IntKind.min, IntKind.max, IntKind.signed, IntKind.bits] using h


set_option maxRecDepth 100000 in
set_option maxHeartbeats 1000000 in
theorem t_a_a (x u : Int) (w : World) (hx0 : -128 ≤ x) (hx1 : x ≤ 127) (hu0 : 0 ≤ u) (hu1 : u ≤ 255) (hu : (IntKind.u64.wrap (wrap64 u) != u) = false) (hs : (u != wrap64 u) = false) :
    Calls Tryf.prog 4 #[.int .i64 x, .int .u64 u] w fun e w' => e = .returned (.bool true) ∧ Below w.heap.size w w' := by
  go_enter Tryf.func4, Tryf.ntmps4
  go_wp2_with (first
    | (go_at_call 10; refine (z10 _ _).mono ?_; rintro e w1 ⟨rfl, hd1⟩)
    | (go_at_call 12; refine (z12 _ _ (by omega) (by omega)).mono ?_; rintro e w2 ⟨rfl, hd2⟩)
    | (go_at_call 13; refine (z13 _ _ (by omega) (by omega)).mono ?_; rintro e w3 ⟨rfl, hd3⟩)
    | (go_at_call 14; refine (z14 _ _ (by omega) (by omega)).mono ?_; rintro e w4 ⟨rfl, hd4⟩)
    | (go_at_call 15; refine (z15 _ _).mono ?_; rintro e w5 ⟨rfl, hd5⟩)
    | (go_at_call 16; refine (z16 _ _).mono ?_; rintro e w6 ⟨rfl, hd6⟩)
    | (go_at_call 17; refine (z17 _ _ (by omega) (by omega)).mono ?_; rintro e w7 ⟨rfl, hd7⟩)
    | (go_at_call 18; refine (z18 _ _ (by omega) (by omega)).mono ?_; rintro e w8 ⟨rfl, hd8⟩)
    | (go_at_call 19; refine (z19 _ _ (by omega) (by omega)).mono ?_; rintro e w9 ⟨rfl, hd9⟩)
    | (go_at_call 20; refine (z20 _ _).mono ?_; rintro e w10 ⟨rfl, hd10⟩)
    | go_in)
  go_ret
  exact ⟨rfl, ((((((((((hd1.below _).trans (hd2.below _)).trans (hd3.below _)).trans (hd4.below _)).trans (hd5.below _)).trans (hd6.below _)).trans (hd7.below _)).trans (hd8.below _)).trans (hd9.below _)).trans (hd10.below _))⟩

set_option maxRecDepth 100000 in
set_option maxHeartbeats 1000000 in
theorem t_a_b (x u : Int) (w : World) (hx0 : -128 ≤ x) (hx1 : x ≤ 127) (hu0 : 256 ≤ u) (hu1 : u ≤ 65535) (hu : (IntKind.u64.wrap (wrap64 u) != u) = false) (hs : (u != wrap64 u) = false) :
    Calls Tryf.prog 4 #[.int .i64 x, .int .u64 u] w fun e w' => e = .returned (.bool true) ∧ Below w.heap.size w w' := by
  go_enter Tryf.func4, Tryf.ntmps4
  go_wp2_with (first
    | (go_at_call 10; refine (z10 _ _).mono ?_; rintro e w1 ⟨rfl, hd1⟩)
    | (go_at_call 12; refine (z12 _ _ (by omega) (by omega)).mono ?_; rintro e w2 ⟨rfl, hd2⟩)
    | (go_at_call 13; refine (z13 _ _ (by omega) (by omega)).mono ?_; rintro e w3 ⟨rfl, hd3⟩)
    | (go_at_call 14; refine (z14 _ _ (by omega) (by omega)).mono ?_; rintro e w4 ⟨rfl, hd4⟩)
    | (go_at_call 15; refine (z15 _ _).mono ?_; rintro e w5 ⟨rfl, hd5⟩)
    | (go_at_call 16; refine (z16 _ _).mono ?_; rintro e w6 ⟨rfl, hd6⟩)
    | (go_at_call 17; refine (z17 _ _ (by omega) (by omega)).mono ?_; rintro e w7 ⟨rfl, hd7⟩)
    | (go_at_call 18; refine (z18 _ _ (by omega) (by omega)).mono ?_; rintro e w8 ⟨rfl, hd8⟩)
    | (go_at_call 19; refine (z19 _ _ (by omega) (by omega)).mono ?_; rintro e w9 ⟨rfl, hd9⟩)
    | (go_at_call 20; refine (z20 _ _).mono ?_; rintro e w10 ⟨rfl, hd10⟩)
    | go_in)
  go_ret
  exact ⟨rfl, (((((((((hd1.below _).trans (hd2.below _)).trans (hd3.below _)).trans (hd4.below _)).trans (hd5.below _)).trans (hd6.below _)).trans (hd8.below _)).trans (hd9.below _)).trans (hd10.below _))⟩

set_option maxRecDepth 100000 in
set_option maxHeartbeats 1000000 in
theorem t_a_c (x u : Int) (w : World) (hx0 : -128 ≤ x) (hx1 : x ≤ 127) (hu0 : 65536 ≤ u) (hu1 : u ≤ 4294967295) (hu : (IntKind.u64.wrap (wrap64 u) != u) = false) (hs : (u != wrap64 u) = false) :
    Calls Tryf.prog 4 #[.int .i64 x, .int .u64 u] w fun e w' => e = .returned (.bool true) ∧ Below w.heap.size w w' := by
  go_enter Tryf.func4, Tryf.ntmps4
  go_wp2_with (first
    | (go_at_call 10; refine (z10 _ _).mono ?_; rintro e w1 ⟨rfl, hd1⟩)
    | (go_at_call 12; refine (z12 _ _ (by omega) (by omega)).mono ?_; rintro e w2 ⟨rfl, hd2⟩)
    | (go_at_call 13; refine (z13 _ _ (by omega) (by omega)).mono ?_; rintro e w3 ⟨rfl, hd3⟩)
    | (go_at_call 14; refine (z14 _ _ (by omega) (by omega)).mono ?_; rintro e w4 ⟨rfl, hd4⟩)
    | (go_at_call 15; refine (z15 _ _).mono ?_; rintro e w5 ⟨rfl, hd5⟩)
    | (go_at_call 16; refine (z16 _ _).mono ?_; rintro e w6 ⟨rfl, hd6⟩)
    | (go_at_call 17; refine (z17 _ _ (by omega) (by omega)).mono ?_; rintro e w7 ⟨rfl, hd7⟩)
    | (go_at_call 18; refine (z18 _ _ (by omega) (by omega)).mono ?_; rintro e w8 ⟨rfl, hd8⟩)
    | (go_at_call 19; refine (z19 _ _ (by omega) (by omega)).mono ?_; rintro e w9 ⟨rfl, hd9⟩)
    | (go_at_call 20; refine (z20 _ _).mono ?_; rintro e w10 ⟨rfl, hd10⟩)
    | go_in)
  go_ret
  exact ⟨rfl, ((((((((hd1.below _).trans (hd2.below _)).trans (hd3.below _)).trans (hd4.below _)).trans (hd5.below _)).trans (hd6.below _)).trans (hd9.below _)).trans (hd10.below _))⟩

set_option maxRecDepth 100000 in
set_option maxHeartbeats 1000000 in
theorem t_a_d (x u : Int) (w : World) (hx0 : -128 ≤ x) (hx1 : x ≤ 127) (hu0 : 4294967296 ≤ u) (hu1 : u ≤ 18446744073709551615) (hu : (IntKind.u64.wrap (wrap64 u) != u) = false) :
    Calls Tryf.prog 4 #[.int .i64 x, .int .u64 u] w fun e w' => e = .returned (.bool true) ∧ Below w.heap.size w w' := by
  go_enter Tryf.func4, Tryf.ntmps4
  go_wp2_with (first
    | (go_at_call 10; refine (z10 _ _).mono ?_; rintro e w1 ⟨rfl, hd1⟩)
    | (go_at_call 12; refine (z12 _ _ (by omega) (by omega)).mono ?_; rintro e w2 ⟨rfl, hd2⟩)
    | (go_at_call 13; refine (z13 _ _ (by omega) (by omega)).mono ?_; rintro e w3 ⟨rfl, hd3⟩)
    | (go_at_call 14; refine (z14 _ _ (by omega) (by omega)).mono ?_; rintro e w4 ⟨rfl, hd4⟩)
    | (go_at_call 15; refine (z15 _ _).mono ?_; rintro e w5 ⟨rfl, hd5⟩)
    | (go_at_call 16; refine (z16 _ _).mono ?_; rintro e w6 ⟨rfl, hd6⟩)
    | (go_at_call 17; refine (z17 _ _ (by omega) (by omega)).mono ?_; rintro e w7 ⟨rfl, hd7⟩)
    | (go_at_call 18; refine (z18 _ _ (by omega) (by omega)).mono ?_; rintro e w8 ⟨rfl, hd8⟩)
    | (go_at_call 19; refine (z19 _ _ (by omega) (by omega)).mono ?_; rintro e w9 ⟨rfl, hd9⟩)
    | (go_at_call 20; refine (z20 _ _).mono ?_; rintro e w10 ⟨rfl, hd10⟩)
    | go_in)
  go_ret
  exact ⟨rfl, (((((((hd1.below _).trans (hd2.below _)).trans (hd3.below _)).trans (hd4.below _)).trans (hd5.below _)).trans (hd6.below _)).trans (hd10.below _))⟩

set_option maxRecDepth 100000 in
set_option maxHeartbeats 1000000 in
theorem t_b0_a (x u : Int) (w : World) (hx0 : -32768 ≤ x) (hx1 : x ≤ -129) (hu0 : 0 ≤ u) (hu1 : u ≤ 255) (hu : (IntKind.u64.wrap (wrap64 u) != u) = false) (hs : (u != wrap64 u) = false) :
    Calls Tryf.prog 4 #[.int .i64 x, .int .u64 u] w fun e w' => e = .returned (.bool true) ∧ Below w.heap.size w w' := by
  go_enter Tryf.func4, Tryf.ntmps4
  go_wp2_with (first
    | (go_at_call 10; refine (z10 _ _).mono ?_; rintro e w1 ⟨rfl, hd1⟩)
    | (go_at_call 12; refine (z12 _ _ (by omega) (by omega)).mono ?_; rintro e w2 ⟨rfl, hd2⟩)
    | (go_at_call 13; refine (z13 _ _ (by omega) (by omega)).mono ?_; rintro e w3 ⟨rfl, hd3⟩)
    | (go_at_call 14; refine (z14 _ _ (by omega) (by omega)).mono ?_; rintro e w4 ⟨rfl, hd4⟩)
    | (go_at_call 15; refine (z15 _ _).mono ?_; rintro e w5 ⟨rfl, hd5⟩)
    | (go_at_call 16; refine (z16 _ _).mono ?_; rintro e w6 ⟨rfl, hd6⟩)
    | (go_at_call 17; refine (z17 _ _ (by omega) (by omega)).mono ?_; rintro e w7 ⟨rfl, hd7⟩)
    | (go_at_call 18; refine (z18 _ _ (by omega) (by omega)).mono ?_; rintro e w8 ⟨rfl, hd8⟩)
    | (go_at_call 19; refine (z19 _ _ (by omega) (by omega)).mono ?_; rintro e w9 ⟨rfl, hd9⟩)
    | (go_at_call 20; refine (z20 _ _).mono ?_; rintro e w10 ⟨rfl, hd10⟩)
    | go_in)
  go_ret
  exact ⟨rfl, (((((((((hd1.below _).trans (hd3.below _)).trans (hd4.below _)).trans (hd5.below _)).trans (hd6.below _)).trans (hd7.below _)).trans (hd8.below _)).trans (hd9.below _)).trans (hd10.below _))⟩

set_option maxRecDepth 100000 in
set_option maxHeartbeats 1000000 in
theorem t_b0_b (x u : Int) (w : World) (hx0 : -32768 ≤ x) (hx1 : x ≤ -129) (hu0 : 256 ≤ u) (hu1 : u ≤ 65535) (hu : (IntKind.u64.wrap (wrap64 u) != u) = false) (hs : (u != wrap64 u) = false) :
    Calls Tryf.prog 4 #[.int .i64 x, .int .u64 u] w fun e w' => e = .returned (.bool true) ∧ Below w.heap.size w w' := by
  go_enter Tryf.func4, Tryf.ntmps4
  go_wp2_with (first
    | (go_at_call 10; refine (z10 _ _).mono ?_; rintro e w1 ⟨rfl, hd1⟩)
    | (go_at_call 12; refine (z12 _ _ (by omega) (by omega)).mono ?_; rintro e w2 ⟨rfl, hd2⟩)
    | (go_at_call 13; refine (z13 _ _ (by omega) (by omega)).mono ?_; rintro e w3 ⟨rfl, hd3⟩)
    | (go_at_call 14; refine (z14 _ _ (by omega) (by omega)).mono ?_; rintro e w4 ⟨rfl, hd4⟩)
    | (go_at_call 15; refine (z15 _ _).mono ?_; rintro e w5 ⟨rfl, hd5⟩)
    | (go_at_call 16; refine (z16 _ _).mono ?_; rintro e w6 ⟨rfl, hd6⟩)
    | (go_at_call 17; refine (z17 _ _ (by omega) (by omega)).mono ?_; rintro e w7 ⟨rfl, hd7⟩)
    | (go_at_call 18; refine (z18 _ _ (by omega) (by omega)).mono ?_; rintro e w8 ⟨rfl, hd8⟩)
    | (go_at_call 19; refine (z19 _ _ (by omega) (by omega)).mono ?_; rintro e w9 ⟨rfl, hd9⟩)
    | (go_at_call 20; refine (z20 _ _).mono ?_; rintro e w10 ⟨rfl, hd10⟩)
    | go_in)
  go_ret
  exact ⟨rfl, ((((((((hd1.below _).trans (hd3.below _)).trans (hd4.below _)).trans (hd5.below _)).trans (hd6.below _)).trans (hd8.below _)).trans (hd9.below _)).trans (hd10.below _))⟩

set_option maxRecDepth 100000 in
set_option maxHeartbeats 1000000 in
theorem t_b0_c (x u : Int) (w : World) (hx0 : -32768 ≤ x) (hx1 : x ≤ -129) (hu0 : 65536 ≤ u) (hu1 : u ≤ 4294967295) (hu : (IntKind.u64.wrap (wrap64 u) != u) = false) (hs : (u != wrap64 u) = false) :
    Calls Tryf.prog 4 #[.int .i64 x, .int .u64 u] w fun e w' => e = .returned (.bool true) ∧ Below w.heap.size w w' := by
  go_enter Tryf.func4, Tryf.ntmps4
  go_wp2_with (first
    | (go_at_call 10; refine (z10 _ _).mono ?_; rintro e w1 ⟨rfl, hd1⟩)
    | (go_at_call 12; refine (z12 _ _ (by omega) (by omega)).mono ?_; rintro e w2 ⟨rfl, hd2⟩)
    | (go_at_call 13; refine (z13 _ _ (by omega) (by omega)).mono ?_; rintro e w3 ⟨rfl, hd3⟩)
    | (go_at_call 14; refine (z14 _ _ (by omega) (by omega)).mono ?_; rintro e w4 ⟨rfl, hd4⟩)
    | (go_at_call 15; refine (z15 _ _).mono ?_; rintro e w5 ⟨rfl, hd5⟩)
    | (go_at_call 16; refine (z16 _ _).mono ?_; rintro e w6 ⟨rfl, hd6⟩)
    | (go_at_call 17; refine (z17 _ _ (by omega) (by omega)).mono ?_; rintro e w7 ⟨rfl, hd7⟩)
    | (go_at_call 18; refine (z18 _ _ (by omega) (by omega)).mono ?_; rintro e w8 ⟨rfl, hd8⟩)
    | (go_at_call 19; refine (z19 _ _ (by omega) (by omega)).mono ?_; rintro e w9 ⟨rfl, hd9⟩)
    | (go_at_call 20; refine (z20 _ _).mono ?_; rintro e w10 ⟨rfl, hd10⟩)
    | go_in)
  go_ret
  exact ⟨rfl, (((((((hd1.below _).trans (hd3.below _)).trans (hd4.below _)).trans (hd5.below _)).trans (hd6.below _)).trans (hd9.below _)).trans (hd10.below _))⟩

set_option maxRecDepth 100000 in
set_option maxHeartbeats 1000000 in
theorem t_b0_d (x u : Int) (w : World) (hx0 : -32768 ≤ x) (hx1 : x ≤ -129) (hu0 : 4294967296 ≤ u) (hu1 : u ≤ 18446744073709551615) (hu : (IntKind.u64.wrap (wrap64 u) != u) = false) :
    Calls Tryf.prog 4 #[.int .i64 x, .int .u64 u] w fun e w' => e = .returned (.bool true) ∧ Below w.heap.size w w' := by
  go_enter Tryf.func4, Tryf.ntmps4
  go_wp2_with (first
    | (go_at_call 10; refine (z10 _ _).mono ?_; rintro e w1 ⟨rfl, hd1⟩)
    | (go_at_call 12; refine (z12 _ _ (by omega) (by omega)).mono ?_; rintro e w2 ⟨rfl, hd2⟩)
    | (go_at_call 13; refine (z13 _ _ (by omega) (by omega)).mono ?_; rintro e w3 ⟨rfl, hd3⟩)
    | (go_at_call 14; refine (z14 _ _ (by omega) (by omega)).mono ?_; rintro e w4 ⟨rfl, hd4⟩)
    | (go_at_call 15; refine (z15 _ _).mono ?_; rintro e w5 ⟨rfl, hd5⟩)
    | (go_at_call 16; refine (z16 _ _).mono ?_; rintro e w6 ⟨rfl, hd6⟩)
    | (go_at_call 17; refine (z17 _ _ (by omega) (by omega)).mono ?_; rintro e w7 ⟨rfl, hd7⟩)
    | (go_at_call 18; refine (z18 _ _ (by omega) (by omega)).mono ?_; rintro e w8 ⟨rfl, hd8⟩)
    | (go_at_call 19; refine (z19 _ _ (by omega) (by omega)).mono ?_; rintro e w9 ⟨rfl, hd9⟩)
    | (go_at_call 20; refine (z20 _ _).mono ?_; rintro e w10 ⟨rfl, hd10⟩)
    | go_in)
  go_ret
  exact ⟨rfl, ((((((hd1.below _).trans (hd3.below _)).trans (hd4.below _)).trans (hd5.below _)).trans (hd6.below _)).trans (hd10.below _))⟩

set_option maxRecDepth 100000 in
set_option maxHeartbeats 1000000 in
theorem t_b1_a (x u : Int) (w : World) (hx0 : 128 ≤ x) (hx1 : x ≤ 32767) (hu0 : 0 ≤ u) (hu1 : u ≤ 255) (hu : (IntKind.u64.wrap (wrap64 u) != u) = false) (hs : (u != wrap64 u) = false) :
    Calls Tryf.prog 4 #[.int .i64 x, .int .u64 u] w fun e w' => e = .returned (.bool true) ∧ Below w.heap.size w w' := by
  go_enter Tryf.func4, Tryf.ntmps4
  go_wp2_with (first
    | (go_at_call 10; refine (z10 _ _).mono ?_; rintro e w1 ⟨rfl, hd1⟩)
    | (go_at_call 12; refine (z12 _ _ (by omega) (by omega)).mono ?_; rintro e w2 ⟨rfl, hd2⟩)
    | (go_at_call 13; refine (z13 _ _ (by omega) (by omega)).mono ?_; rintro e w3 ⟨rfl, hd3⟩)
    | (go_at_call 14; refine (z14 _ _ (by omega) (by omega)).mono ?_; rintro e w4 ⟨rfl, hd4⟩)
    | (go_at_call 15; refine (z15 _ _).mono ?_; rintro e w5 ⟨rfl, hd5⟩)
    | (go_at_call 16; refine (z16 _ _).mono ?_; rintro e w6 ⟨rfl, hd6⟩)
    | (go_at_call 17; refine (z17 _ _ (by omega) (by omega)).mono ?_; rintro e w7 ⟨rfl, hd7⟩)
    | (go_at_call 18; refine (z18 _ _ (by omega) (by omega)).mono ?_; rintro e w8 ⟨rfl, hd8⟩)
    | (go_at_call 19; refine (z19 _ _ (by omega) (by omega)).mono ?_; rintro e w9 ⟨rfl, hd9⟩)
    | (go_at_call 20; refine (z20 _ _).mono ?_; rintro e w10 ⟨rfl, hd10⟩)
    | go_in)
  go_ret
  exact ⟨rfl, (((((((((hd1.below _).trans (hd3.below _)).trans (hd4.below _)).trans (hd5.below _)).trans (hd6.below _)).trans (hd7.below _)).trans (hd8.below _)).trans (hd9.below _)).trans (hd10.below _))⟩

set_option maxRecDepth 100000 in
set_option maxHeartbeats 1000000 in
theorem t_b1_b (x u : Int) (w : World) (hx0 : 128 ≤ x) (hx1 : x ≤ 32767) (hu0 : 256 ≤ u) (hu1 : u ≤ 65535) (hu : (IntKind.u64.wrap (wrap64 u) != u) = false) (hs : (u != wrap64 u) = false) :
    Calls Tryf.prog 4 #[.int .i64 x, .int .u64 u] w fun e w' => e = .returned (.bool true) ∧ Below w.heap.size w w' := by
  go_enter Tryf.func4, Tryf.ntmps4
  go_wp2_with (first
    | (go_at_call 10; refine (z10 _ _).mono ?_; rintro e w1 ⟨rfl, hd1⟩)
    | (go_at_call 12; refine (z12 _ _ (by omega) (by omega)).mono ?_; rintro e w2 ⟨rfl, hd2⟩)
    | (go_at_call 13; refine (z13 _ _ (by omega) (by omega)).mono ?_; rintro e w3 ⟨rfl, hd3⟩)
    | (go_at_call 14; refine (z14 _ _ (by omega) (by omega)).mono ?_; rintro e w4 ⟨rfl, hd4⟩)
    | (go_at_call 15; refine (z15 _ _).mono ?_; rintro e w5 ⟨rfl, hd5⟩)
    | (go_at_call 16; refine (z16 _ _).mono ?_; rintro e w6 ⟨rfl, hd6⟩)
    | (go_at_call 17; refine (z17 _ _ (by omega) (by omega)).mono ?_; rintro e w7 ⟨rfl, hd7⟩)
    | (go_at_call 18; refine (z18 _ _ (by omega) (by omega)).mono ?_; rintro e w8 ⟨rfl, hd8⟩)
    | (go_at_call 19; refine (z19 _ _ (by omega) (by omega)).mono ?_; rintro e w9 ⟨rfl, hd9⟩)
    | (go_at_call 20; refine (z20 _ _).mono ?_; rintro e w10 ⟨rfl, hd10⟩)
    | go_in)
  go_ret
  exact ⟨rfl, ((((((((hd1.below _).trans (hd3.below _)).trans (hd4.below _)).trans (hd5.below _)).trans (hd6.below _)).trans (hd8.below _)).trans (hd9.below _)).trans (hd10.below _))⟩

set_option maxRecDepth 100000 in
set_option maxHeartbeats 1000000 in
theorem t_b1_c (x u : Int) (w : World) (hx0 : 128 ≤ x) (hx1 : x ≤ 32767) (hu0 : 65536 ≤ u) (hu1 : u ≤ 4294967295) (hu : (IntKind.u64.wrap (wrap64 u) != u) = false) (hs : (u != wrap64 u) = false) :
    Calls Tryf.prog 4 #[.int .i64 x, .int .u64 u] w fun e w' => e = .returned (.bool true) ∧ Below w.heap.size w w' := by
  go_enter Tryf.func4, Tryf.ntmps4
  go_wp2_with (first
    | (go_at_call 10; refine (z10 _ _).mono ?_; rintro e w1 ⟨rfl, hd1⟩)
    | (go_at_call 12; refine (z12 _ _ (by omega) (by omega)).mono ?_; rintro e w2 ⟨rfl, hd2⟩)
    | (go_at_call 13; refine (z13 _ _ (by omega) (by omega)).mono ?_; rintro e w3 ⟨rfl, hd3⟩)
    | (go_at_call 14; refine (z14 _ _ (by omega) (by omega)).mono ?_; rintro e w4 ⟨rfl, hd4⟩)
    | (go_at_call 15; refine (z15 _ _).mono ?_; rintro e w5 ⟨rfl, hd5⟩)
    | (go_at_call 16; refine (z16 _ _).mono ?_; rintro e w6 ⟨rfl, hd6⟩)
    | (go_at_call 17; refine (z17 _ _ (by omega) (by omega)).mono ?_; rintro e w7 ⟨rfl, hd7⟩)
    | (go_at_call 18; refine (z18 _ _ (by omega) (by omega)).mono ?_; rintro e w8 ⟨rfl, hd8⟩)
    | (go_at_call 19; refine (z19 _ _ (by omega) (by omega)).mono ?_; rintro e w9 ⟨rfl, hd9⟩)
    | (go_at_call 20; refine (z20 _ _).mono ?_; rintro e w10 ⟨rfl, hd10⟩)
    | go_in)
  go_ret
  exact ⟨rfl, (((((((hd1.below _).trans (hd3.below _)).trans (hd4.below _)).trans (hd5.below _)).trans (hd6.below _)).trans (hd9.below _)).trans (hd10.below _))⟩

set_option maxRecDepth 100000 in
set_option maxHeartbeats 1000000 in
theorem t_b1_d (x u : Int) (w : World) (hx0 : 128 ≤ x) (hx1 : x ≤ 32767) (hu0 : 4294967296 ≤ u) (hu1 : u ≤ 18446744073709551615) (hu : (IntKind.u64.wrap (wrap64 u) != u) = false) :
    Calls Tryf.prog 4 #[.int .i64 x, .int .u64 u] w fun e w' => e = .returned (.bool true) ∧ Below w.heap.size w w' := by
  go_enter Tryf.func4, Tryf.ntmps4
  go_wp2_with (first
    | (go_at_call 10; refine (z10 _ _).mono ?_; rintro e w1 ⟨rfl, hd1⟩)
    | (go_at_call 12; refine (z12 _ _ (by omega) (by omega)).mono ?_; rintro e w2 ⟨rfl, hd2⟩)
    | (go_at_call 13; refine (z13 _ _ (by omega) (by omega)).mono ?_; rintro e w3 ⟨rfl, hd3⟩)
    | (go_at_call 14; refine (z14 _ _ (by omega) (by omega)).mono ?_; rintro e w4 ⟨rfl, hd4⟩)
    | (go_at_call 15; refine (z15 _ _).mono ?_; rintro e w5 ⟨rfl, hd5⟩)
    | (go_at_call 16; refine (z16 _ _).mono ?_; rintro e w6 ⟨rfl, hd6⟩)
    | (go_at_call 17; refine (z17 _ _ (by omega) (by omega)).mono ?_; rintro e w7 ⟨rfl, hd7⟩)
    | (go_at_call 18; refine (z18 _ _ (by omega) (by omega)).mono ?_; rintro e w8 ⟨rfl, hd8⟩)
    | (go_at_call 19; refine (z19 _ _ (by omega) (by omega)).mono ?_; rintro e w9 ⟨rfl, hd9⟩)
    | (go_at_call 20; refine (z20 _ _).mono ?_; rintro e w10 ⟨rfl, hd10⟩)
    | go_in)
  go_ret
  exact ⟨rfl, ((((((hd1.below _).trans (hd3.below _)).trans (hd4.below _)).trans (hd5.below _)).trans (hd6.below _)).trans (hd10.below _))⟩

set_option maxRecDepth 100000 in
set_option maxHeartbeats 1000000 in
theorem t_c0_a (x u : Int) (w : World) (hx0 : -2147483648 ≤ x) (hx1 : x ≤ -32769) (hu0 : 0 ≤ u) (hu1 : u ≤ 255) (hu : (IntKind.u64.wrap (wrap64 u) != u) = false) (hs : (u != wrap64 u) = false) :
    Calls Tryf.prog 4 #[.int .i64 x, .int .u64 u] w fun e w' => e = .returned (.bool true) ∧ Below w.heap.size w w' := by
  go_enter Tryf.func4, Tryf.ntmps4
  go_wp2_with (first
    | (go_at_call 10; refine (z10 _ _).mono ?_; rintro e w1 ⟨rfl, hd1⟩)
    | (go_at_call 12; refine (z12 _ _ (by omega) (by omega)).mono ?_; rintro e w2 ⟨rfl, hd2⟩)
    | (go_at_call 13; refine (z13 _ _ (by omega) (by omega)).mono ?_; rintro e w3 ⟨rfl, hd3⟩)
    | (go_at_call 14; refine (z14 _ _ (by omega) (by omega)).mono ?_; rintro e w4 ⟨rfl, hd4⟩)
    | (go_at_call 15; refine (z15 _ _).mono ?_; rintro e w5 ⟨rfl, hd5⟩)
    | (go_at_call 16; refine (z16 _ _).mono ?_; rintro e w6 ⟨rfl, hd6⟩)
    | (go_at_call 17; refine (z17 _ _ (by omega) (by omega)).mono ?_; rintro e w7 ⟨rfl, hd7⟩)
    | (go_at_call 18; refine (z18 _ _ (by omega) (by omega)).mono ?_; rintro e w8 ⟨rfl, hd8⟩)
    | (go_at_call 19; refine (z19 _ _ (by omega) (by omega)).mono ?_; rintro e w9 ⟨rfl, hd9⟩)
    | (go_at_call 20; refine (z20 _ _).mono ?_; rintro e w10 ⟨rfl, hd10⟩)
    | go_in)
  go_ret
  exact ⟨rfl, ((((((((hd1.below _).trans (hd4.below _)).trans (hd5.below _)).trans (hd6.below _)).trans (hd7.below _)).trans (hd8.below _)).trans (hd9.below _)).trans (hd10.below _))⟩

set_option maxRecDepth 100000 in
set_option maxHeartbeats 1000000 in
theorem t_c0_b (x u : Int) (w : World) (hx0 : -2147483648 ≤ x) (hx1 : x ≤ -32769) (hu0 : 256 ≤ u) (hu1 : u ≤ 65535) (hu : (IntKind.u64.wrap (wrap64 u) != u) = false) (hs : (u != wrap64 u) = false) :
    Calls Tryf.prog 4 #[.int .i64 x, .int .u64 u] w fun e w' => e = .returned (.bool true) ∧ Below w.heap.size w w' := by
  go_enter Tryf.func4, Tryf.ntmps4
  go_wp2_with (first
    | (go_at_call 10; refine (z10 _ _).mono ?_; rintro e w1 ⟨rfl, hd1⟩)
    | (go_at_call 12; refine (z12 _ _ (by omega) (by omega)).mono ?_; rintro e w2 ⟨rfl, hd2⟩)
    | (go_at_call 13; refine (z13 _ _ (by omega) (by omega)).mono ?_; rintro e w3 ⟨rfl, hd3⟩)
    | (go_at_call 14; refine (z14 _ _ (by omega) (by omega)).mono ?_; rintro e w4 ⟨rfl, hd4⟩)
    | (go_at_call 15; refine (z15 _ _).mono ?_; rintro e w5 ⟨rfl, hd5⟩)
    | (go_at_call 16; refine (z16 _ _).mono ?_; rintro e w6 ⟨rfl, hd6⟩)
    | (go_at_call 17; refine (z17 _ _ (by omega) (by omega)).mono ?_; rintro e w7 ⟨rfl, hd7⟩)
    | (go_at_call 18; refine (z18 _ _ (by omega) (by omega)).mono ?_; rintro e w8 ⟨rfl, hd8⟩)
    | (go_at_call 19; refine (z19 _ _ (by omega) (by omega)).mono ?_; rintro e w9 ⟨rfl, hd9⟩)
    | (go_at_call 20; refine (z20 _ _).mono ?_; rintro e w10 ⟨rfl, hd10⟩)
    | go_in)
  go_ret
  exact ⟨rfl, (((((((hd1.below _).trans (hd4.below _)).trans (hd5.below _)).trans (hd6.below _)).trans (hd8.below _)).trans (hd9.below _)).trans (hd10.below _))⟩

set_option maxRecDepth 100000 in
set_option maxHeartbeats 1000000 in
theorem t_c0_c (x u : Int) (w : World) (hx0 : -2147483648 ≤ x) (hx1 : x ≤ -32769) (hu0 : 65536 ≤ u) (hu1 : u ≤ 4294967295) (hu : (IntKind.u64.wrap (wrap64 u) != u) = false) (hs : (u != wrap64 u) = false) :
    Calls Tryf.prog 4 #[.int .i64 x, .int .u64 u] w fun e w' => e = .returned (.bool true) ∧ Below w.heap.size w w' := by
  go_enter Tryf.func4, Tryf.ntmps4
  go_wp2_with (first
    | (go_at_call 10; refine (z10 _ _).mono ?_; rintro e w1 ⟨rfl, hd1⟩)
    | (go_at_call 12; refine (z12 _ _ (by omega) (by omega)).mono ?_; rintro e w2 ⟨rfl, hd2⟩)
    | (go_at_call 13; refine (z13 _ _ (by omega) (by omega)).mono ?_; rintro e w3 ⟨rfl, hd3⟩)
    | (go_at_call 14; refine (z14 _ _ (by omega) (by omega)).mono ?_; rintro e w4 ⟨rfl, hd4⟩)
    | (go_at_call 15; refine (z15 _ _).mono ?_; rintro e w5 ⟨rfl, hd5⟩)
    | (go_at_call 16; refine (z16 _ _).mono ?_; rintro e w6 ⟨rfl, hd6⟩)
    | (go_at_call 17; refine (z17 _ _ (by omega) (by omega)).mono ?_; rintro e w7 ⟨rfl, hd7⟩)
    | (go_at_call 18; refine (z18 _ _ (by omega) (by omega)).mono ?_; rintro e w8 ⟨rfl, hd8⟩)
    | (go_at_call 19; refine (z19 _ _ (by omega) (by omega)).mono ?_; rintro e w9 ⟨rfl, hd9⟩)
    | (go_at_call 20; refine (z20 _ _).mono ?_; rintro e w10 ⟨rfl, hd10⟩)
    | go_in)
  go_ret
  exact ⟨rfl, ((((((hd1.below _).trans (hd4.below _)).trans (hd5.below _)).trans (hd6.below _)).trans (hd9.below _)).trans (hd10.below _))⟩

set_option maxRecDepth 100000 in
set_option maxHeartbeats 1000000 in
theorem t_c0_d (x u : Int) (w : World) (hx0 : -2147483648 ≤ x) (hx1 : x ≤ -32769) (hu0 : 4294967296 ≤ u) (hu1 : u ≤ 18446744073709551615) (hu : (IntKind.u64.wrap (wrap64 u) != u) = false) :
    Calls Tryf.prog 4 #[.int .i64 x, .int .u64 u] w fun e w' => e = .returned (.bool true) ∧ Below w.heap.size w w' := by
  go_enter Tryf.func4, Tryf.ntmps4
  go_wp2_with (first
    | (go_at_call 10; refine (z10 _ _).mono ?_; rintro e w1 ⟨rfl, hd1⟩)
    | (go_at_call 12; refine (z12 _ _ (by omega) (by omega)).mono ?_; rintro e w2 ⟨rfl, hd2⟩)
    | (go_at_call 13; refine (z13 _ _ (by omega) (by omega)).mono ?_; rintro e w3 ⟨rfl, hd3⟩)
    | (go_at_call 14; refine (z14 _ _ (by omega) (by omega)).mono ?_; rintro e w4 ⟨rfl, hd4⟩)
    | (go_at_call 15; refine (z15 _ _).mono ?_; rintro e w5 ⟨rfl, hd5⟩)
    | (go_at_call 16; refine (z16 _ _).mono ?_; rintro e w6 ⟨rfl, hd6⟩)
    | (go_at_call 17; refine (z17 _ _ (by omega) (by omega)).mono ?_; rintro e w7 ⟨rfl, hd7⟩)
    | (go_at_call 18; refine (z18 _ _ (by omega) (by omega)).mono ?_; rintro e w8 ⟨rfl, hd8⟩)
    | (go_at_call 19; refine (z19 _ _ (by omega) (by omega)).mono ?_; rintro e w9 ⟨rfl, hd9⟩)
    | (go_at_call 20; refine (z20 _ _).mono ?_; rintro e w10 ⟨rfl, hd10⟩)
    | go_in)
  go_ret
  exact ⟨rfl, (((((hd1.below _).trans (hd4.below _)).trans (hd5.below _)).trans (hd6.below _)).trans (hd10.below _))⟩

set_option maxRecDepth 100000 in
set_option maxHeartbeats 1000000 in
theorem t_c1_a (x u : Int) (w : World) (hx0 : 32768 ≤ x) (hx1 : x ≤ 2147483647) (hu0 : 0 ≤ u) (hu1 : u ≤ 255) (hu : (IntKind.u64.wrap (wrap64 u) != u) = false) (hs : (u != wrap64 u) = false) :
    Calls Tryf.prog 4 #[.int .i64 x, .int .u64 u] w fun e w' => e = .returned (.bool true) ∧ Below w.heap.size w w' := by
  go_enter Tryf.func4, Tryf.ntmps4
  go_wp2_with (first
    | (go_at_call 10; refine (z10 _ _).mono ?_; rintro e w1 ⟨rfl, hd1⟩)
    | (go_at_call 12; refine (z12 _ _ (by omega) (by omega)).mono ?_; rintro e w2 ⟨rfl, hd2⟩)
    | (go_at_call 13; refine (z13 _ _ (by omega) (by omega)).mono ?_; rintro e w3 ⟨rfl, hd3⟩)
    | (go_at_call 14; refine (z14 _ _ (by omega) (by omega)).mono ?_; rintro e w4 ⟨rfl, hd4⟩)
    | (go_at_call 15; refine (z15 _ _).mono ?_; rintro e w5 ⟨rfl, hd5⟩)
    | (go_at_call 16; refine (z16 _ _).mono ?_; rintro e w6 ⟨rfl, hd6⟩)
    | (go_at_call 17; refine (z17 _ _ (by omega) (by omega)).mono ?_; rintro e w7 ⟨rfl, hd7⟩)
    | (go_at_call 18; refine (z18 _ _ (by omega) (by omega)).mono ?_; rintro e w8 ⟨rfl, hd8⟩)
    | (go_at_call 19; refine (z19 _ _ (by omega) (by omega)).mono ?_; rintro e w9 ⟨rfl, hd9⟩)
    | (go_at_call 20; refine (z20 _ _).mono ?_; rintro e w10 ⟨rfl, hd10⟩)
    | go_in)
  go_ret
  exact ⟨rfl, ((((((((hd1.below _).trans (hd4.below _)).trans (hd5.below _)).trans (hd6.below _)).trans (hd7.below _)).trans (hd8.below _)).trans (hd9.below _)).trans (hd10.below _))⟩

set_option maxRecDepth 100000 in
set_option maxHeartbeats 1000000 in
theorem t_c1_b (x u : Int) (w : World) (hx0 : 32768 ≤ x) (hx1 : x ≤ 2147483647) (hu0 : 256 ≤ u) (hu1 : u ≤ 65535) (hu : (IntKind.u64.wrap (wrap64 u) != u) = false) (hs : (u != wrap64 u) = false) :
    Calls Tryf.prog 4 #[.int .i64 x, .int .u64 u] w fun e w' => e = .returned (.bool true) ∧ Below w.heap.size w w' := by
  go_enter Tryf.func4, Tryf.ntmps4
  go_wp2_with (first
    | (go_at_call 10; refine (z10 _ _).mono ?_; rintro e w1 ⟨rfl, hd1⟩)
    | (go_at_call 12; refine (z12 _ _ (by omega) (by omega)).mono ?_; rintro e w2 ⟨rfl, hd2⟩)
    | (go_at_call 13; refine (z13 _ _ (by omega) (by omega)).mono ?_; rintro e w3 ⟨rfl, hd3⟩)
    | (go_at_call 14; refine (z14 _ _ (by omega) (by omega)).mono ?_; rintro e w4 ⟨rfl, hd4⟩)
    | (go_at_call 15; refine (z15 _ _).mono ?_; rintro e w5 ⟨rfl, hd5⟩)
    | (go_at_call 16; refine (z16 _ _).mono ?_; rintro e w6 ⟨rfl, hd6⟩)
    | (go_at_call 17; refine (z17 _ _ (by omega) (by omega)).mono ?_; rintro e w7 ⟨rfl, hd7⟩)
    | (go_at_call 18; refine (z18 _ _ (by omega) (by omega)).mono ?_; rintro e w8 ⟨rfl, hd8⟩)
    | (go_at_call 19; refine (z19 _ _ (by omega) (by omega)).mono ?_; rintro e w9 ⟨rfl, hd9⟩)
    | (go_at_call 20; refine (z20 _ _).mono ?_; rintro e w10 ⟨rfl, hd10⟩)
    | go_in)
  go_ret
  exact ⟨rfl, (((((((hd1.below _).trans (hd4.below _)).trans (hd5.below _)).trans (hd6.below _)).trans (hd8.below _)).trans (hd9.below _)).trans (hd10.below _))⟩

set_option maxRecDepth 100000 in
set_option maxHeartbeats 1000000 in
theorem t_c1_c (x u : Int) (w : World) (hx0 : 32768 ≤ x) (hx1 : x ≤ 2147483647) (hu0 : 65536 ≤ u) (hu1 : u ≤ 4294967295) (hu : (IntKind.u64.wrap (wrap64 u) != u) = false) (hs : (u != wrap64 u) = false) :
    Calls Tryf.prog 4 #[.int .i64 x, .int .u64 u] w fun e w' => e = .returned (.bool true) ∧ Below w.heap.size w w' := by
  go_enter Tryf.func4, Tryf.ntmps4
  go_wp2_with (first
    | (go_at_call 10; refine (z10 _ _).mono ?_; rintro e w1 ⟨rfl, hd1⟩)
    | (go_at_call 12; refine (z12 _ _ (by omega) (by omega)).mono ?_; rintro e w2 ⟨rfl, hd2⟩)
    | (go_at_call 13; refine (z13 _ _ (by omega) (by omega)).mono ?_; rintro e w3 ⟨rfl, hd3⟩)
    | (go_at_call 14; refine (z14 _ _ (by omega) (by omega)).mono ?_; rintro e w4 ⟨rfl, hd4⟩)
    | (go_at_call 15; refine (z15 _ _).mono ?_; rintro e w5 ⟨rfl, hd5⟩)
    | (go_at_call 16; refine (z16 _ _).mono ?_; rintro e w6 ⟨rfl, hd6⟩)
    | (go_at_call 17; refine (z17 _ _ (by omega) (by omega)).mono ?_; rintro e w7 ⟨rfl, hd7⟩)
    | (go_at_call 18; refine (z18 _ _ (by omega) (by omega)).mono ?_; rintro e w8 ⟨rfl, hd8⟩)
    | (go_at_call 19; refine (z19 _ _ (by omega) (by omega)).mono ?_; rintro e w9 ⟨rfl, hd9⟩)
    | (go_at_call 20; refine (z20 _ _).mono ?_; rintro e w10 ⟨rfl, hd10⟩)
    | go_in)
  go_ret
  exact ⟨rfl, ((((((hd1.below _).trans (hd4.below _)).trans (hd5.below _)).trans (hd6.below _)).trans (hd9.below _)).trans (hd10.below _))⟩

set_option maxRecDepth 100000 in
set_option maxHeartbeats 1000000 in
theorem t_c1_d (x u : Int) (w : World) (hx0 : 32768 ≤ x) (hx1 : x ≤ 2147483647) (hu0 : 4294967296 ≤ u) (hu1 : u ≤ 18446744073709551615) (hu : (IntKind.u64.wrap (wrap64 u) != u) = false) :
    Calls Tryf.prog 4 #[.int .i64 x, .int .u64 u] w fun e w' => e = .returned (.bool true) ∧ Below w.heap.size w w' := by
  go_enter Tryf.func4, Tryf.ntmps4
  go_wp2_with (first
    | (go_at_call 10; refine (z10 _ _).mono ?_; rintro e w1 ⟨rfl, hd1⟩)
    | (go_at_call 12; refine (z12 _ _ (by omega) (by omega)).mono ?_; rintro e w2 ⟨rfl, hd2⟩)
    | (go_at_call 13; refine (z13 _ _ (by omega) (by omega)).mono ?_; rintro e w3 ⟨rfl, hd3⟩)
    | (go_at_call 14; refine (z14 _ _ (by omega) (by omega)).mono ?_; rintro e w4 ⟨rfl, hd4⟩)
    | (go_at_call 15; refine (z15 _ _).mono ?_; rintro e w5 ⟨rfl, hd5⟩)
    | (go_at_call 16; refine (z16 _ _).mono ?_; rintro e w6 ⟨rfl, hd6⟩)
    | (go_at_call 17; refine (z17 _ _ (by omega) (by omega)).mono ?_; rintro e w7 ⟨rfl, hd7⟩)
    | (go_at_call 18; refine (z18 _ _ (by omega) (by omega)).mono ?_; rintro e w8 ⟨rfl, hd8⟩)
    | (go_at_call 19; refine (z19 _ _ (by omega) (by omega)).mono ?_; rintro e w9 ⟨rfl, hd9⟩)
    | (go_at_call 20; refine (z20 _ _).mono ?_; rintro e w10 ⟨rfl, hd10⟩)
    | go_in)
  go_ret
  exact ⟨rfl, (((((hd1.below _).trans (hd4.below _)).trans (hd5.below _)).trans (hd6.below _)).trans (hd10.below _))⟩

set_option maxRecDepth 100000 in
set_option maxHeartbeats 1000000 in
theorem t_d0_a (x u : Int) (w : World) (hx0 : -9223372036854775808 ≤ x) (hx1 : x ≤ -2147483649) (hu0 : 0 ≤ u) (hu1 : u ≤ 255) (hu : (IntKind.u64.wrap (wrap64 u) != u) = false) (hs : (u != wrap64 u) = false) :
    Calls Tryf.prog 4 #[.int .i64 x, .int .u64 u] w fun e w' => e = .returned (.bool true) ∧ Below w.heap.size w w' := by
  go_enter Tryf.func4, Tryf.ntmps4
  go_wp2_with (first
    | (go_at_call 10; refine (z10 _ _).mono ?_; rintro e w1 ⟨rfl, hd1⟩)
    | (go_at_call 12; refine (z12 _ _ (by omega) (by omega)).mono ?_; rintro e w2 ⟨rfl, hd2⟩)
    | (go_at_call 13; refine (z13 _ _ (by omega) (by omega)).mono ?_; rintro e w3 ⟨rfl, hd3⟩)
    | (go_at_call 14; refine (z14 _ _ (by omega) (by omega)).mono ?_; rintro e w4 ⟨rfl, hd4⟩)
    | (go_at_call 15; refine (z15 _ _).mono ?_; rintro e w5 ⟨rfl, hd5⟩)
    | (go_at_call 16; refine (z16 _ _).mono ?_; rintro e w6 ⟨rfl, hd6⟩)
    | (go_at_call 17; refine (z17 _ _ (by omega) (by omega)).mono ?_; rintro e w7 ⟨rfl, hd7⟩)
    | (go_at_call 18; refine (z18 _ _ (by omega) (by omega)).mono ?_; rintro e w8 ⟨rfl, hd8⟩)
    | (go_at_call 19; refine (z19 _ _ (by omega) (by omega)).mono ?_; rintro e w9 ⟨rfl, hd9⟩)
    | (go_at_call 20; refine (z20 _ _).mono ?_; rintro e w10 ⟨rfl, hd10⟩)
    | go_in)
  go_ret
  exact ⟨rfl, (((((((hd1.below _).trans (hd5.below _)).trans (hd6.below _)).trans (hd7.below _)).trans (hd8.below _)).trans (hd9.below _)).trans (hd10.below _))⟩

set_option maxRecDepth 100000 in
set_option maxHeartbeats 1000000 in
theorem t_d0_b (x u : Int) (w : World) (hx0 : -9223372036854775808 ≤ x) (hx1 : x ≤ -2147483649) (hu0 : 256 ≤ u) (hu1 : u ≤ 65535) (hu : (IntKind.u64.wrap (wrap64 u) != u) = false) (hs : (u != wrap64 u) = false) :
    Calls Tryf.prog 4 #[.int .i64 x, .int .u64 u] w fun e w' => e = .returned (.bool true) ∧ Below w.heap.size w w' := by
  go_enter Tryf.func4, Tryf.ntmps4
  go_wp2_with (first
    | (go_at_call 10; refine (z10 _ _).mono ?_; rintro e w1 ⟨rfl, hd1⟩)
    | (go_at_call 12; refine (z12 _ _ (by omega) (by omega)).mono ?_; rintro e w2 ⟨rfl, hd2⟩)
    | (go_at_call 13; refine (z13 _ _ (by omega) (by omega)).mono ?_; rintro e w3 ⟨rfl, hd3⟩)
    | (go_at_call 14; refine (z14 _ _ (by omega) (by omega)).mono ?_; rintro e w4 ⟨rfl, hd4⟩)
    | (go_at_call 15; refine (z15 _ _).mono ?_; rintro e w5 ⟨rfl, hd5⟩)
    | (go_at_call 16; refine (z16 _ _).mono ?_; rintro e w6 ⟨rfl, hd6⟩)
    | (go_at_call 17; refine (z17 _ _ (by omega) (by omega)).mono ?_; rintro e w7 ⟨rfl, hd7⟩)
    | (go_at_call 18; refine (z18 _ _ (by omega) (by omega)).mono ?_; rintro e w8 ⟨rfl, hd8⟩)
    | (go_at_call 19; refine (z19 _ _ (by omega) (by omega)).mono ?_; rintro e w9 ⟨rfl, hd9⟩)
    | (go_at_call 20; refine (z20 _ _).mono ?_; rintro e w10 ⟨rfl, hd10⟩)
    | go_in)
  go_ret
  exact ⟨rfl, ((((((hd1.below _).trans (hd5.below _)).trans (hd6.below _)).trans (hd8.below _)).trans (hd9.below _)).trans (hd10.below _))⟩

set_option maxRecDepth 100000 in
set_option maxHeartbeats 1000000 in
theorem t_d0_c (x u : Int) (w : World) (hx0 : -9223372036854775808 ≤ x) (hx1 : x ≤ -2147483649) (hu0 : 65536 ≤ u) (hu1 : u ≤ 4294967295) (hu : (IntKind.u64.wrap (wrap64 u) != u) = false) (hs : (u != wrap64 u) = false) :
    Calls Tryf.prog 4 #[.int .i64 x, .int .u64 u] w fun e w' => e = .returned (.bool true) ∧ Below w.heap.size w w' := by
  go_enter Tryf.func4, Tryf.ntmps4
  go_wp2_with (first
    | (go_at_call 10; refine (z10 _ _).mono ?_; rintro e w1 ⟨rfl, hd1⟩)
    | (go_at_call 12; refine (z12 _ _ (by omega) (by omega)).mono ?_; rintro e w2 ⟨rfl, hd2⟩)
    | (go_at_call 13; refine (z13 _ _ (by omega) (by omega)).mono ?_; rintro e w3 ⟨rfl, hd3⟩)
    | (go_at_call 14; refine (z14 _ _ (by omega) (by omega)).mono ?_; rintro e w4 ⟨rfl, hd4⟩)
    | (go_at_call 15; refine (z15 _ _).mono ?_; rintro e w5 ⟨rfl, hd5⟩)
    | (go_at_call 16; refine (z16 _ _).mono ?_; rintro e w6 ⟨rfl, hd6⟩)
    | (go_at_call 17; refine (z17 _ _ (by omega) (by omega)).mono ?_; rintro e w7 ⟨rfl, hd7⟩)
    | (go_at_call 18; refine (z18 _ _ (by omega) (by omega)).mono ?_; rintro e w8 ⟨rfl, hd8⟩)
    | (go_at_call 19; refine (z19 _ _ (by omega) (by omega)).mono ?_; rintro e w9 ⟨rfl, hd9⟩)
    | (go_at_call 20; refine (z20 _ _).mono ?_; rintro e w10 ⟨rfl, hd10⟩)
    | go_in)
  go_ret
  exact ⟨rfl, (((((hd1.below _).trans (hd5.below _)).trans (hd6.below _)).trans (hd9.below _)).trans (hd10.below _))⟩

set_option maxRecDepth 100000 in
set_option maxHeartbeats 1000000 in
theorem t_d0_d (x u : Int) (w : World) (hx0 : -9223372036854775808 ≤ x) (hx1 : x ≤ -2147483649) (hu0 : 4294967296 ≤ u) (hu1 : u ≤ 18446744073709551615) (hu : (IntKind.u64.wrap (wrap64 u) != u) = false) :
    Calls Tryf.prog 4 #[.int .i64 x, .int .u64 u] w fun e w' => e = .returned (.bool true) ∧ Below w.heap.size w w' := by
  go_enter Tryf.func4, Tryf.ntmps4
  go_wp2_with (first
    | (go_at_call 10; refine (z10 _ _).mono ?_; rintro e w1 ⟨rfl, hd1⟩)
    | (go_at_call 12; refine (z12 _ _ (by omega) (by omega)).mono ?_; rintro e w2 ⟨rfl, hd2⟩)
    | (go_at_call 13; refine (z13 _ _ (by omega) (by omega)).mono ?_; rintro e w3 ⟨rfl, hd3⟩)
    | (go_at_call 14; refine (z14 _ _ (by omega) (by omega)).mono ?_; rintro e w4 ⟨rfl, hd4⟩)
    | (go_at_call 15; refine (z15 _ _).mono ?_; rintro e w5 ⟨rfl, hd5⟩)
    | (go_at_call 16; refine (z16 _ _).mono ?_; rintro e w6 ⟨rfl, hd6⟩)
    | (go_at_call 17; refine (z17 _ _ (by omega) (by omega)).mono ?_; rintro e w7 ⟨rfl, hd7⟩)
    | (go_at_call 18; refine (z18 _ _ (by omega) (by omega)).mono ?_; rintro e w8 ⟨rfl, hd8⟩)
    | (go_at_call 19; refine (z19 _ _ (by omega) (by omega)).mono ?_; rintro e w9 ⟨rfl, hd9⟩)
    | (go_at_call 20; refine (z20 _ _).mono ?_; rintro e w10 ⟨rfl, hd10⟩)
    | go_in)
  go_ret
  exact ⟨rfl, ((((hd1.below _).trans (hd5.below _)).trans (hd6.below _)).trans (hd10.below _))⟩

set_option maxRecDepth 100000 in
set_option maxHeartbeats 1000000 in
theorem t_d1_a (x u : Int) (w : World) (hx0 : 2147483648 ≤ x) (hx1 : x ≤ 9223372036854775807) (hu0 : 0 ≤ u) (hu1 : u ≤ 255) (hu : (IntKind.u64.wrap (wrap64 u) != u) = false) (hs : (u != wrap64 u) = false) :
    Calls Tryf.prog 4 #[.int .i64 x, .int .u64 u] w fun e w' => e = .returned (.bool true) ∧ Below w.heap.size w w' := by
  go_enter Tryf.func4, Tryf.ntmps4
  go_wp2_with (first
    | (go_at_call 10; refine (z10 _ _).mono ?_; rintro e w1 ⟨rfl, hd1⟩)
    | (go_at_call 12; refine (z12 _ _ (by omega) (by omega)).mono ?_; rintro e w2 ⟨rfl, hd2⟩)
    | (go_at_call 13; refine (z13 _ _ (by omega) (by omega)).mono ?_; rintro e w3 ⟨rfl, hd3⟩)
    | (go_at_call 14; refine (z14 _ _ (by omega) (by omega)).mono ?_; rintro e w4 ⟨rfl, hd4⟩)
    | (go_at_call 15; refine (z15 _ _).mono ?_; rintro e w5 ⟨rfl, hd5⟩)
    | (go_at_call 16; refine (z16 _ _).mono ?_; rintro e w6 ⟨rfl, hd6⟩)
    | (go_at_call 17; refine (z17 _ _ (by omega) (by omega)).mono ?_; rintro e w7 ⟨rfl, hd7⟩)
    | (go_at_call 18; refine (z18 _ _ (by omega) (by omega)).mono ?_; rintro e w8 ⟨rfl, hd8⟩)
    | (go_at_call 19; refine (z19 _ _ (by omega) (by omega)).mono ?_; rintro e w9 ⟨rfl, hd9⟩)
    | (go_at_call 20; refine (z20 _ _).mono ?_; rintro e w10 ⟨rfl, hd10⟩)
    | go_in)
  go_ret
  exact ⟨rfl, (((((((hd1.below _).trans (hd5.below _)).trans (hd6.below _)).trans (hd7.below _)).trans (hd8.below _)).trans (hd9.below _)).trans (hd10.below _))⟩

set_option maxRecDepth 100000 in
set_option maxHeartbeats 1000000 in
theorem t_d1_b (x u : Int) (w : World) (hx0 : 2147483648 ≤ x) (hx1 : x ≤ 9223372036854775807) (hu0 : 256 ≤ u) (hu1 : u ≤ 65535) (hu : (IntKind.u64.wrap (wrap64 u) != u) = false) (hs : (u != wrap64 u) = false) :
    Calls Tryf.prog 4 #[.int .i64 x, .int .u64 u] w fun e w' => e = .returned (.bool true) ∧ Below w.heap.size w w' := by
  go_enter Tryf.func4, Tryf.ntmps4
  go_wp2_with (first
    | (go_at_call 10; refine (z10 _ _).mono ?_; rintro e w1 ⟨rfl, hd1⟩)
    | (go_at_call 12; refine (z12 _ _ (by omega) (by omega)).mono ?_; rintro e w2 ⟨rfl, hd2⟩)
    | (go_at_call 13; refine (z13 _ _ (by omega) (by omega)).mono ?_; rintro e w3 ⟨rfl, hd3⟩)
    | (go_at_call 14; refine (z14 _ _ (by omega) (by omega)).mono ?_; rintro e w4 ⟨rfl, hd4⟩)
    | (go_at_call 15; refine (z15 _ _).mono ?_; rintro e w5 ⟨rfl, hd5⟩)
    | (go_at_call 16; refine (z16 _ _).mono ?_; rintro e w6 ⟨rfl, hd6⟩)
    | (go_at_call 17; refine (z17 _ _ (by omega) (by omega)).mono ?_; rintro e w7 ⟨rfl, hd7⟩)
    | (go_at_call 18; refine (z18 _ _ (by omega) (by omega)).mono ?_; rintro e w8 ⟨rfl, hd8⟩)
    | (go_at_call 19; refine (z19 _ _ (by omega) (by omega)).mono ?_; rintro e w9 ⟨rfl, hd9⟩)
    | (go_at_call 20; refine (z20 _ _).mono ?_; rintro e w10 ⟨rfl, hd10⟩)
    | go_in)
  go_ret
  exact ⟨rfl, ((((((hd1.below _).trans (hd5.below _)).trans (hd6.below _)).trans (hd8.below _)).trans (hd9.below _)).trans (hd10.below _))⟩

set_option maxRecDepth 100000 in
set_option maxHeartbeats 1000000 in
theorem t_d1_c (x u : Int) (w : World) (hx0 : 2147483648 ≤ x) (hx1 : x ≤ 9223372036854775807) (hu0 : 65536 ≤ u) (hu1 : u ≤ 4294967295) (hu : (IntKind.u64.wrap (wrap64 u) != u) = false) (hs : (u != wrap64 u) = false) :
    Calls Tryf.prog 4 #[.int .i64 x, .int .u64 u] w fun e w' => e = .returned (.bool true) ∧ Below w.heap.size w w' := by
  go_enter Tryf.func4, Tryf.ntmps4
  go_wp2_with (first
    | (go_at_call 10; refine (z10 _ _).mono ?_; rintro e w1 ⟨rfl, hd1⟩)
    | (go_at_call 12; refine (z12 _ _ (by omega) (by omega)).mono ?_; rintro e w2 ⟨rfl, hd2⟩)
    | (go_at_call 13; refine (z13 _ _ (by omega) (by omega)).mono ?_; rintro e w3 ⟨rfl, hd3⟩)
    | (go_at_call 14; refine (z14 _ _ (by omega) (by omega)).mono ?_; rintro e w4 ⟨rfl, hd4⟩)
    | (go_at_call 15; refine (z15 _ _).mono ?_; rintro e w5 ⟨rfl, hd5⟩)
    | (go_at_call 16; refine (z16 _ _).mono ?_; rintro e w6 ⟨rfl, hd6⟩)
    | (go_at_call 17; refine (z17 _ _ (by omega) (by omega)).mono ?_; rintro e w7 ⟨rfl, hd7⟩)
    | (go_at_call 18; refine (z18 _ _ (by omega) (by omega)).mono ?_; rintro e w8 ⟨rfl, hd8⟩)
    | (go_at_call 19; refine (z19 _ _ (by omega) (by omega)).mono ?_; rintro e w9 ⟨rfl, hd9⟩)
    | (go_at_call 20; refine (z20 _ _).mono ?_; rintro e w10 ⟨rfl, hd10⟩)
    | go_in)
  go_ret
  exact ⟨rfl, (((((hd1.below _).trans (hd5.below _)).trans (hd6.below _)).trans (hd9.below _)).trans (hd10.below _))⟩

set_option maxRecDepth 100000 in
set_option maxHeartbeats 1000000 in
theorem t_d1_d (x u : Int) (w : World) (hx0 : 2147483648 ≤ x) (hx1 : x ≤ 9223372036854775807) (hu0 : 4294967296 ≤ u) (hu1 : u ≤ 18446744073709551615) (hu : (IntKind.u64.wrap (wrap64 u) != u) = false) :
    Calls Tryf.prog 4 #[.int .i64 x, .int .u64 u] w fun e w' => e = .returned (.bool true) ∧ Below w.heap.size w w' := by
  go_enter Tryf.func4, Tryf.ntmps4
  go_wp2_with (first
    | (go_at_call 10; refine (z10 _ _).mono ?_; rintro e w1 ⟨rfl, hd1⟩)
    | (go_at_call 12; refine (z12 _ _ (by omega) (by omega)).mono ?_; rintro e w2 ⟨rfl, hd2⟩)
    | (go_at_call 13; refine (z13 _ _ (by omega) (by omega)).mono ?_; rintro e w3 ⟨rfl, hd3⟩)
    | (go_at_call 14; refine (z14 _ _ (by omega) (by omega)).mono ?_; rintro e w4 ⟨rfl, hd4⟩)
    | (go_at_call 15; refine (z15 _ _).mono ?_; rintro e w5 ⟨rfl, hd5⟩)
    | (go_at_call 16; refine (z16 _ _).mono ?_; rintro e w6 ⟨rfl, hd6⟩)
    | (go_at_call 17; refine (z17 _ _ (by omega) (by omega)).mono ?_; rintro e w7 ⟨rfl, hd7⟩)
    | (go_at_call 18; refine (z18 _ _ (by omega) (by omega)).mono ?_; rintro e w8 ⟨rfl, hd8⟩)
    | (go_at_call 19; refine (z19 _ _ (by omega) (by omega)).mono ?_; rintro e w9 ⟨rfl, hd9⟩)
    | (go_at_call 20; refine (z20 _ _).mono ?_; rintro e w10 ⟨rfl, hd10⟩)
    | go_in)
  go_ret
  exact ⟨rfl, ((((hd1.below _).trans (hd5.below _)).trans (hd6.below _)).trans (hd10.below _))⟩

theorem walk (a0 a1 : Int) (w : World) (w0 : (Lit.int .i64 a0).wf = true) (w1 : (Lit.int .u64 a1).wf = true) :
    Calls Tryf.prog 4 #[.int .i64 a0, .int .u64 a1] w fun e w' => e = .returned (.bool true) ∧ Below w.heap.size w w' := by
  obtain ⟨x0, x1⟩ := bounds_i64 w0
  obtain ⟨u0, u1⟩ := bounds_u64 w1
  have hu : (IntKind.u64.wrap (wrap64 a1) != a1) = false := by rw [back a1 u0 u1]; simp
  have hs : a1 ≤ 4294967295 → (a1 != wrap64 a1) = false := fun h => by rw [same a1 u0 h]; simp
  clear w0 w1
  rcases (by omega : (0 ≤ a1 ∧ a1 ≤ 255) ∨ (256 ≤ a1 ∧ a1 ≤ 65535) ∨ (65536 ≤ a1 ∧ a1 ≤ 4294967295) ∨ (4294967296 ≤ a1 ∧ a1 ≤ 18446744073709551615)) with ⟨p, q⟩ | ⟨p, q⟩ | ⟨p, q⟩ | ⟨p, q⟩
  · rcases (by omega : (-128 ≤ a0 ∧ a0 ≤ 127) ∨ (-32768 ≤ a0 ∧ a0 ≤ -129) ∨ (128 ≤ a0 ∧ a0 ≤ 32767) ∨ (-2147483648 ≤ a0 ∧ a0 ≤ -32769) ∨ (32768 ≤ a0 ∧ a0 ≤ 2147483647) ∨ (-9223372036854775808 ≤ a0 ∧ a0 ≤ -2147483649) ∨ (2147483648 ≤ a0 ∧ a0 ≤ 9223372036854775807)) with ⟨s, t⟩ | ⟨s, t⟩ | ⟨s, t⟩ | ⟨s, t⟩ | ⟨s, t⟩ | ⟨s, t⟩ | ⟨s, t⟩
    · exact t_a_a a0 a1 w s t p q hu (hs (by omega))
    · exact t_b0_a a0 a1 w s t p q hu (hs (by omega))
    · exact t_b1_a a0 a1 w s t p q hu (hs (by omega))
    · exact t_c0_a a0 a1 w s t p q hu (hs (by omega))
    · exact t_c1_a a0 a1 w s t p q hu (hs (by omega))
    · exact t_d0_a a0 a1 w s t p q hu (hs (by omega))
    · exact t_d1_a a0 a1 w s t p q hu (hs (by omega))
  · rcases (by omega : (-128 ≤ a0 ∧ a0 ≤ 127) ∨ (-32768 ≤ a0 ∧ a0 ≤ -129) ∨ (128 ≤ a0 ∧ a0 ≤ 32767) ∨ (-2147483648 ≤ a0 ∧ a0 ≤ -32769) ∨ (32768 ≤ a0 ∧ a0 ≤ 2147483647) ∨ (-9223372036854775808 ≤ a0 ∧ a0 ≤ -2147483649) ∨ (2147483648 ≤ a0 ∧ a0 ≤ 9223372036854775807)) with ⟨s, t⟩ | ⟨s, t⟩ | ⟨s, t⟩ | ⟨s, t⟩ | ⟨s, t⟩ | ⟨s, t⟩ | ⟨s, t⟩
    · exact t_a_b a0 a1 w s t p q hu (hs (by omega))
    · exact t_b0_b a0 a1 w s t p q hu (hs (by omega))
    · exact t_b1_b a0 a1 w s t p q hu (hs (by omega))
    · exact t_c0_b a0 a1 w s t p q hu (hs (by omega))
    · exact t_c1_b a0 a1 w s t p q hu (hs (by omega))
    · exact t_d0_b a0 a1 w s t p q hu (hs (by omega))
    · exact t_d1_b a0 a1 w s t p q hu (hs (by omega))
  · rcases (by omega : (-128 ≤ a0 ∧ a0 ≤ 127) ∨ (-32768 ≤ a0 ∧ a0 ≤ -129) ∨ (128 ≤ a0 ∧ a0 ≤ 32767) ∨ (-2147483648 ≤ a0 ∧ a0 ≤ -32769) ∨ (32768 ≤ a0 ∧ a0 ≤ 2147483647) ∨ (-9223372036854775808 ≤ a0 ∧ a0 ≤ -2147483649) ∨ (2147483648 ≤ a0 ∧ a0 ≤ 9223372036854775807)) with ⟨s, t⟩ | ⟨s, t⟩ | ⟨s, t⟩ | ⟨s, t⟩ | ⟨s, t⟩ | ⟨s, t⟩ | ⟨s, t⟩
    · exact t_a_c a0 a1 w s t p q hu (hs (by omega))
    · exact t_b0_c a0 a1 w s t p q hu (hs (by omega))
    · exact t_b1_c a0 a1 w s t p q hu (hs (by omega))
    · exact t_c0_c a0 a1 w s t p q hu (hs (by omega))
    · exact t_c1_c a0 a1 w s t p q hu (hs (by omega))
    · exact t_d0_c a0 a1 w s t p q hu (hs (by omega))
    · exact t_d1_c a0 a1 w s t p q hu (hs (by omega))
  · rcases (by omega : (-128 ≤ a0 ∧ a0 ≤ 127) ∨ (-32768 ≤ a0 ∧ a0 ≤ -129) ∨ (128 ≤ a0 ∧ a0 ≤ 32767) ∨ (-2147483648 ≤ a0 ∧ a0 ≤ -32769) ∨ (32768 ≤ a0 ∧ a0 ≤ 2147483647) ∨ (-9223372036854775808 ≤ a0 ∧ a0 ≤ -2147483649) ∨ (2147483648 ≤ a0 ∧ a0 ≤ 9223372036854775807)) with ⟨s, t⟩ | ⟨s, t⟩ | ⟨s, t⟩ | ⟨s, t⟩ | ⟨s, t⟩ | ⟨s, t⟩ | ⟨s, t⟩
    · exact t_a_d a0 a1 w s t p q hu
    · exact t_b0_d a0 a1 w s t p q hu
    · exact t_b1_d a0 a1 w s t p q hu
    · exact t_c0_d a0 a1 w s t p q hu
    · exact t_c1_d a0 a1 w s t p q hu
    · exact t_d0_d a0 a1 w s t p q hu
    · exact t_d1_d a0 a1 w s t p q hu
end Go.Proofs.YtjhflbfpdgciiaaFmt.fnToIntIntegerKindsAgree
