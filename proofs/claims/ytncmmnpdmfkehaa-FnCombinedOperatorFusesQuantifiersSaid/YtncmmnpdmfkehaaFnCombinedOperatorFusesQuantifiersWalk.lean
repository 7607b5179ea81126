/- For all strings fn, op and slices of bools ps, qs the law FnCombinedOperatorFusesQuantifiers returns true and writes nothing that was there. Conditions: none. -/
import Derived.Test.YtncmmnpdmfkehaaFuseA
import Derived.Deep.QuietTactic
import Derived.BigQuiet
namespace Go.Proofs.Ytncmmnpdmfkehaa.fnCombinedOperatorFusesQuantifiers
open Go.RowKit Go.Proofs.Ytncmmnpdmfkehaa

theorem cut28 (a : Option Addr) (len cap n : Nat) (h : n ≤ cap) (w : World) : (Instr.slice 28 (.slice a len cap) none (some (.int .i64 (n : Int))) none).run Try.prog w = .ok (.slice a n cap) w := by
  have hs : (sizeOf (Try.prog.elem 28)).run Try.prog w = .ok 1 w := by kernel_rfl
  rw [run_slice_h (P := Try.prog) w 28 a len cap (by kernel_rfl) .i64 n (by omega) (by omega), hs]
  have ea : a.map (·.add (0 * 1)) = a := by
    cases a with
    | none => rfl
    | some x => simp [Addr.add]
  simp only [Result.andThen, sliced, Int.toNat_natCast, ea, ite_self, Nat.sub_zero]
theorem cut28' (a : Option Addr) (len cap n : Nat) (h : n ≤ cap) (w : World) : (Instr.sliceAt 28 (.slice a len cap) none (some (.int .i64 (n : Int))) none).run Try.prog w = .ok (.slice a n cap) w := by
  rw [run_sliceAt_slice (P := Try.prog) w 28 _ _ _ _ (by kernel_rfl)]
  exact cut28 a len cap n h w

/-- the fused row behind k rounds -/
def Fused (C : Bool → Bool → Bool) (P R : Nat → Bool) (k : Nat) : Nat → Value := fun i => if i < k then .bool (C (P i) (R i)) else .bool false

def Quant (fn : ByteArray) (Q : (Nat → Bool) → Nat → Bool) : Prop := ∀ (a : Option Addr) (b off n cap : Nat) (B : Nat → Bool) (w : World), (0 < n → a = some ⟨b, off, none⟩) → (∀ i, i < n → w.cell? ⟨b, off + i, none⟩ = some (.bool (B i))) → n ≤ 65536 →
    Calls Try.prog 14 #[.string fn, .slice a n cap] w fun e w' => e = .returned (.tuple #[.bool (Q B n), .bool true]) ∧ w = w'
def Conn (op : ByteArray) (C : Bool → Bool → Bool) : Prop := ∀ (x y : Bool) (w : World), Calls Try.prog 15 #[.string op, .bool x, .bool y] w fun e w' => e = .returned (.tuple #[.bool (C x y), .bool true]) ∧ w = w'

set_option maxRecDepth 100000 in
set_option maxHeartbeats 4000000 in
theorem accepted (a0 a1 res : ByteArray) (s2 s3 : Option Addr) (n2 n3 c2 c3 : Nat) (P R : Nat → Bool) (w : World) (h0 : a0.size ≤ 4096) (h1 : a1.size ≤ 4096) (h2 : n2 ≤ 65536) (h3 : n3 ≤ 65536)
    (p2 : Seen w s2 n2 c2 P) (p3 : Seen w s3 n3 c3 R) (Q : (Nat → Bool) → Nat → Bool) (C1 C2 : Bool → Bool → Bool) (hk : Comb a0 a1 res true) (hq : Quant a0 Q) (hc1 : Conn a1 C1) (hc2 : Conn res C2)
    (hf : ∀ n, C1 (Q P n) (Q R n) = Q (fun i => C2 (P i) (R i)) n) :
    Calls Try.prog 5 #[.string a0, .string a1, .slice s2 n2 c2, .slice s3 n3 c3] w fun e w' => e = .returned (.bool true) ∧ Below w.heap.size w w' := by
  have P2 := Lib.hid p2
  have P3 := Lib.hid p3
  have HF := Lib.hid hf
  clear p2 p3 hf
  have hmk := fun (N : Nat) (h : N ≤ 65536) => run_make_row' (P := Try.prog) 28 4 (.bool false) 1 Try.underlying28 info4 rfl .i64 .i64 N (by omega) (by omega)
  have HMK := Lib.hid hmk
  clear hmk
  have z1 : decide ((1048576 : Int) < (a0.size : Int) + (a1.size : Int) + (n2 : Int) + (n3 : Int)) = false := by simp; omega
  have z2 : decide ((4096 : Int) < (a0.size : Int)) = false := by simp; omega
  have z3 : decide ((4096 : Int) < (a1.size : Int)) = false := by simp; omega
  have z4 : decide ((65536 : Int) < (n2 : Int)) = false := by simp; omega
  have z5 : decide ((65536 : Int) < (n3 : Int)) = false := by simp; omega
  by_cases hlt : n3 < n2
  · have hN2 : n3 ≤ n2 := by omega
    have hN3 : n3 ≤ n3 := by omega
    go_enter Try.func5, Try.ntmps5
    go_wp2_with (first | (go_at_call 7; refine (hk _).mono ?_; rintro e w1 ⟨rfl, rfl⟩) | (go_at_call 12; go_in))
    refine (clone_any s2 n2 c2 P _ P2.out h2).mono ?_
    rintro e w1 ⟨r2, d2, b2, rfl, rfl, B1, A2, C2'⟩
    have HB1 := Lib.hid B1
    have P3' := Lib.hid (P3.out.later B1)
    have HA2 := Lib.hid A2
    have HC2 := Lib.hid C2'
    clear B1 A2 C2'
    go_wp2_with fail
    refine (clone_any s3 n3 c3 R _ P3'.out h3).mono ?_
    rintro e w2 ⟨r3, d3, b3, rfl, rfl, B2, A3, C3⟩
    have HB2 := Lib.hid B2
    have HA3 := Lib.hid A3
    have HC3 := Lib.hid C3
    have HC2' := Lib.hid (show ∀ i, i < n2 → w2.cell? ⟨b2, i, none⟩ = some (.bool (P i)) from fun i hi => by
      rw [B2.cell (p := ⟨b2, i, none⟩) (World.block_lt_of_cell? _ _ (HC2.out i hi))]; exact HC2.out i hi)
    have BW := Lib.hid (HB1.out.trans (B2.mono HB1.out.size))
    clear B2 A3 C3
    have s2a := cut28 r2 n2 n2 n3 hN2
    have s2b := cut28' r2 n2 n2 n3 hN2
    have s3a := cut28 r3 n3 n3 n3 hN3
    have s3b := cut28' r3 n3 n3 n3 hN3
    go_wp2_with fail
    refine (hq r2 b2 0 n3 n2 P _ (fun h => HA2.out (by omega)) (fun i hi => by rw [Nat.zero_add]; exact HC2'.out i (by omega)) (by omega)).mono ?_
    rintro e wq ⟨rfl, rfl⟩
    go_wp2_with fail
    refine (hq r3 b3 0 n3 n3 R _ (fun h => HA3.out (by omega)) (fun i hi => by rw [Nat.zero_add]; exact HC3.out i (by omega)) (by omega)).mono ?_
    rintro e wq ⟨rfl, rfl⟩
    go_wp2_with fail
    refine (hc1 _ _ _).mono ?_
    rintro e wq ⟨rfl, rfl⟩
    have hmk := HMK.out n3 (by omega)
    clear s2a s2b s3a s3b
    go_wp2_with fail
    have BA := Lib.hid (Below.refl w2.heap.size w2)
    go_loopw [19] (fun i wr => ∃ k : Nat, k ≤ n3 ∧ i = .int .i64 k ∧ Below w2.heap.size w2 wr ∧ wr.rowIs w2.heap.size 4 n3 (Fused C2 P R k)) (fun i _ => n3 - (intOf i).toNat)
    case atStart =>
      refine ⟨0, Nat.zero_le _, rfl, BA.out.alloc (Nat.le_refl _) _, ?_⟩
      exact (World.rowIs_made w2 (.bool false) n3 4).congr (fun i _ => by simp [Fused])
    case round =>
      obtain ⟨k, hk', rfl, hb, hrow⟩ := hrel
      clear hmk
      by_cases hin : k < n3
      · obtain rfl := HA2.out (by omega)
        obtain rfl := HA3.out (by omega)
        have e2 := HC2'.out k (by omega)
        have e3 := HC3.out k (by omega)
        have l2 : wr.cell? ⟨b2, k, none⟩ = some (.bool (P k)) := by rw [hb.cell (p := ⟨b2, k, none⟩) (World.block_lt_of_cell? _ _ e2)]; exact e2
        have l3 : wr.cell? ⟨b3, k, none⟩ = some (.bool (R k)) := by rw [hb.cell (p := ⟨b3, k, none⟩) (World.block_lt_of_cell? _ _ e3)]; exact e3
        have hst : wr.cell? ⟨w2.heap.size, k, none⟩ = some (.bool false) := by rw [hrow.cell hin]; simp [Fused]
        have hfr : wr.frozen? ⟨w2.heap.size, k, none⟩ = false := hrow.frozen k
        have i2 : (k : Int) < (n2 : Int) := by omega
        have i3 : (k : Int) < (n3 : Int) := by omega
        have HR := Lib.hid hrow
        have HW := Lib.hid hb
        clear hrow hb e2 e3
        go_wp2_with fail
        go_quiet ((go_at_call 15; exact Calls.quiet_of_same ((hc2 _ _ _).mono fun _ _ h => ⟨h.1, h.2.symm⟩)))
        go_wp2_with fail
        go_roundw
        case rel =>
          refine ⟨k + 1, by omega, by go_num, (below_drewN HW.out _).setCell (Nat.le_refl _) _, ?_⟩
          refine (((HR.out.of_block (w' := wr.drewN _) rfl).set k (.bool (C2 (P k) (R k)))).congr (fun i hi => ?_))
          unfold Fused
          by_cases e : i = k
          · subst e; simp
          · by_cases e2 : i < k
            · rw [if_neg e, if_pos e2, if_pos (by omega)]
            · rw [if_neg e, if_neg e2, if_neg (by omega)]
        case measure => simp [intOf]; omega
      · obtain rfl : k = n3 := by omega
        have HR := Lib.hid hrow
        have HW := Lib.hid hb
        clear hrow hb
        have hfin : (C1 (Q P k) (Q R k) == Q (fun i => C2 (P i) (R i)) k) = true := by rw [HF.out]; simp
        have BF := Lib.hid (BW.out.trans (HW.out.mono BW.out.size))
        go_wp2_with fail
        refine (hq (some ⟨w2.heap.size, 0, none⟩) w2.heap.size 0 k k (fun i => C2 (P i) (R i)) _ (fun _ => rfl) (fun i hi => by rw [Nat.zero_add, HR.out.cell hi]; simp [Fused, hi]) (by omega)).mono ?_
        rintro e wq ⟨rfl, rfl⟩
        go_wp2_with fail
        go_ret
        exact ⟨rfl, BF.out⟩
  · have hN2 : n2 ≤ n2 := by omega
    have hN3 : n2 ≤ n3 := by omega
    go_enter Try.func5, Try.ntmps5
    go_wp2_with (first | (go_at_call 7; refine (hk _).mono ?_; rintro e w1 ⟨rfl, rfl⟩) | (go_at_call 12; go_in))
    refine (clone_any s2 n2 c2 P _ P2.out h2).mono ?_
    rintro e w1 ⟨r2, d2, b2, rfl, rfl, B1, A2, C2'⟩
    have HB1 := Lib.hid B1
    have P3' := Lib.hid (P3.out.later B1)
    have HA2 := Lib.hid A2
    have HC2 := Lib.hid C2'
    clear B1 A2 C2'
    go_wp2_with fail
    refine (clone_any s3 n3 c3 R _ P3'.out h3).mono ?_
    rintro e w2 ⟨r3, d3, b3, rfl, rfl, B2, A3, C3⟩
    have HB2 := Lib.hid B2
    have HA3 := Lib.hid A3
    have HC3 := Lib.hid C3
    have HC2' := Lib.hid (show ∀ i, i < n2 → w2.cell? ⟨b2, i, none⟩ = some (.bool (P i)) from fun i hi => by
      rw [B2.cell (p := ⟨b2, i, none⟩) (World.block_lt_of_cell? _ _ (HC2.out i hi))]; exact HC2.out i hi)
    have BW := Lib.hid (HB1.out.trans (B2.mono HB1.out.size))
    clear B2 A3 C3
    have s2a := cut28 r2 n2 n2 n2 hN2
    have s2b := cut28' r2 n2 n2 n2 hN2
    have s3a := cut28 r3 n3 n3 n2 hN3
    have s3b := cut28' r3 n3 n3 n2 hN3
    go_wp2_with fail
    refine (hq r2 b2 0 n2 n2 P _ (fun h => HA2.out (by omega)) (fun i hi => by rw [Nat.zero_add]; exact HC2'.out i (by omega)) (by omega)).mono ?_
    rintro e wq ⟨rfl, rfl⟩
    go_wp2_with fail
    refine (hq r3 b3 0 n2 n3 R _ (fun h => HA3.out (by omega)) (fun i hi => by rw [Nat.zero_add]; exact HC3.out i (by omega)) (by omega)).mono ?_
    rintro e wq ⟨rfl, rfl⟩
    go_wp2_with fail
    refine (hc1 _ _ _).mono ?_
    rintro e wq ⟨rfl, rfl⟩
    have hmk := HMK.out n2 (by omega)
    clear s2a s2b s3a s3b
    go_wp2_with fail
    have BA := Lib.hid (Below.refl w2.heap.size w2)
    go_loopw [19] (fun i wr => ∃ k : Nat, k ≤ n2 ∧ i = .int .i64 k ∧ Below w2.heap.size w2 wr ∧ wr.rowIs w2.heap.size 4 n2 (Fused C2 P R k)) (fun i _ => n2 - (intOf i).toNat)
    case atStart =>
      refine ⟨0, Nat.zero_le _, rfl, BA.out.alloc (Nat.le_refl _) _, ?_⟩
      exact (World.rowIs_made w2 (.bool false) n2 4).congr (fun i _ => by simp [Fused])
    case round =>
      obtain ⟨k, hk', rfl, hb, hrow⟩ := hrel
      clear hmk
      by_cases hin : k < n2
      · obtain rfl := HA2.out (by omega)
        obtain rfl := HA3.out (by omega)
        have e2 := HC2'.out k (by omega)
        have e3 := HC3.out k (by omega)
        have l2 : wr.cell? ⟨b2, k, none⟩ = some (.bool (P k)) := by rw [hb.cell (p := ⟨b2, k, none⟩) (World.block_lt_of_cell? _ _ e2)]; exact e2
        have l3 : wr.cell? ⟨b3, k, none⟩ = some (.bool (R k)) := by rw [hb.cell (p := ⟨b3, k, none⟩) (World.block_lt_of_cell? _ _ e3)]; exact e3
        have hst : wr.cell? ⟨w2.heap.size, k, none⟩ = some (.bool false) := by rw [hrow.cell hin]; simp [Fused]
        have hfr : wr.frozen? ⟨w2.heap.size, k, none⟩ = false := hrow.frozen k
        have i2 : (k : Int) < (n2 : Int) := by omega
        have i3 : (k : Int) < (n3 : Int) := by omega
        have HR := Lib.hid hrow
        have HW := Lib.hid hb
        clear hrow hb e2 e3
        go_wp2_with fail
        go_quiet ((go_at_call 15; exact Calls.quiet_of_same ((hc2 _ _ _).mono fun _ _ h => ⟨h.1, h.2.symm⟩)))
        go_wp2_with fail
        go_roundw
        case rel =>
          refine ⟨k + 1, by omega, by go_num, (below_drewN HW.out _).setCell (Nat.le_refl _) _, ?_⟩
          refine (((HR.out.of_block (w' := wr.drewN _) rfl).set k (.bool (C2 (P k) (R k)))).congr (fun i hi => ?_))
          unfold Fused
          by_cases e : i = k
          · subst e; simp
          · by_cases e2 : i < k
            · rw [if_neg e, if_pos e2, if_pos (by omega)]
            · rw [if_neg e, if_neg e2, if_neg (by omega)]
        case measure => simp [intOf]; omega
      · obtain rfl : k = n2 := by omega
        have HR := Lib.hid hrow
        have HW := Lib.hid hb
        clear hrow hb
        have hfin : (C1 (Q P k) (Q R k) == Q (fun i => C2 (P i) (R i)) k) = true := by rw [HF.out]; simp
        have BF := Lib.hid (BW.out.trans (HW.out.mono BW.out.size))
        go_wp2_with fail
        refine (hq (some ⟨w2.heap.size, 0, none⟩) w2.heap.size 0 k k (fun i => C2 (P i) (R i)) _ (fun _ => rfl) (fun i hi => by rw [Nat.zero_add, HR.out.cell hi]; simp [Fused, hi]) (by omega)).mono ?_
        rintro e wq ⟨rfl, rfl⟩
        go_wp2_with fail
        go_ret
        exact ⟨rfl, BF.out⟩

theorem len_le {w : World} {a : Option Addr} {len cap : Nat} {B : Nat → Bool} (h : IsBools w a len cap B) : len ≤ maxLen := by
  rcases h with ⟨_, rfl, _⟩ | ⟨x, _, hl, hm, _⟩
  · exact Nat.zero_le _
  · omega

theorem walk (a0 a1 : ByteArray) (s2 : Option Addr) (n2 c2 : Nat) (z2 : Nat → Bool) (s3 : Option Addr) (n3 c3 : Nat) (z3 : Nat → Bool) (w : World) (w0 : a0.size ≤ maxLen) (w1 : a1.size ≤ maxLen) (w2 : IsBools w s2 n2 c2 z2) (w3 : IsBools w s3 n3 c3 z3) :
    Calls Try.prog 5 #[.string a0, .string a1, .slice s2 n2 c2, .slice s3 n3 c3] w fun e w' => e = .returned (.bool true) ∧ Below w.heap.size w w' := by
  by_cases h : 4096 < a0.size ∨ 4096 < a1.size ∨ 65536 < n2 ∨ 65536 < n3
  · exact big a0 a1 s2 s3 n2 n3 c2 c3 w w0 w1 (len_le w2) (len_le w3) h
  have l0 : a0.size ≤ 4096 := by omega
  have l1 : a1.size ≤ 4096 := by omega
  have l2 : n2 ≤ 65536 := by omega
  have l3 : n3 ≤ 65536 := by omega
  have no := refused a0 a1 s2 s3 n2 n3 c2 c3 w l0 l1 l2 l3
  have yes := fun res => accepted a0 a1 res s2 s3 n2 n3 c2 c3 z2 z3 w l0 l1 l2 l3 (seen_of w2) (seen_of w3)
  by_cases f_all : a0.toList = [97, 108, 108]
  · obtain rfl := str_ext f_all
    by_cases o_and : a1.toList = [97, 110, 100]
    · obtain rfl := str_ext o_and
      exact yes _ allN (fun x y => x && y) (fun x y => x && y) k_all_and (fun a b off n cap B w => q_all a b off n cap B w) (fun x y w => c_and x y w) (fun x y w => c_and x y w) (fun n => (allN_and z2 z3 n).symm)
    by_cases o_amp : a1.toList = [38, 38]
    · obtain rfl := str_ext o_amp
      exact yes _ allN (fun x y => x && y) (fun x y => x && y) k_all_amp (fun a b off n cap B w => q_all a b off n cap B w) (fun x y w => c_amp x y w) (fun x y w => c_amp x y w) (fun n => (allN_and z2 z3 n).symm)
    exact no (k_all_no a1 o_and o_amp)
  by_cases f_any : a0.toList = [97, 110, 121]
  · obtain rfl := str_ext f_any
    by_cases o_or : a1.toList = [111, 114]
    · obtain rfl := str_ext o_or
      exact yes _ anyN (fun x y => x || y) (fun x y => x || y) k_any_or (fun a b off n cap B w => q_any a b off n cap B w) (fun x y w => c_or x y w) (fun x y w => c_or x y w) (fun n => (anyN_or z2 z3 n).symm)
    by_cases o_bar : a1.toList = [124, 124]
    · obtain rfl := str_ext o_bar
      exact yes _ anyN (fun x y => x || y) (fun x y => x || y) k_any_bar (fun a b off n cap B w => q_any a b off n cap B w) (fun x y w => c_bar x y w) (fun x y w => c_bar x y w) (fun n => (anyN_or z2 z3 n).symm)
    exact no (k_any_no a1 o_or o_bar)
  by_cases f_none : a0.toList = [110, 111, 110, 101]
  · obtain rfl := str_ext f_none
    by_cases o_and : a1.toList = [97, 110, 100]
    · obtain rfl := str_ext o_and
      exact yes _ (fun B n => !anyN B n) (fun x y => x && y) (fun x y => x || y) k_none_and (fun a b off n cap B w => q_none a b off n cap B w) (fun x y w => c_and x y w) (fun x y w => c_or x y w) (fun n => by show (!anyN z2 n && !anyN z3 n) = !anyN (fun i => z2 i || z3 i) n; rw [anyN_or]; cases anyN z2 n <;> cases anyN z3 n <;> rfl)
    by_cases o_amp : a1.toList = [38, 38]
    · obtain rfl := str_ext o_amp
      exact yes _ (fun B n => !anyN B n) (fun x y => x && y) (fun x y => x || y) k_none_amp (fun a b off n cap B w => q_none a b off n cap B w) (fun x y w => c_amp x y w) (fun x y w => c_bar x y w) (fun n => by show (!anyN z2 n && !anyN z3 n) = !anyN (fun i => z2 i || z3 i) n; rw [anyN_or]; cases anyN z2 n <;> cases anyN z3 n <;> rfl)
    exact no (k_none_no a1 o_and o_amp)
  exact no (k_no a0 a1 f_all f_any f_none)
end Go.Proofs.Ytncmmnpdmfkehaa.fnCombinedOperatorFusesQuantifiers
