/- What the law's own renderer zzItoa gives of an int64: its decimal text; it writes nothing that was there. No statement is proved here. -/
import Derived.Test.YtncmmnpdmfkehaaFmtTexts
import Derived.Lib.ItoaNum
import Derived.Laws.Bits64
import Derived.Laws.IdiomStrings
import Derived.LoopTactic
namespace Go.Proofs.YtncmmnpdmfkehaaFmt
open Go.RowKit Go.Lib

/-! ### the two's complement of a negative number -/
theorem not_nat (u : Nat) (h : u < 18446744073709551616) : 18446744073709551615 ^^^ u = 18446744073709551615 - u := by
  have e : (BitVec.ofNat 64 u ^^^ BitVec.allOnes 64).toNat = (~~~BitVec.ofNat 64 u).toNat := by rw [BitVec.xor_allOnes]
  rw [BitVec.toNat_xor, BitVec.toNat_not, BitVec.toNat_ofNat, BitVec.toNat_allOnes] at e
  rw [Nat.mod_eq_of_lt (by simpa using h)] at e
  rw [Nat.xor_comm]
  simpa using e

theorem neg_bits (n : Int) (h0 : -9223372036854775808 ≤ n) (h1 : n < 0) : IntKind.u64.wrap (bits BinOp.xor IntKind.u64 IntKind.u64.max (IntKind.u64.wrap n) + 1) = ((n.natAbs : Nat) : Int) := by
  have e1 : IntKind.u64.wrap n = (((18446744073709551616 - n.natAbs : Nat)) : Int) := by
    rw [IntKind.wrap_u64]; omega
  have e2 : IntKind.u64.max = ((18446744073709551615 : Nat) : Int) := by decide
  rw [e1, e2, bits_xor_u64_nat _ _ (by omega) (by omega), not_nat _ (by omega), IntKind.wrap_u64]
  omega

/-! ### what the loop holds -/
structure Rel (M B : Nat) (w : World) (U I : Nat) (ds : List UInt8) (wr : World) : Prop where
  more : U ≠ 0 → decDigits U ++ ds = decDigits M
  done : U = 0 → ds = decDigits M
  le : U ≤ M
  len : I + ds.length = 20
  bel : Below B w wr
  cell : ∀ j, j < 20 → ∃ x, wr.cell? ⟨B, j, none⟩ = some (.int .u8 x)
  free : ∀ j, j < 20 → wr.frozen? ⟨B, j, none⟩ = false
  digit : ∀ j (hj : j < ds.length), wr.cell? ⟨B, I + j, none⟩ = some (.int .u8 (ds[j].toNat : Int))

theorem digits_pos (u : Nat) : 0 < (decDigits u).length := by
  rw [decDigits]; split <;> simp

theorem nd_le : ∀ (k u : Nat), u < 10 ^ (k + 1) → nDigits u ≤ k + 1
  | 0, u, h => by rw [nDigits_small (by simpa using h)]; exact Nat.le_refl _
  | k + 1, u, h => by
    by_cases hu : u < 10
    · rw [nDigits_small hu]; omega
    · rw [nDigits_big hu]
      have := nd_le k (u / 10) (by rw [Nat.pow_succ] at h; omega)
      omega

theorem digits_le (M : Nat) (h : M < 18446744073709551616) : (decDigits M).length ≤ 20 := by
  rw [decDigits_length]
  exact nd_le 19 M (by omega)

theorem start (M : Nat) (h0 : M ≠ 0) (w : World) (o : Obj)
    (ho : o = .cells #[.int .u8 0, .int .u8 0, .int .u8 0, .int .u8 0, .int .u8 0, .int .u8 0, .int .u8 0, .int .u8 0, .int .u8 0, .int .u8 0, .int .u8 0, .int .u8 0, .int .u8 0, .int .u8 0, .int .u8 0, .int .u8 0, .int .u8 0, .int .u8 0, .int .u8 0, .int .u8 0] 29) :
    Rel M w.heap.size w M 20 [] (w.alloc o) := by
  subst ho
  refine ⟨fun _ => by simp, fun h => absurd h h0, Nat.le_refl _, rfl, (Below.refl _ _).alloc (Nat.le_refl _) _, ?_, ?_, fun j hj => by simp at hj⟩
  · intro j hj
    refine ⟨0, ?_⟩
    rw [World.cell?_alloc_new]
    rcases j with _ | _ | _ | _ | _ | _ | _ | _ | _ | _ | _ | _ | _ | _ | _ | _ | _ | _ | _ | _ | j
    all_goals first | rfl | omega
  · intro j hj
    exact World.frozen?_alloc_new _ _ _ _

/-- one round: the last digit is laid ahead of the others -/
theorem step {M B : Nat} {w wr : World} {U J : Nat} {ds : List UInt8} (R : Rel M B w U (J + 1) ds wr) (hU : 0 < U) (x : Int) (hx : x = 48 + (U : Int) % 10) :
    Rel M B w (U / 10) J (UInt8.ofNat (48 + U % 10) :: ds) (wr.setCell ⟨B, J, none⟩ (.int .u8 x)) := by
  have hlen := R.len
  have hd : decDigits U = if U < 10 then [UInt8.ofNat (48 + U)] else decDigits (U / 10) ++ [UInt8.ofNat (48 + U % 10)] := by
    rw [decDigits]; split <;> rfl
  have hm := R.more (by omega)
  obtain ⟨x0, hc0⟩ := R.cell J (by omega)
  refine ⟨?_, ?_, by have := R.le; omega, by simp; omega, R.bel.setCell (Nat.le_refl _) _, ?_, ?_, ?_⟩
  · intro hne
    rw [if_neg (by omega)] at hd
    rw [← hm, hd]; simp
  · intro hz
    rw [if_pos (by omega)] at hd
    rw [← hm, hd, show U % 10 = U by omega]; rfl
  · intro j hj
    by_cases e : j = J
    · subst e; exact ⟨x, World.cell?_setCell_same _ _ _ hc0⟩
    · obtain ⟨y, hy⟩ := R.cell j hj
      exact ⟨y, by rw [World.cell?_setCell_other _ _ _ _ (by intro he; cases he; omega)]; exact hy⟩
  · intro j hj
    rw [World.frozen?_setCell]; exact R.free j hj
  · intro j hj
    cases j with
    | zero =>
      rw [Nat.add_zero, World.cell?_setCell_same _ _ _ hc0, hx]
      have : (UInt8.ofNat (48 + U % 10)).toNat = 48 + U % 10 := by
        rw [UInt8.toNat_ofNat']; omega
      simp only [List.getElem_cons_zero, this]
      congr 2
    | succ j =>
      have := R.digit j (by simpa using hj)
      rw [World.cell?_setCell_other _ _ _ _ (by intro he; cases he), show J + (j + 1) = J + 1 + j by omega, this]
      rfl


theorem minus (ds : List UInt8) : (⟨#[45]⟩ ++ ⟨ds.toArray⟩ : ByteArray) = ⟨(45 :: ds).toArray⟩ := by
  apply ByteArray.ext
  rw [ByteArray.data_append]
  simp
theorem len29 : Tryf.prog.arrayLen 29 = 20 := by kernel_rfl
theorem size29 (w : World) : (sizeOf (Tryf.prog.elem 29)).run Tryf.prog w = .ok 1 w := by kernel_rfl
theorem cut29 (b I : Nat) (h : I < 20) (w : World) : (Instr.sliceAt 29 (.pointer (some ⟨b, 0, none⟩)) (some (.int .i64 (I : Int))) none none).run Tryf.prog w = .ok (.slice (some ⟨b, I, none⟩) (20 - I) (20 - I)) w := by
  rw [run_sliceAt_array_l (P := Tryf.prog) w 29 ⟨b, 0, none⟩ (by kernel_rfl) .i64 I (by omega) (by rw [len29]; omega), size29]
  have ea : (⟨b, 0, none⟩ : Addr).add (I * 1) = ⟨b, I, none⟩ := by unfold Addr.add; split <;> simp_all
  have hne : ¬ 20 = I := by omega
  simp only [Result.andThen, slicedAt, len29, Int.toNat_natCast, if_neg hne, ea]

set_option maxHeartbeats 1000000 in
theorem itoa_pos (n : Int) (w : World) (h0 : 0 < n) (h1 : n ≤ 9223372036854775807) :
    Calls Tryf.prog 6 #[.int .i64 n] w fun e w' => e = .returned (.string ⟨(decDigits n.natAbs).toArray⟩) ∧ Below w.heap.size w w' := by
  obtain ⟨M, rfl⟩ := Int.eq_ofNat_of_zero_le (Int.le_of_lt h0)
  have hz : ((M : Int) == 0) = false := by rw [beq_eq_false_iff_ne]; omega
  have hn : decide ((M : Int) < 0) = false := by simp
  have hM : M ≠ 0 := by omega
  have hs := Lib.hid (start M hM w _ rfl)
  go_enter Tryf.func6, Tryf.ntmps6
  go_wp2
  go_loopw [4, 6] (fun u i wr => ∃ (U I : Nat) (ds : List UInt8), u = .int .u64 U ∧ i = .int .i64 I ∧ Rel M w.heap.size w U I ds wr) (fun u _ _ => (intOf u).toNat)
  case atStart => exact ⟨M, 20, [], rfl, rfl, hs.out⟩
  case round =>
    obtain ⟨U, I, ds, rfl, rfl, R⟩ := hrel
    have hlen := R.len
    have hle := R.le
    by_cases hU : 0 < U
    · have hk : ds.length < 20 := by
        have e := R.more (by omega)
        have l1 := digits_pos U
        have l2 := digits_le M (by omega)
        have l3 := congrArg List.length e
        rw [List.length_append] at l3
        omega
      obtain ⟨J, rfl⟩ : ∃ J, I = J + 1 := ⟨I - 1, by omega⟩
      obtain ⟨x0, hc0⟩ := R.cell J (by omega)
      have hf0 := R.free J (by omega)
      have HR := Lib.hid R
      clear R
      go_wp2
      go_roundw
      case rel => exact ⟨U / 10, J, _, by go_num, by go_num, step HR.out hU _ rfl⟩
      case measure => simp [intOf]; omega
    · obtain rfl : U = 0 := by omega
      have hds := R.done rfl
      have hl := digits_pos M
      have hpos : I < 20 := by rw [← hds] at hl; omega
      have hconv : ∀ cap, (convert 30 9 (.slice (some ⟨w.heap.size, I, none⟩) (20 - I) cap)).run Tryf.prog wr = .ok (.string ⟨ds.toArray⟩) wr := by
        intro cap
        have := run_convert_bytes_back (P := Tryf.prog) wr 30 9 5 ⟨w.heap.size, I, none⟩ cap ds Tryf.underlying30 Tryf.underlying5 Tryf.underlying9 (fun j hj => by
          have := R.digit j hj
          have ea : (⟨w.heap.size, I, none⟩ : Addr).add j = ⟨w.heap.size, I + j, none⟩ := by unfold Addr.add; split <;> simp_all
          rw [ea]; exact this)
        rw [show 20 - I = ds.length by omega]; exact this
      have hcut := cut29 w.heap.size I hpos
      have HB := Lib.hid R.bel
      have HD := Lib.hid hds
      clear R hds
      go_wp2
      go_ret
      exact ⟨by rw [HD.out]; rfl, HB.out⟩
set_option maxHeartbeats 1000000 in
theorem itoa_neg (n : Int) (M : Nat) (w : World) (h0 : -9223372036854775808 ≤ n) (h1 : n < 0) (hM : M ≠ 0) (hM1 : M < 18446744073709551616) (hb : IntKind.u64.wrap (bits BinOp.xor IntKind.u64 IntKind.u64.max (IntKind.u64.wrap n) + 1) = (M : Int)) :
    Calls Tryf.prog 6 #[.int .i64 n] w fun e w' => e = .returned (.string ⟨(45 :: decDigits M).toArray⟩) ∧ Below w.heap.size w w' := by
  have hz : (n == 0) = false := by rw [beq_eq_false_iff_ne]; omega
  have hs := Lib.hid (start M hM w _ rfl)
  go_enter Tryf.func6, Tryf.ntmps6
  go_wp2
  go_loopw [4, 6] (fun u i wr => ∃ (U I : Nat) (ds : List UInt8), u = .int .u64 U ∧ i = .int .i64 I ∧ Rel M w.heap.size w U I ds wr) (fun u _ _ => (intOf u).toNat)
  case atStart => exact ⟨M, 20, [], rfl, rfl, hs.out⟩
  case round =>
    obtain ⟨U, I, ds, rfl, rfl, R⟩ := hrel
    have hlen := R.len
    have hle := R.le
    by_cases hU : 0 < U
    · have hk : ds.length < 20 := by
        have e := R.more (by omega)
        have l1 := digits_pos U
        have l2 := digits_le M (by omega)
        have l3 := congrArg List.length e
        rw [List.length_append] at l3
        omega
      obtain ⟨J, rfl⟩ : ∃ J, I = J + 1 := ⟨I - 1, by omega⟩
      obtain ⟨x0, hc0⟩ := R.cell J (by omega)
      have hf0 := R.free J (by omega)
      have HR := Lib.hid R
      clear R
      go_wp2
      go_roundw
      case rel => exact ⟨U / 10, J, _, by go_num, by go_num, step HR.out hU _ rfl⟩
      case measure => simp [intOf]; omega
    · obtain rfl : U = 0 := by omega
      have hds := R.done rfl
      have hl := digits_pos M
      have hpos : I < 20 := by rw [← hds] at hl; omega
      have hconv : ∀ cap, (convert 30 9 (.slice (some ⟨w.heap.size, I, none⟩) (20 - I) cap)).run Tryf.prog wr = .ok (.string ⟨ds.toArray⟩) wr := by
        intro cap
        have := run_convert_bytes_back (P := Tryf.prog) wr 30 9 5 ⟨w.heap.size, I, none⟩ cap ds Tryf.underlying30 Tryf.underlying5 Tryf.underlying9 (fun j hj => by
          have := R.digit j hj
          have ea : (⟨w.heap.size, I, none⟩ : Addr).add j = ⟨w.heap.size, I + j, none⟩ := by unfold Addr.add; split <;> simp_all
          rw [ea]; exact this)
        rw [show 20 - I = ds.length by omega]; exact this
      have hcut := cut29 w.heap.size I hpos
      have HB := Lib.hid R.bel
      have HD := Lib.hid hds
      clear R hds
      go_wp2
      go_ret
      exact ⟨by rw [← HD.out, ← minus]; rfl, HB.out⟩

/-- THE RENDERER: for every int64 its decimal text. -/
theorem itoa_any (n : Int) (w : World) (h0 : -9223372036854775808 ≤ n) (h1 : n ≤ 9223372036854775807) :
    Calls Tryf.prog 6 #[.int .i64 n] w fun e w' => e = .returned (.string ⟨(Lib.itoa n).toArray⟩) ∧ Below w.heap.size w w' := by
  by_cases hz : n = 0
  · subst hz
    have e : Lib.itoa 0 = [48] := by decide +kernel
    rw [e]
    go_enter Tryf.func6, Tryf.ntmps6
    go_wp2
    go_ret
    exact ⟨rfl, Below.refl _ _⟩
  · by_cases hn : n < 0
    · have e : Lib.itoa n = 45 :: decDigits n.natAbs := by unfold Lib.itoa; rw [if_pos hn]
      rw [e]
      exact itoa_neg n n.natAbs w h0 hn (by omega) (by omega) (neg_bits n h0 hn)
    · have e : Lib.itoa n = decDigits n.natAbs := by unfold Lib.itoa; rw [if_neg hn]; congr 1; omega
      rw [e]
      exact itoa_pos n w (by omega) h1
end Go.Proofs.YtncmmnpdmfkehaaFmt
