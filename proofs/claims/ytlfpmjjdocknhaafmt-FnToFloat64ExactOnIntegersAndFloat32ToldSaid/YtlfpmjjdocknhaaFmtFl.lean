/- Plain facts on IEEE words: each word that is no NaN is a whole number of the format's least unit; order, nearest words, cuts toward zero. No program in sight. -/
import Ieee.Arith
namespace Fl
open Ieee

def sg (s : Bool) (n : Nat) : Int := if s then -(n : Int) else (n : Int)

/-- The magnitude of a rung, in units of the format's least place. -/
def V (f : Format) (r : Nat) : Nat := if r < f.binade then r else (f.binade + r % f.binade) * 2 ^ (r / f.binade - 1)

theorem binade_pos (f : Format) : 0 < f.binade := Nat.two_pow_pos _

theorem V_lo {f : Format} {r : Nat} (h : r < f.binade) : V f r = r := by simp [V, h]

theorem V_hi {f : Format} {q t : Nat} (h : t < f.binade) : V f ((q + 1) * f.binade + t) = (f.binade + t) * 2 ^ q := by
  have hb := binade_pos f
  have h1 : ¬ ((q + 1) * f.binade + t < f.binade) := by
    have : f.binade ≤ (q + 1) * f.binade := Nat.le_mul_of_pos_left _ (by omega)
    omega
  have h2 : ((q + 1) * f.binade + t) % f.binade = t := by
    rw [Nat.add_comm, Nat.add_mul_mod_self_right, Nat.mod_eq_of_lt h]
  have h3 : ((q + 1) * f.binade + t) / f.binade = q + 1 := by
    rw [Nat.add_comm, Nat.add_mul_div_right _ _ hb, Nat.div_eq_of_lt h]; omega
  simp [V, h1, h2, h3]

theorem rung_cases (f : Format) (r : Nat) : r < f.binade ∨ ∃ q t, t < f.binade ∧ r = (q + 1) * f.binade + t := by
  have hb := binade_pos f
  by_cases h : r < f.binade
  · exact .inl h
  · refine .inr ⟨r / f.binade - 1, r % f.binade, Nat.mod_lt _ hb, ?_⟩
    have h1 : 1 ≤ r / f.binade := (Nat.le_div_iff_mul_le hb).2 (by omega)
    have h2 : r / f.binade - 1 + 1 = r / f.binade := by omega
    rw [h2, Nat.mul_comm]; exact (Nat.div_add_mod r f.binade).symm

theorem V_succ (f : Format) (r : Nat) : V f r < V f (r + 1) := by
  have hb := binade_pos f
  rcases rung_cases f r with h | ⟨q, t, ht, rfl⟩
  · by_cases h1 : r + 1 < f.binade
    · rw [V_lo h, V_lo h1]; omega
    · have e : r + 1 = (0 + 1) * f.binade + 0 := by omega
      rw [V_lo h, e, V_hi hb]; simp; omega
  · have hp : 0 < 2 ^ q := Nat.two_pow_pos _
    by_cases h1 : t + 1 < f.binade
    · rw [V_hi ht, Nat.add_assoc, V_hi h1]
      exact Nat.mul_lt_mul_of_pos_right (by omega) hp
    · have e : (q + 1) * f.binade + t + 1 = (q + 1 + 1) * f.binade + 0 := by
        rw [Nat.succ_mul (q + 1)]; omega
      rw [V_hi ht, e, V_hi hb, Nat.pow_succ, Nat.mul_comm (2 ^ q) 2, ← Nat.mul_assoc]
      exact Nat.mul_lt_mul_of_pos_right (by omega) hp

theorem V_lt (f : Format) {r s : Nat} (h : r < s) : V f r < V f s := by
  induction s with
  | zero => omega
  | succ n ih =>
    by_cases e : r = n
    · subst e; exact V_succ f r
    · exact Nat.lt_trans (ih (by omega)) (V_succ f n)

theorem V_le (f : Format) {r s : Nat} (h : r ≤ s) : V f r ≤ V f s := by
  by_cases e : r = s
  · subst e; exact Nat.le_refl _
  · exact Nat.le_of_lt (V_lt f (by omega))

theorem V_inj (f : Format) {r s : Nat} (h : V f r = V f s) : r = s := by
  by_cases h1 : r < s
  · have := V_lt f h1; omega
  · by_cases h2 : s < r
    · have := V_lt f h2; omega
    · omega

/-! ### words -/
def rung (f : Format) (x : Nat) : Nat := x % f.signWeight
def negB (f : Format) (x : Nat) : Bool := x / f.signWeight % 2 == 1
/-- The number of a word, in least units (an infinity: as the rung above the greatest number). -/
def sv (f : Format) (x : Nat) : Int := sg (negB f x) (V f (rung f x))
/-- no NaN -/
def isNum (f : Format) (x : Nat) : Prop := rung f x ≤ f.infRung
/-- finite -/
def isFin (f : Format) (x : Nat) : Prop := rung f x < f.infRung

theorem isFin.num {f : Format} {x : Nat} (h : isFin f x) : isNum f x := Nat.le_of_lt h

theorem inf_lt_sw (f : Format) : f.infRung < f.signWeight := by
  have h : 0 < 2 ^ f.exponentBits := Nat.two_pow_pos _
  have hb := binade_pos f
  have e : f.infRung + f.binade = f.signWeight := by
    unfold Format.infRung Format.signWeight Format.binade
    rw [Nat.pow_add, ← Nat.succ_mul]
    exact congrArg (· * 2 ^ f.fractionBits) (by omega)
  omega

theorem rung_word (f : Format) (s : Bool) {r : Nat} (h : r < f.signWeight) : rung f (f.word s r) = r := by
  cases s
  · simp [rung, Format.word, Nat.mod_eq_of_lt h]
  · simp [rung, Format.word, Nat.mod_eq_of_lt h]

theorem neg_word (f : Format) (s : Bool) {r : Nat} (h : r < f.signWeight) : negB f (f.word s r) = s := by
  have hp : 0 < f.signWeight := by omega
  cases s
  · simp [negB, Format.word, Nat.div_eq_of_lt h]
  · simp only [negB, Format.word, if_true]
    rw [Nat.add_div_left _ hp, Nat.div_eq_of_lt h]; rfl

theorem sv_word (f : Format) (s : Bool) {r : Nat} (h : r ≤ f.infRung) : sv f (f.word s r) = sg s (V f r) := by
  have := inf_lt_sw f
  unfold sv
  rw [rung_word f s (by omega), neg_word f s (by omega)]

theorem num_word (f : Format) (s : Bool) {r : Nat} (h : r ≤ f.infRung) : isNum f (f.word s r) := by
  have := inf_lt_sw f
  unfold isNum
  rw [rung_word f s (by omega)]; exact h

theorem fin_word (f : Format) (s : Bool) {r : Nat} (h : r < f.infRung) : isFin f (f.word s r) := by
  have := inf_lt_sw f
  unfold isFin
  rw [rung_word f s (by omega)]; exact h

/-- A finite word, read: magnitude and place, and the same in least units. -/
theorem read_fin (f : Format) {x : Nat} (h : isFin f x) :
    ∃ m k : Nat, f.read x = .number (negB f x) m (f.leastPlace + k) ∧ m * 2 ^ k = V f (rung f x) ∧ m < 2 * f.binade := by
  have hb := binade_pos f
  unfold isFin at h
  unfold Format.read
  change ∃ m k : Nat, (if rung f x < f.binade then Datum.number (negB f x) (rung f x) f.leastPlace
    else if rung f x < f.infRung then .number (negB f x) (f.binade + rung f x % f.binade) (f.leastPlace + (rung f x / f.binade - 1 : Nat))
    else if rung f x = f.infRung then .infinity (negB f x) else .nan (negB f x) (rung f x - f.infRung)) = _ ∧ _
  by_cases h1 : rung f x < f.binade
  · exact ⟨rung f x, 0, by simp [h1], by simp [V, h1], by omega⟩
  · refine ⟨f.binade + rung f x % f.binade, rung f x / f.binade - 1, by simp [h1, h], by simp [V, h1], ?_⟩
    have := Nat.mod_lt (rung f x) hb
    omega

theorem read_inf (f : Format) (hi : f.binade ≤ f.infRung) {x : Nat} (h : rung f x = f.infRung) : f.read x = .infinity (negB f x) := by
  unfold Format.read
  change (if rung f x < f.binade then Datum.number (negB f x) (rung f x) f.leastPlace
    else if rung f x < f.infRung then .number (negB f x) (f.binade + rung f x % f.binade) (f.leastPlace + (rung f x / f.binade - 1 : Nat))
    else if rung f x = f.infRung then .infinity (negB f x) else .nan (negB f x) (rung f x - f.infRung)) = _
  rw [if_neg (by omega), if_neg (by omega), if_pos h]

theorem read_nan (f : Format) (hi : f.binade ≤ f.infRung) {x : Nat} (h : f.infRung < rung f x) : f.read x = .nan (negB f x) (rung f x - f.infRung) := by
  unfold Format.read
  change (if rung f x < f.binade then Datum.number (negB f x) (rung f x) f.leastPlace
    else if rung f x < f.infRung then .number (negB f x) (f.binade + rung f x % f.binade) (f.leastPlace + (rung f x / f.binade - 1 : Nat))
    else if rung f x = f.infRung then .infinity (negB f x) else .nan (negB f x) (rung f x - f.infRung)) = _
  rw [if_neg (by omega), if_neg (by omega), if_neg (by omega)]

theorem signed_eq (s : Bool) (m k : Nat) : signed s m k = sg s (m * 2 ^ k) := by
  unfold signed sg; rw [Nat.shiftLeft_eq]

theorem sg_mul (s : Bool) (a c : Nat) : sg s (a * c) = sg s a * (c : Int) := by
  cases s <;> simp [sg, Int.neg_mul]

theorem cmp_scale (a b : Int) (c : Nat) (hc : 0 < c) : compare (a * c) (b * c) = compare a b := by
  have hc' : (0 : Int) < c := by omega
  by_cases h1 : a < b
  · have h2 : a * c < b * c := Int.mul_lt_mul_of_pos_right h1 hc'
    rw [Int.compare_eq_lt.2 h1, Int.compare_eq_lt.2 h2]
  · by_cases h3 : a = b
    · subst h3; rw [Int.compare_eq_eq.2 rfl, Int.compare_eq_eq.2 rfl]
    · have h4 : b < a := by omega
      have h2 : b * c < a * c := Int.mul_lt_mul_of_pos_right h4 hc'
      rw [Int.compare_eq_gt.2 h4, Int.compare_eq_gt.2 h2]

theorem V_inf_pos (f : Format) (hi : f.binade ≤ f.infRung) : 0 < V f f.infRung := by
  have hb := binade_pos f
  have := V_lt f (r := 0) (s := f.infRung) (by omega)
  omega

theorem cmp_sg (s t : Bool) (a c : Nat) (ha : a < c) : compare (sg s c) (sg t a) = (if s then .lt else .gt) := by
  cases s <;> cases t <;> simp only [sg, if_true, if_false, Bool.false_eq_true]
  · exact Int.compare_eq_gt.2 (by omega)
  · exact Int.compare_eq_gt.2 (by omega)
  · exact Int.compare_eq_lt.2 (by omega)
  · exact Int.compare_eq_lt.2 (by omega)

theorem cmp_sg' (s t : Bool) (a c : Nat) (ha : a < c) : compare (sg t a) (sg s c) = (if s then .gt else .lt) := by
  cases s <;> cases t <;> simp only [sg, if_true, if_false, Bool.false_eq_true]
  · exact Int.compare_eq_lt.2 (by omega)
  · exact Int.compare_eq_lt.2 (by omega)
  · exact Int.compare_eq_gt.2 (by omega)
  · exact Int.compare_eq_gt.2 (by omega)

/-- THE ORDER of two words that are no NaN is that of their numbers. -/
theorem order_num (f : Format) (hi : f.binade ≤ f.infRung) {x y : Nat} (hx : isNum f x) (hy : isNum f y) :
    f.order x y = some (compare (sv f x) (sv f y)) := by
  unfold Format.order
  unfold isNum at hx hy
  by_cases h1 : rung f x < f.infRung
  · obtain ⟨m, i, e1, v1, _⟩ := read_fin f h1
    by_cases h2 : rung f y < f.infRung
    · obtain ⟨n, j, e2, v2, _⟩ := read_fin f h2
      rw [e1, e2]
      simp only [Datum.order, signed_eq]
      congr 1
      unfold sv
      rw [← v1, ← v2]
      by_cases hij : i ≤ j
      · have a1 : (f.leastPlace + (i : Int) - min (f.leastPlace + i) (f.leastPlace + j)).toNat = 0 := by omega
        have a2 : (f.leastPlace + (j : Int) - min (f.leastPlace + i) (f.leastPlace + j)).toNat = j - i := by omega
        have a3 : 2 ^ j = 2 ^ (j - i) * 2 ^ i := by rw [← Nat.pow_add]; congr 1; omega
        rw [a1, a2, a3, ← Nat.mul_assoc, sg_mul _ m (2 ^ i), sg_mul _ (n * 2 ^ (j - i)) (2 ^ i), cmp_scale _ _ _ (Nat.two_pow_pos _)]
        simp
      · have a1 : (f.leastPlace + (i : Int) - min (f.leastPlace + i) (f.leastPlace + j)).toNat = i - j := by omega
        have a2 : (f.leastPlace + (j : Int) - min (f.leastPlace + i) (f.leastPlace + j)).toNat = 0 := by omega
        have a3 : 2 ^ i = 2 ^ (i - j) * 2 ^ j := by rw [← Nat.pow_add]; congr 1; omega
        rw [a1, a2, a3, ← Nat.mul_assoc, sg_mul _ n (2 ^ j), sg_mul _ (m * 2 ^ (i - j)) (2 ^ j), cmp_scale _ _ _ (Nat.two_pow_pos _)]
        simp
    · have h2' : rung f y = f.infRung := by omega
      rw [e1, read_inf f hi h2']
      simp only [Datum.order, sv, h2']
      rw [cmp_sg' _ _ _ _ (V_lt f h1)]
  · have h1' : rung f x = f.infRung := by omega
    rw [read_inf f hi h1']
    by_cases h2 : rung f y < f.infRung
    · obtain ⟨n, j, e2, v2, _⟩ := read_fin f h2
      rw [e2]
      simp only [Datum.order, sv, h1']
      rw [cmp_sg _ _ _ _ (V_lt f h2)]
    · have h2' : rung f y = f.infRung := by omega
      rw [read_inf f hi h2']
      simp only [Datum.order, sv, h1', h2']
      have hp := V_inf_pos f hi
      congr 1
      cases negB f x <;> cases negB f y <;> simp only [sg, if_true, if_false, Bool.false_eq_true, Bool.toNat_true, Bool.toNat_false]
      · rw [Int.compare_eq_eq.2 rfl]; rfl
      · rw [Int.compare_eq_gt.2 (by omega)]; rfl
      · rw [Int.compare_eq_lt.2 (by omega)]; rfl
      · rw [Int.compare_eq_eq.2 rfl]; rfl

theorem order_nan_left (f : Format) (hi : f.binade ≤ f.infRung) {x y : Nat} (hx : ¬ isNum f x) : f.order x y = none := by
  unfold isNum at hx
  unfold Format.order
  rw [read_nan f hi (by omega)]; rfl

theorem order_nan_right (f : Format) (hi : f.binade ≤ f.infRung) {x y : Nat} (hy : ¬ isNum f y) : f.order x y = none := by
  unfold isNum at hy
  unfold Format.order
  rw [read_nan f hi (x := y) (by omega)]
  cases f.read x <;> rfl

theorem order_self (f : Format) (hi : f.binade ≤ f.infRung) (x : Nat) : (f.order x x == some .eq) = true ↔ isNum f x := by
  by_cases h : isNum f x
  · simp [order_num f hi h h, h]
  · simp [order_nan_left f hi h, h]

/-! ### the nearest word -/
/-- the nearest rung to 'M' least units (before the cap at infinity) -/
def RN (f : Format) (M : Nat) : Nat := if M = 0 then 0 else (M.log2 - f.fractionBits) * f.binade + Toward.even.cut false M (M.log2 - f.fractionBits)

theorem cut_neg (b : Bool) (n d : Nat) : Toward.even.cut b n d = Toward.even.cut false n d := rfl

theorem log2_mul_pow (m k : Nat) (h : m ≠ 0) : (m * 2 ^ k).log2 = m.log2 + k := by
  induction k with
  | zero => simp
  | succ k ih =>
    rw [Nat.pow_succ, ← Nat.mul_assoc, Nat.mul_comm _ 2, Nat.log2_two_mul, ih]; · omega
    exact Nat.mul_ne_zero h (Nat.pos_iff_ne_zero.1 (Nat.two_pow_pos _))

theorem cut_scale (n d k : Nat) (h : n ≠ 0) : Toward.even.cut false (n * 2 ^ k) (d + k) = Toward.even.cut false n d := by
  unfold Toward.cut
  have hm : min (d + k) (n.log2 + k + 2) = min d (n.log2 + 2) + k := by omega
  simp only [Nat.shiftLeft_eq, Nat.one_mul, log2_mul_pow n k h, hm, Nat.pow_add]
  have hp : 0 < 2 ^ k := Nat.two_pow_pos _
  rw [Nat.mul_div_mul_right _ _ hp, Nat.mul_mod_mul_right]
  generalize 2 ^ min d (n.log2 + 2) = g
  have e1 : decide (g * 2 ^ k < 2 * (n % g * 2 ^ k)) = decide (g < 2 * (n % g)) := by
    rw [← Nat.mul_assoc]
    exact decide_eq_decide.2 ⟨fun h => Nat.lt_of_mul_lt_mul_right h, fun h => Nat.mul_lt_mul_of_pos_right h hp⟩
  have e2 : (g * 2 ^ k == 2 * (n % g * 2 ^ k)) = (g == 2 * (n % g)) := by
    rw [← Nat.mul_assoc, Bool.eq_iff_iff, beq_iff_eq, beq_iff_eq]
    exact ⟨fun h => Nat.eq_of_mul_eq_mul_right hp h, fun h => congrArg (· * 2 ^ k) h⟩
  rw [e1, e2]

theorem cut_zero (n : Nat) : Toward.even.cut false n 0 = n := by
  unfold Toward.cut; simp [Nat.mod_one]

/-- any number of a place that the format has: its nearest word goes by its least units -/
theorem nearest_units (f : Format) (neg : Bool) (mag k : Nat) :
    f.nearest neg mag (f.leastPlace + k) = f.word neg (min (RN f (mag * 2 ^ k)) f.infRung) := by
  unfold Format.nearest RN
  by_cases h : mag = 0
  · subst h; simp
  · have hne : mag * 2 ^ k ≠ 0 := Nat.mul_ne_zero h (Nat.pos_iff_ne_zero.1 (Nat.two_pow_pos _))
    rw [if_neg h, if_neg hne, log2_mul_pow _ _ h]
    dsimp only
    rw [cut_neg]
    congr 2
    by_cases hc : f.fractionBits ≤ mag.log2 + k
    · have e : max (f.leastPlace + (k : Int) + (mag.log2 : Int) - f.fractionBits) f.leastPlace = f.leastPlace + ((mag.log2 + k - f.fractionBits : Nat) : Int) := by omega
      rw [e]
      have e0 : (f.leastPlace + ((mag.log2 + k - f.fractionBits : Nat) : Int) - f.leastPlace).toNat = mag.log2 + k - f.fractionBits := by omega
      have e1 : (f.leastPlace + (k : Int) - (f.leastPlace + ((mag.log2 + k - f.fractionBits : Nat) : Int))).toNat = k - (mag.log2 + k - f.fractionBits) := by omega
      have e2 : (f.leastPlace + ((mag.log2 + k - f.fractionBits : Nat) : Int) - (f.leastPlace + (k : Int))).toNat = mag.log2 + k - f.fractionBits - k := by omega
      rw [e0, e1, e2, Nat.shiftLeft_eq]
      congr 1
      generalize hd : mag.log2 + k - f.fractionBits = d
      by_cases hk : d ≤ k
      · have e3 : d - k = 0 := by omega
        rw [e3, cut_zero]
        have e4 : 2 ^ k = 2 ^ (k - d) * 2 ^ d := by rw [← Nat.pow_add]; congr 1; omega
        rw [e4, ← Nat.mul_assoc]
        have := cut_scale (mag * 2 ^ (k - d)) 0 d (Nat.mul_ne_zero h (Nat.pos_iff_ne_zero.1 (Nat.two_pow_pos _)))
        rw [Nat.zero_add] at this
        rw [this, cut_zero]
      · have e3 : k - d = 0 := by omega
        have e4 : d = (d - k) + k := by omega
        rw [e3]
        conv => rhs; rw [e4]
        rw [cut_scale _ _ _ h]; simp
    · have e : max (f.leastPlace + (k : Int) + (mag.log2 : Int) - f.fractionBits) f.leastPlace = f.leastPlace := by omega
      rw [e]
      have e0 : (f.leastPlace - f.leastPlace).toNat = 0 := by omega
      have e1 : (f.leastPlace + (k : Int) - f.leastPlace).toNat = k := by omega
      have e2 : (f.leastPlace - (f.leastPlace + (k : Int))).toNat = 0 := by omega
      have e5 : mag.log2 + k - f.fractionBits = 0 := by omega
      rw [e0, e1, e2, e5, Nat.shiftLeft_eq]

theorem cut_val (n d : Nat) (h : d ≤ n.log2) : Toward.even.cut false n d = n / 2 ^ d + (2 ^ d < 2 * (n % 2 ^ d) || (2 ^ d == 2 * (n % 2 ^ d) && n / 2 ^ d % 2 == 1) : Bool).toNat := by
  unfold Toward.cut
  have : min d (n.log2 + 2) = d := by omega
  rw [this, Nat.shiftLeft_eq, Nat.one_mul]

/-- a cut to d digits is at least the floor, at most one more -/
theorem cut_bounds (n d : Nat) (h : d ≤ n.log2) : n / 2 ^ d ≤ Toward.even.cut false n d ∧ Toward.even.cut false n d ≤ n / 2 ^ d + 1 := by
  rw [cut_val n d h]
  constructor
  · omega
  · have := Bool.toNat_le (2 ^ d < 2 * (n % 2 ^ d) || (2 ^ d == 2 * (n % 2 ^ d) && n / 2 ^ d % 2 == 1) : Bool)
    omega

theorem cut_mono (n n' d : Nat) (h : d ≤ n.log2) (h' : d ≤ n'.log2) (hn : n ≤ n') : Toward.even.cut false n d ≤ Toward.even.cut false n' d := by
  rw [cut_val n d h, cut_val n' d h']
  have hq : n / 2 ^ d ≤ n' / 2 ^ d := Nat.div_le_div_right hn
  by_cases e : n / 2 ^ d = n' / 2 ^ d
  · rw [e]
    have hr : n % 2 ^ d ≤ n' % 2 ^ d := by
      have a := Nat.div_add_mod n (2 ^ d)
      have b := Nat.div_add_mod n' (2 ^ d)
      rw [e] at a; omega
    refine Nat.add_le_add_left ?_ _
    by_cases c : (2 ^ d < 2 * (n % 2 ^ d) || (2 ^ d == 2 * (n % 2 ^ d) && n' / 2 ^ d % 2 == 1) : Bool) = true
    · have c' : (2 ^ d < 2 * (n' % 2 ^ d) || (2 ^ d == 2 * (n' % 2 ^ d) && n' / 2 ^ d % 2 == 1) : Bool) = true := by
        simp only [Bool.or_eq_true, decide_eq_true_eq, Bool.and_eq_true, beq_iff_eq] at c ⊢
        rcases c with c | ⟨c1, c2⟩
        · exact .inl (by omega)
        · by_cases g : 2 ^ d < 2 * (n' % 2 ^ d)
          · exact .inl g
          · exact .inr ⟨by omega, c2⟩
      rw [c, c']; exact Nat.le_refl _
    · rw [Bool.not_eq_true] at c
      rw [c]; exact Nat.zero_le _
  · have := Bool.toNat_le (2 ^ d < 2 * (n % 2 ^ d) || (2 ^ d == 2 * (n % 2 ^ d) && n / 2 ^ d % 2 == 1) : Bool)
    omega

theorem log2_le_of_le {a b : Nat} (ha : a ≠ 0) (h : a ≤ b) : a.log2 ≤ b.log2 := by
  have h1 := Nat.log2_self_le ha
  exact (Nat.le_log2 (by omega)).2 (Nat.le_trans h1 h)

/-- M of log2 L at least the fraction's digits: its rung lies in its binade, or at the next one's start -/
theorem RN_bounds (f : Format) {M : Nat} (h0 : M ≠ 0) (hL : f.fractionBits ≤ M.log2) :
    (M.log2 - f.fractionBits) * f.binade + f.binade ≤ RN f M ∧ RN f M ≤ (M.log2 - f.fractionBits) * f.binade + 2 * f.binade := by
  unfold RN
  rw [if_neg h0]
  have hc := cut_bounds M (M.log2 - f.fractionBits) (by omega)
  have hp : 0 < 2 ^ (M.log2 - f.fractionBits) := Nat.two_pow_pos _
  have e : 2 ^ f.fractionBits * 2 ^ (M.log2 - f.fractionBits) = 2 ^ M.log2 := by rw [← Nat.pow_add]; congr 1; omega
  have l1 : f.binade ≤ M / 2 ^ (M.log2 - f.fractionBits) := by
    rw [Nat.le_div_iff_mul_le hp]
    unfold Format.binade
    rw [e]; exact Nat.log2_self_le h0
  have l2 : M / 2 ^ (M.log2 - f.fractionBits) < 2 * f.binade := by
    rw [Nat.div_lt_iff_lt_mul hp]
    unfold Format.binade
    rw [Nat.mul_assoc, e, Nat.mul_comm, ← Nat.pow_succ]; exact Nat.lt_log2_self
  omega

theorem RN_small (f : Format) {M : Nat} (hL : M.log2 < f.fractionBits) : RN f M = M := by
  unfold RN
  by_cases h0 : M = 0
  · simp [h0]
  · have e : M.log2 - f.fractionBits = 0 := by omega
    rw [if_neg h0, e, cut_zero]; omega

theorem RN_mono (f : Format) {M M' : Nat} (h : M ≤ M') : RN f M ≤ RN f M' := by
  by_cases h0 : M = 0
  · subst h0; simp [RN]
  · have h0' : M' ≠ 0 := by omega
    have hl := log2_le_of_le h0 h
    by_cases a : M.log2 < f.fractionBits
    · rw [RN_small f a]
      by_cases b : M'.log2 < f.fractionBits
      · rw [RN_small f b]; exact h
      · have := (RN_bounds f h0' (by omega)).1
        have h1 : M < 2 ^ f.fractionBits := (Nat.log2_lt h0).1 a
        have h2 : f.binade = 2 ^ f.fractionBits := rfl
        omega
    · by_cases e : M.log2 = M'.log2
      · unfold RN
        rw [if_neg h0, if_neg h0', e]
        have := cut_mono M M' (M'.log2 - f.fractionBits) (by omega) (by omega) h
        omega
      · have u := (RN_bounds f h0 (by omega)).2
        have l := (RN_bounds f h0' (by omega)).1
        have : (M.log2 - f.fractionBits + 1) * f.binade ≤ (M'.log2 - f.fractionBits) * f.binade := Nat.mul_le_mul_right _ (by omega)
        rw [Nat.succ_mul] at this
        omega

theorem log2_of_bounds {M L : Nat} (h1 : 2 ^ L ≤ M) (h2 : M < 2 ^ (L + 1)) : M.log2 = L := by
  have hp : 0 < 2 ^ L := Nat.two_pow_pos _
  have h0 : M ≠ 0 := by omega
  have a := (Nat.le_log2 h0).2 h1
  have b := (Nat.log2_lt h0).2 h2
  omega

/-- a rung's own number comes back to the rung -/
theorem RN_V (f : Format) (r : Nat) : RN f (V f r) = r := by
  rcases rung_cases f r with h | ⟨q, t, ht, rfl⟩
  · rw [V_lo h]
    by_cases h0 : r = 0
    · subst h0; rfl
    · exact RN_small f ((Nat.log2_lt h0).2 h)
  · rw [V_hi ht]
    have hb : f.binade = 2 ^ f.fractionBits := rfl
    have hne : f.binade + t ≠ 0 := by have := binade_pos f; omega
    have hl : (f.binade + t).log2 = f.fractionBits := log2_of_bounds (by omega) (by rw [Nat.pow_succ]; omega)
    have hne' : (f.binade + t) * 2 ^ q ≠ 0 := Nat.mul_ne_zero hne (Nat.pos_iff_ne_zero.1 (Nat.two_pow_pos _))
    unfold RN
    rw [if_neg hne', log2_mul_pow _ _ hne, hl]
    have e : f.fractionBits + q - f.fractionBits = 0 + q := by omega
    rw [e, cut_scale _ _ _ hne, cut_zero, Nat.zero_add, Nat.succ_mul]; omega

/-- every number of at most one digit more than the fraction's, at any place, is a rung's -/
theorem V_hit (f : Format) (m k : Nat) (h : m ≤ 2 * f.binade) : ∃ r, V f r = m * 2 ^ k ∧ r ≤ (k + 2) * f.binade := by
  have hb := binade_pos f
  induction k generalizing m with
  | zero =>
    by_cases h1 : m < f.binade
    · exact ⟨m, by rw [V_lo h1]; simp, by omega⟩
    · by_cases h2 : m = 2 * f.binade
      · exact ⟨(1 + 1) * f.binade + 0, by rw [V_hi hb]; omega, by omega⟩
      · refine ⟨(0 + 1) * f.binade + (m - f.binade), by rw [V_hi (by omega)]; omega, by omega⟩
  | succ k ih =>
    by_cases h1 : m ≤ f.binade
    · obtain ⟨r, hr, hle⟩ := ih (2 * m) (by omega)
      exact ⟨r, by rw [hr, Nat.pow_succ]; rw [Nat.mul_comm 2 m, Nat.mul_assoc, Nat.mul_comm 2], by
        have : (k + 2) * f.binade ≤ (k + 1 + 2) * f.binade := Nat.mul_le_mul_right _ (by omega)
        omega⟩
    · by_cases h2 : m = 2 * f.binade
      · refine ⟨(k + 2 + 1) * f.binade + 0, ?_, by rw [show k + 2 + 1 = k + 1 + 2 by omega]; omega⟩
        rw [V_hi hb, h2, Nat.add_zero, Nat.pow_succ 2 (k + 1), Nat.mul_comm (2 ^ (k + 1)) 2, Nat.mul_comm 2 f.binade, Nat.mul_assoc]
      · refine ⟨(k + 1 + 1) * f.binade + (m - f.binade), ?_, ?_⟩
        · rw [V_hi (by omega)]; congr 1; omega
        · have : (k + 1 + 2) * f.binade = (k + 1 + 1) * f.binade + f.binade := by rw [← Nat.succ_mul]
          omega

/-- 'n / 2 ^ drop' toward zero is the floor -/
theorem cutz (s : Bool) (n d : Nat) : Toward.zero.cut s n d = n / 2 ^ d := by
  unfold Toward.cut
  simp only [Bool.toNat_false, Nat.add_zero, Nat.shiftLeft_eq, Nat.one_mul]
  by_cases h : d ≤ n.log2 + 2
  · rw [Nat.min_eq_left h]
  · rw [Nat.min_eq_right (by omega)]
    by_cases h0 : n = 0
    · subst h0; simp
    · have a : n < 2 ^ (n.log2 + 1) := Nat.lt_log2_self
      have b : n < 2 ^ (n.log2 + 2) := Nat.lt_of_lt_of_le a (Nat.pow_le_pow_right (by omega) (by omega))
      have c : n < 2 ^ d := Nat.lt_of_lt_of_le a (Nat.pow_le_pow_right (by omega) (by omega))
      rw [Nat.div_eq_of_lt b, Nat.div_eq_of_lt c]

/-- THE WHOLE PART of a finite word. 'u': how many binary digits one has, in least units. -/
theorem toInt_fin (f : Format) (u : Nat) (hu : f.leastPlace = -(u : Int)) {x : Nat} (h : isFin f x) :
    (f.read x).toInt .zero = some (sg (negB f x) (V f (rung f x) / 2 ^ u)) := by
  obtain ⟨m, k, e, hv, _⟩ := read_fin f h
  rw [e, hu]
  simp only [Datum.toInt, Datum.integral, cutz, signed_eq, Nat.pow_zero, Nat.mul_one, Nat.shiftLeft_eq]
  congr 2
  rw [← hv]
  by_cases hk : u ≤ k
  · have a1 : (-(u : Int) + (k : Int)).toNat = k - u := by omega
    have a2 : (-(-(u : Int) + (k : Int))).toNat = 0 := by omega
    have a3 : 2 ^ k = 2 ^ (k - u) * 2 ^ u := by rw [← Nat.pow_add]; congr 1; omega
    rw [a1, a2, a3, ← Nat.mul_assoc, Nat.mul_div_cancel _ (Nat.two_pow_pos _)]; simp
  · have a1 : (-(u : Int) + (k : Int)).toNat = 0 := by omega
    have a2 : (-(-(u : Int) + (k : Int))).toNat = u - k := by omega
    have a3 : 2 ^ u = 2 ^ (u - k) * 2 ^ k := by rw [← Nat.pow_add]; congr 1; omega
    rw [a1, a2, a3, Nat.mul_div_mul_right _ _ (Nat.two_pow_pos _)]; simp

end Fl
