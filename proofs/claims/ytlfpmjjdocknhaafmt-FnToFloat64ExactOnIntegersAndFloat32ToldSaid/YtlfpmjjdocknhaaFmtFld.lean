/- Plain facts on Go's floats (float32, float64): integers as floats, whole parts, sums that are exact, one width made the other. No program in sight; no statement is proved here. -/
import Derived.Test.YtlfpmjjdocknhaaFmtFl
import Derived.Laws.FloatArith
namespace Fl
open Go Ieee

theorem hi (k : FloatKind) : k.format.binade ≤ k.format.infRung := by cases k <;> decide +kernel
/-- the digits of a float's one, in least units -/
def ue : FloatKind → Nat
  | .f32 => 149
  | .f64 => 1074
theorem hu (k : FloatKind) : k.format.leastPlace = -(ue k : Int) := by cases k <;> decide +kernel
theorem big (k : FloatKind) : (ue k + 2) * k.format.binade < k.format.infRung := by cases k <;> decide +kernel

theorem ord (k : FloatKind) {x y : Nat} (hx : isNum k.format x) (hy : isNum k.format y) : k.format.order x y = some (compare (sv k.format x) (sv k.format y)) := order_num k.format (hi k) hx hy

theorem ord_lt (k : FloatKind) {x y : Nat} (hx : isNum k.format x) (hy : isNum k.format y) (h : sv k.format x < sv k.format y) : k.format.order x y = some .lt := by
  rw [ord k hx hy, Int.compare_eq_lt.2 h]
theorem ord_eq (k : FloatKind) {x y : Nat} (hx : isNum k.format x) (hy : isNum k.format y) (h : sv k.format x = sv k.format y) : k.format.order x y = some .eq := by
  rw [ord k hx hy, Int.compare_eq_eq.2 h]
theorem ord_gt (k : FloatKind) {x y : Nat} (hx : isNum k.format x) (hy : isNum k.format y) (h : sv k.format y < sv k.format x) : k.format.order x y = some .gt := by
  rw [ord k hx hy, Int.compare_eq_gt.2 h]

/-! ### integers as floats -/
theorem ofInt_word (k : FloatKind) (n : Int) : floatOfInt k n = k.format.word (decide (n < 0)) (min (RN k.format (n.natAbs * 2 ^ ue k)) k.format.infRung) := by
  show k.format.nearest (decide (n < 0)) n.natAbs 0 = _
  have h := nearest_units k.format (decide (n < 0)) n.natAbs (ue k)
  rw [hu, show -(ue k : Int) + (ue k : Nat) = 0 by omega] at h
  exact h

theorem ofInt_num (k : FloatKind) (n : Int) : isNum k.format (floatOfInt k n) := by
  rw [ofInt_word]; exact num_word _ _ (Nat.min_le_right _ _)

theorem sv_ofInt (k : FloatKind) (n : Int) : sv k.format (floatOfInt k n) = sg (decide (n < 0)) (V k.format (min (RN k.format (n.natAbs * 2 ^ ue k)) k.format.infRung)) := by
  rw [ofInt_word, sv_word _ _ (Nat.min_le_right _ _)]

theorem ofInt_mono (k : FloatKind) {x y : Int} (h : x ≤ y) : sv k.format (floatOfInt k x) ≤ sv k.format (floatOfInt k y) := by
  rw [sv_ofInt, sv_ofInt]
  by_cases hy : y < 0
  · have hx : x < 0 := by omega
    have hm : y.natAbs * 2 ^ ue k ≤ x.natAbs * 2 ^ ue k := Nat.mul_le_mul_right _ (by omega)
    have := RN_mono k.format hm
    have := V_le k.format (r := min (RN k.format (y.natAbs * 2 ^ ue k)) k.format.infRung) (s := min (RN k.format (x.natAbs * 2 ^ ue k)) k.format.infRung) (by omega)
    simp only [hx, hy, decide_true, sg, if_true]
    omega
  · by_cases hx : x < 0
    · simp only [hx, hy, decide_true, decide_false, sg, if_true, Bool.false_eq_true, if_false]
      omega
    · have hm : x.natAbs * 2 ^ ue k ≤ y.natAbs * 2 ^ ue k := Nat.mul_le_mul_right _ (by omega)
      have := RN_mono k.format hm
      have := V_le k.format (r := min (RN k.format (x.natAbs * 2 ^ ue k)) k.format.infRung) (s := min (RN k.format (y.natAbs * 2 ^ ue k)) k.format.infRung) (by omega)
      simp only [hx, hy, decide_false, sg, Bool.false_eq_true, if_false]
      omega

theorem sg_int (n : Int) (c : Nat) : sg (decide (n < 0)) (n.natAbs * c) = n * (c : Int) := by
  rw [sg_mul]
  congr 1
  unfold sg
  by_cases h : n < 0
  · simp [h]; omega
  · simp [h]; omega

/-- an integer whose units are a rung's own number -/
theorem ofInt_hit (k : FloatKind) (n : Int) (r : Nat) (hr : r ≤ k.format.infRung) (h : V k.format r = n.natAbs * 2 ^ ue k) : floatOfInt k n = k.format.word (decide (n < 0)) r := by
  rw [ofInt_word, ← h, RN_V, Nat.min_eq_left hr]

theorem ofInt_exact (k : FloatKind) (n : Int) (h : n.natAbs ≤ 2 * k.format.binade) : sv k.format (floatOfInt k n) = n * ((2 ^ ue k : Nat) : Int) ∧ isFin k.format (floatOfInt k n) := by
  obtain ⟨r, hr, hle⟩ := V_hit k.format n.natAbs (ue k) h
  have hb := big k
  have e := ofInt_hit k n r (by omega) hr
  rw [e]
  refine ⟨?_, fin_word _ _ (by omega)⟩
  rw [sv_word _ _ (by omega), hr, sg_int]

/-! ### whole parts -/
/-- the whole part, toward zero -/
def tr (k : FloatKind) (x : Nat) : Int := sg (negB k.format x) (V k.format (rung k.format x) / 2 ^ ue k)

theorem toInt_tr (k : FloatKind) {x : Nat} (h : isFin k.format x) : (k.decode x).toInt .zero = some (tr k x) := toInt_fin k.format (ue k) (hu k) h

theorem tr_nonneg (k : FloatKind) (x : Nat) (h : 0 ≤ sv k.format x) : 0 ≤ tr k x ∧ tr k x * ((2 ^ ue k : Nat) : Int) ≤ sv k.format x ∧ sv k.format x < (tr k x + 1) * ((2 ^ ue k : Nat) : Int) := by
  have hp : 0 < 2 ^ ue k := Nat.two_pow_pos _
  unfold tr
  unfold sv at h ⊢
  generalize V k.format (rung k.format x) = v at *
  have a := Nat.div_add_mod v (2 ^ ue k)
  have b := Nat.mod_lt v hp
  generalize hq : v / 2 ^ ue k = q at *
  generalize hc : 2 ^ ue k = c at *
  have e1 : ((c * q : Nat) : Int) = (q : Int) * (c : Int) := by rw [Nat.mul_comm]; exact Int.natCast_mul _ _
  have e2 : ((q : Int) + 1) * (c : Int) = (q : Int) * (c : Int) + c := by rw [Int.add_mul]; simp
  cases hn : negB k.format x
  · simp only [sg, Bool.false_eq_true, if_false]
    rw [e2, ← e1]; omega
  · rw [hn] at h
    simp only [sg, if_true] at h ⊢
    have hv : v = 0 := by omega
    have hq0 : q = 0 := by
      rw [← hq, hv]; simp
    rw [hv, hq0]; simp; omega

theorem tr_nonpos (k : FloatKind) (x : Nat) (h : sv k.format x ≤ 0) : tr k x ≤ 0 ∧ sv k.format x ≤ tr k x * ((2 ^ ue k : Nat) : Int) ∧ (tr k x - 1) * ((2 ^ ue k : Nat) : Int) < sv k.format x := by
  have hp : 0 < 2 ^ ue k := Nat.two_pow_pos _
  unfold tr
  unfold sv at h ⊢
  generalize V k.format (rung k.format x) = v at *
  have a := Nat.div_add_mod v (2 ^ ue k)
  have b := Nat.mod_lt v hp
  generalize hq : v / 2 ^ ue k = q at *
  generalize hc : 2 ^ ue k = c at *
  have e1 : ((c * q : Nat) : Int) = (q : Int) * (c : Int) := by rw [Nat.mul_comm]; exact Int.natCast_mul _ _
  have e2 : (-(q : Int) - 1) * (c : Int) = -((q : Int) * (c : Int)) - c := by rw [Int.sub_mul, Int.neg_mul]; simp
  have e3 : -(q : Int) * (c : Int) = -((q : Int) * (c : Int)) := Int.neg_mul _ _
  cases hn : negB k.format x
  · rw [hn] at h
    simp only [sg, Bool.false_eq_true, if_false] at h ⊢
    have hv : v = 0 := by omega
    have hq0 : q = 0 := by
      rw [← hq, hv]; simp
    rw [hv, hq0]; simp; omega
  · simp only [sg, if_true]
    rw [e2, e3, ← e1]; omega

theorem floatToInt_tr (k : FloatKind) {x : Nat} (h : isFin k.format x) (lo : -(9223372036854775808 * ((2 ^ ue k : Nat) : Int)) ≤ sv k.format x) (up : sv k.format x < 9223372036854775808 * ((2 ^ ue k : Nat) : Int)) :
    floatToIntVal k x .i64 = some (tr k x) := by
  have hp : (0 : Int) < ((2 ^ ue k : Nat) : Int) := by have : 0 < 2 ^ ue k := Nat.two_pow_pos _; omega
  have hb : -9223372036854775808 ≤ tr k x ∧ tr k x ≤ 9223372036854775807 := by
    by_cases hs : 0 ≤ sv k.format x
    · obtain ⟨a, b, _⟩ := tr_nonneg k x hs
      refine ⟨by omega, ?_⟩
      have : tr k x * ((2 ^ ue k : Nat) : Int) < 9223372036854775808 * ((2 ^ ue k : Nat) : Int) := by omega
      have := Int.lt_of_mul_lt_mul_right this (by omega)
      omega
    · obtain ⟨a, b, _⟩ := tr_nonpos k x (by omega)
      refine ⟨?_, by omega⟩
      have : -9223372036854775808 * ((2 ^ ue k : Nat) : Int) ≤ tr k x * ((2 ^ ue k : Nat) : Int) := by rw [Int.neg_mul]; omega
      exact Int.le_of_mul_le_mul_right this hp
  unfold floatToIntVal
  rw [toInt_tr k h]
  simp only
  rw [if_pos]
  simpa [IntKind.min, IntKind.max, IntKind.signed, IntKind.bits] using hb

/-- a number of so many units or more is whole: its whole part is it -/
theorem tr_whole (k : FloatKind) {x : Nat} (hn : isNum k.format x) (h : k.format.binade * 2 ^ ue k ≤ V k.format (rung k.format x)) :
    sv k.format (floatOfInt k (tr k x)) = sv k.format x := by
  have hb := binade_pos k.format
  have hp : 0 < 2 ^ ue k := Nat.two_pow_pos _
  rcases rung_cases k.format (rung k.format x) with hl | ⟨q, t, ht, hr⟩
  · rw [V_lo hl] at h
    have : k.format.binade * 1 ≤ k.format.binade * 2 ^ ue k := Nat.mul_le_mul_left _ hp
    omega
  · have hv : V k.format (rung k.format x) = (k.format.binade + t) * 2 ^ q := by rw [hr, V_hi ht]
    have hq : ue k ≤ q := by
      apply Nat.le_of_not_lt
      intro hlt
      have e : 2 ^ ue k = 2 ^ (ue k - q - 1) * 2 * 2 ^ q := by
        rw [Nat.mul_assoc, ← Nat.pow_succ', ← Nat.pow_add]; congr 1; omega
      rw [hv, e] at h
      have h1 : k.format.binade * (2 ^ (ue k - q - 1) * 2) ≤ k.format.binade + t := by
        rw [← Nat.mul_assoc] at h
        exact Nat.le_of_mul_le_mul_right h (Nat.two_pow_pos _)
      have h2 : k.format.binade * 2 ≤ k.format.binade * (2 ^ (ue k - q - 1) * 2) := Nat.mul_le_mul_left _ (by have := Nat.two_pow_pos (ue k - q - 1); omega)
      omega
    have e : 2 ^ q = 2 ^ (q - ue k) * 2 ^ ue k := by rw [← Nat.pow_add]; congr 1; omega
    have hd : V k.format (rung k.format x) / 2 ^ ue k = (k.format.binade + t) * 2 ^ (q - ue k) := by
      rw [hv, e, ← Nat.mul_assoc, Nat.mul_div_cancel _ hp]
    have hpos : 0 < (k.format.binade + t) * 2 ^ (q - ue k) := Nat.mul_pos (by omega) (Nat.two_pow_pos _)
    have hna : (tr k x).natAbs = (k.format.binade + t) * 2 ^ (q - ue k) := by
      unfold tr; rw [hd]; unfold sg; split <;> omega
    have hneg : decide (tr k x < 0) = negB k.format x := by
      unfold tr; rw [hd]; unfold sg
      generalize (k.format.binade + t) * 2 ^ (q - ue k) = z at *
      cases negB k.format x
      · simp only [Bool.false_eq_true, if_false, decide_eq_false_iff_not]; omega
      · simp only [if_true, decide_eq_true_eq]; omega
    rw [ofInt_hit k (tr k x) (rung k.format x) hn (by rw [hna, hv, e, Nat.mul_assoc]), sv_word _ _ hn, hneg]
    rfl

/-! ### sums that are exact -/
theorem natAbs_mul_pow (a : Int) (b : Nat) : (a * (b : Int)).natAbs = a.natAbs * b := by rw [Int.natAbs_mul]; rfl

theorem sum_exact (f : Format) {a b : Nat} {sb : Bool} (ha : isFin f a) (hb : isFin f b) (d : Datum) (hd : ∀ m p, f.read b = .number (negB f b) m p → d = .number sb m p) (r : Nat) (hr : r < f.infRung)
    (h : V f r = (sv f a + sg sb (V f (rung f b))).natAbs) :
    ∃ x, ((f.read a).sum d).map f.write = some x ∧ isFin f x ∧ sv f x = sv f a + sg sb (V f (rung f b)) := by
  obtain ⟨m, i, e1, v1, _⟩ := read_fin f ha
  obtain ⟨n, j, e2, v2, _⟩ := read_fin f hb
  rw [e1, hd _ _ e2]
  simp only [Datum.sum, Option.map_some, signed_eq, Format.write]
  have hbase : min (f.leastPlace + (i : Int)) (f.leastPlace + (j : Int)) = f.leastPlace + ((min i j : Nat) : Int) := by omega
  rw [hbase]
  have t1 : (f.leastPlace + (i : Int) - (f.leastPlace + ((min i j : Nat) : Int))).toNat = i - min i j := by omega
  have t2 : (f.leastPlace + (j : Int) - (f.leastPlace + ((min i j : Nat) : Int))).toNat = j - min i j := by omega
  rw [t1, t2]
  have s1 : sg (negB f a) (m * 2 ^ (i - min i j)) * ((2 ^ min i j : Nat) : Int) = sv f a := by
    rw [← sg_mul, Nat.mul_assoc, ← Nat.pow_add, show i - min i j + min i j = i by omega, v1]; rfl
  have s2 : sg sb (n * 2 ^ (j - min i j)) * ((2 ^ min i j : Nat) : Int) = sg sb (V f (rung f b)) := by
    rw [← sg_mul, Nat.mul_assoc, ← Nat.pow_add, show j - min i j + min i j = j by omega, v2]
  have st : (sg (negB f a) (m * 2 ^ (i - min i j)) + sg sb (n * 2 ^ (j - min i j))) * ((2 ^ min i j : Nat) : Int) = sv f a + sg sb (V f (rung f b)) := by
    rw [Int.add_mul, s1, s2]
  generalize sg (negB f a) (m * 2 ^ (i - min i j)) + sg sb (n * 2 ^ (j - min i j)) = total at *
  rw [← st] at h ⊢
  rw [natAbs_mul_pow] at h
  refine ⟨_, rfl, ?_⟩
  rw [nearest_units, ← h, RN_V, Nat.min_eq_left (Nat.le_of_lt hr)]
  refine ⟨fin_word _ _ hr, ?_⟩
  rw [sv_word _ _ (Nat.le_of_lt hr), h, ← sg_int]
  by_cases h0 : total = 0
  · subst h0
    simp [sg]
  · rw [if_neg h0]

theorem sg_not (s : Bool) (n : Nat) : sg (!s) n = -sg s n := by cases s <;> simp [sg]

theorem add_exact (k : FloatKind) {a b : Nat} (ha : isFin k.format a) (hb : isFin k.format b) (n : Int) (hn : n.natAbs ≤ 2 * k.format.binade) (h : sv k.format a + sv k.format b = n * ((2 ^ ue k : Nat) : Int)) :
    ∃ x, floatBits .add k a b = some x ∧ isFin k.format x ∧ sv k.format x = n * ((2 ^ ue k : Nat) : Int) := by
  obtain ⟨r, hr, hle⟩ := V_hit k.format n.natAbs (ue k) hn
  have hg := big k
  have := sum_exact k.format (sb := negB k.format b) ha hb (k.format.read b) (fun m p e => e) r (by omega) (by rw [hr]; show _ = (sv k.format a + sv k.format b).natAbs; rw [h, natAbs_mul_pow])
  obtain ⟨x, e, hf, hs⟩ := this
  exact ⟨x, e, hf, hs.trans h⟩

theorem sub_exact (k : FloatKind) {a b : Nat} (ha : isFin k.format a) (hb : isFin k.format b) (n : Int) (hn : n.natAbs ≤ 2 * k.format.binade) (h : sv k.format a - sv k.format b = n * ((2 ^ ue k : Nat) : Int)) :
    ∃ x, floatBits .sub k a b = some x ∧ isFin k.format x ∧ sv k.format x = n * ((2 ^ ue k : Nat) : Int) := by
  obtain ⟨r, hr, hle⟩ := V_hit k.format n.natAbs (ue k) hn
  have hg := big k
  have h' : sv k.format a + sg (!negB k.format b) (V k.format (rung k.format b)) = n * ((2 ^ ue k : Nat) : Int) := by
    rw [sg_not]; rw [Int.sub_eq_add_neg] at h; exact h
  have := sum_exact k.format (sb := !negB k.format b) ha hb (k.format.read b).opposite (fun m p e => by rw [e]; rfl) r (by omega) (by rw [hr, h', natAbs_mul_pow])
  obtain ⟨x, e, hf, hs⟩ := this
  exact ⟨x, e, hf, hs.trans h'⟩

/-! ### one width made the other -/
/-- a number of a place below the format's last, whole in its units -/
theorem nearest_down (f : Format) (neg : Bool) (M j : Nat) : f.nearest neg (M * 2 ^ j) (f.leastPlace - j) = f.word neg (min (RN f M) f.infRung) := by
  unfold Format.nearest RN
  by_cases h : M = 0
  · subst h; simp
  · have hne : M * 2 ^ j ≠ 0 := Nat.mul_ne_zero h (Nat.pos_iff_ne_zero.1 (Nat.two_pow_pos _))
    rw [if_neg h, if_neg hne, log2_mul_pow _ _ h]
    dsimp only
    rw [cut_neg]
    congr 2
    have e : max (f.leastPlace - (j : Int) + ((M.log2 + j : Nat) : Int) - f.fractionBits) f.leastPlace = f.leastPlace + ((M.log2 - f.fractionBits : Nat) : Int) := by omega
    rw [e]
    have e0 : (f.leastPlace + ((M.log2 - f.fractionBits : Nat) : Int) - f.leastPlace).toNat = M.log2 - f.fractionBits := by omega
    have e1 : (f.leastPlace - (j : Int) - (f.leastPlace + ((M.log2 - f.fractionBits : Nat) : Int))).toNat = 0 := by omega
    have e2 : (f.leastPlace + ((M.log2 - f.fractionBits : Nat) : Int) - (f.leastPlace - (j : Int))).toNat = M.log2 - f.fractionBits + j := by omega
    rw [e0, e1, e2, Nat.shiftLeft_zero, cut_scale _ _ _ h]

theorem isInf_word (f : Format) (s : Bool) {r : Nat} (h : r < f.infRung) : (f.read (f.word s r)).isInfinity = false := by
  obtain ⟨m, i, e, _⟩ := read_fin f (fin_word f s h)
  rw [e]; rfl

/-- how many least units of a float64 one of a float32 is -/
def up : Nat := 925
def P925 : Nat := 2 ^ up
theorem P925_eq : 2 ^ up = P925 := rfl
theorem P925_pos : 0 < P925 := Nat.two_pow_pos _
theorem V_top : V FloatKind.f32.format FloatKind.f32.format.infRung * P925 ≤ V FloatKind.f64.format FloatKind.f64.format.infRung := by decide +kernel

/-- float64 of a finite float32: the same number -/
theorem widen (g : Nat) (h : isFin FloatKind.f32.format g) : ∃ d, floatToFloatBits .f32 g .f64 = some d ∧ isFin FloatKind.f64.format d ∧ sv FloatKind.f64.format d = sv FloatKind.f32.format g * (P925 : Int) ∧ negB FloatKind.f64.format d = negB FloatKind.f32.format g := by
  obtain ⟨m, i, e, hv, hm⟩ := read_fin FloatKind.f32.format h
  have hm' : m ≤ 2 * FloatKind.f64.format.binade := Nat.le_trans (Nat.le_of_lt hm) (by decide +kernel)
  obtain ⟨r, hr, _⟩ := V_hit FloatKind.f64.format m (i + up) hm'
  have hr' : V FloatKind.f64.format r = V FloatKind.f32.format (rung FloatKind.f32.format g) * P925 := by
    rw [hr, ← hv, Nat.pow_add, ← Nat.mul_assoc, P925_eq]
  have hlt : r < FloatKind.f64.format.infRung := by
    apply Nat.lt_of_not_le
    intro hle
    have h1 := V_le FloatKind.f64.format hle
    have h2 := V_lt FloatKind.f32.format h
    have h3 : V FloatKind.f32.format (rung FloatKind.f32.format g) * P925 < V FloatKind.f32.format FloatKind.f32.format.infRung * P925 := Nat.mul_lt_mul_of_pos_right h2 P925_pos
    have h4 : V FloatKind.f32.format FloatKind.f32.format.infRung * P925 ≤ V FloatKind.f64.format FloatKind.f64.format.infRung := V_top
    rw [hr'] at h1
    exact absurd (Nat.lt_of_le_of_lt h1 (Nat.lt_of_lt_of_le h3 h4)) (Nat.lt_irrefl _)
  have hw : FloatKind.f64.encode (.number (negB FloatKind.f32.format g) m (FloatKind.f32.format.leastPlace + i)) = FloatKind.f64.format.word (negB FloatKind.f32.format g) r := by
    show FloatKind.f64.format.nearest _ _ _ = _
    have hp : FloatKind.f32.format.leastPlace + (i : Int) = FloatKind.f64.format.leastPlace + ((i + up : Nat) : Int) := by
      rw [hu, hu]; simp only [ue, up]; omega
    rw [hp, nearest_units, ← hr, RN_V, Nat.min_eq_left (Nat.le_of_lt hlt)]
  refine ⟨FloatKind.f64.format.word (negB FloatKind.f32.format g) r, ?_, fin_word _ _ hlt, ?_, ?_⟩
  · unfold floatToFloatBits
    rw [if_neg (by decide)]
    show (match FloatKind.f32.format.read g with | .nan _ _ => none | .infinity s => some (FloatKind.f64.encode (.infinity s)) | .number s m e => if (FloatKind.f64.decode (FloatKind.f64.encode (.number s m e))).isInfinity then none else some (FloatKind.f64.encode (.number s m e))) = _
    rw [e]
    simp only
    rw [hw]
    have : (FloatKind.f64.decode (FloatKind.f64.format.word (negB FloatKind.f32.format g) r)).isInfinity = false := isInf_word _ _ hlt
    rw [this]; rfl
  · rw [sv_word _ _ (Nat.le_of_lt hlt), hr', sg_mul]; rfl
  · exact neg_word _ _ (Nat.lt_trans hlt (inf_lt_sw _))


theorem cut_le (n d b : Nat) (h : n < 2 ^ (d + b)) : Toward.even.cut false n d ≤ 2 ^ b := by
  unfold Toward.cut
  rw [Nat.shiftLeft_eq, Nat.one_mul]
  have hb : n / 2 ^ min d (n.log2 + 2) < 2 ^ b := by
    by_cases hd : d ≤ n.log2 + 2
    · rw [Nat.min_eq_left hd, Nat.div_lt_iff_lt_mul (Nat.two_pow_pos _), ← Nat.pow_add, Nat.add_comm b d]; exact h
    · rw [Nat.min_eq_right (by omega)]
      have a : n < 2 ^ (n.log2 + 1) := Nat.lt_log2_self
      have c : n < 2 ^ (n.log2 + 2) := Nat.lt_of_lt_of_le a (Nat.pow_le_pow_right (by omega) (by omega))
      rw [Nat.div_eq_of_lt c]; exact Nat.two_pow_pos _
  have hm := Bool.toNat_le (match Toward.even with
    | .even => decide (2 ^ min d (n.log2 + 2) < 2 * (n % 2 ^ min d (n.log2 + 2))) || (2 ^ min d (n.log2 + 2) == 2 * (n % 2 ^ min d (n.log2 + 2)) && n / 2 ^ min d (n.log2 + 2) % 2 == 1)
    | .down => false && n % 2 ^ min d (n.log2 + 2) != 0
    | .up => !false && n % 2 ^ min d (n.log2 + 2) != 0
    | .zero => false)
  exact Nat.le_trans (Nat.add_le_add_left hm _) hb

/-- the nearest word of a number below '2 ^ (top + 1)' is finite where the format goes so far -/
theorem nearest_fin (f : Format) (neg : Bool) (mag : Nat) (place top : Int) (h0 : f.leastPlace ≤ top - f.fractionBits) (h : mag ≠ 0 → place + (mag.log2 : Int) ≤ top) (hb : (top - f.fractionBits - f.leastPlace).toNat * f.binade + 2 * f.binade < f.infRung) :
    ∃ r, r < f.infRung ∧ f.nearest neg mag place = f.word neg r := by
  unfold Format.nearest
  by_cases hm : mag = 0
  · exact ⟨0, by have := binade_pos f; omega, by rw [if_pos hm]⟩
  · rw [if_neg hm]
    replace h := h hm
    dsimp only
    rw [cut_neg]
    have hlast : max (place + (mag.log2 : Int) - f.fractionBits) f.leastPlace ≤ top - f.fractionBits := by omega
    have hlast2 : place + (mag.log2 : Int) - f.fractionBits ≤ max (place + (mag.log2 : Int) - f.fractionBits) f.leastPlace := by omega
    have hlp : f.leastPlace ≤ max (place + (mag.log2 : Int) - f.fractionBits) f.leastPlace := by omega
    generalize max (place + (mag.log2 : Int) - f.fractionBits) f.leastPlace = last at *
    have hlg : mag < 2 ^ (mag.log2 + 1) := Nat.lt_log2_self
    have hk : Toward.even.cut false (mag <<< (place - last).toNat) (last - place).toNat ≤ 2 ^ (f.fractionBits + 1) := by
      apply cut_le
      rw [Nat.shiftLeft_eq]
      have : mag * 2 ^ (place - last).toNat < 2 ^ (mag.log2 + 1) * 2 ^ (place - last).toNat := Nat.mul_lt_mul_of_pos_right hlg (Nat.two_pow_pos _)
      rw [← Nat.pow_add] at this
      exact Nat.lt_of_lt_of_le this (Nat.pow_le_pow_right (by omega) (by omega))
    have hk2 : 2 ^ (f.fractionBits + 1) = 2 * f.binade := by rw [Nat.pow_succ, Nat.mul_comm]; rfl
    have hm2 : (last - f.leastPlace).toNat * f.binade ≤ (top - f.fractionBits - f.leastPlace).toNat * f.binade := Nat.mul_le_mul_right _ (by omega)
    refine ⟨(last - f.leastPlace).toNat * f.binade + Toward.even.cut false (mag <<< (place - last).toNat) (last - place).toNat, by omega, ?_⟩
    rw [Nat.min_eq_left (by omega)]

/-- float32 of a float64 below 2^64: a finite float32 -/
theorem narrow (x : Nat) (h : isFin FloatKind.f64.format x) (hb : V FloatKind.f64.format (rung FloatKind.f64.format x) < 2 ^ (64 + ue .f64)) : ∃ g, floatToFloatBits .f64 x .f32 = some g ∧ isFin FloatKind.f32.format g := by
  obtain ⟨m, i, e, hv, hm⟩ := read_fin FloatKind.f64.format h
  have hl : m ≠ 0 → FloatKind.f64.format.leastPlace + (i : Int) + (m.log2 : Int) ≤ 63 := by
    intro h0
    rw [hu]
    have h1 := Nat.log2_self_le h0
    have h2 : 2 ^ (m.log2 + i) ≤ m * 2 ^ i := by rw [Nat.pow_add]; exact Nat.mul_le_mul_right _ h1
    rw [hv] at h2
    have h3 : m.log2 + i < 64 + ue .f64 := (Nat.pow_lt_pow_iff_right (by omega : 1 < 2)).1 (Nat.lt_of_le_of_lt h2 hb)
    omega
  obtain ⟨r, hr, hw⟩ := nearest_fin FloatKind.f32.format (negB FloatKind.f64.format x) m (FloatKind.f64.format.leastPlace + i) 63 (by decide +kernel) hl (by decide +kernel)
  refine ⟨FloatKind.f32.format.word (negB FloatKind.f64.format x) r, ?_, fin_word _ _ hr⟩
  unfold floatToFloatBits
  rw [if_neg (by decide)]
  show (match FloatKind.f64.format.read x with | .nan _ _ => none | .infinity s => some (FloatKind.f32.encode (.infinity s)) | .number s m e => if (FloatKind.f32.decode (FloatKind.f32.encode (.number s m e))).isInfinity then none else some (FloatKind.f32.encode (.number s m e))) = _
  rw [e]
  simp only
  have hw' : FloatKind.f32.encode (.number (negB FloatKind.f64.format x) m (FloatKind.f64.format.leastPlace + i)) = FloatKind.f32.format.word (negB FloatKind.f64.format x) r := hw
  rw [hw']
  have : (FloatKind.f32.decode (FloatKind.f32.format.word (negB FloatKind.f64.format x) r)).isInfinity = false := isInf_word _ _ hr
  rw [this]; rfl

/-- float32 of what float64 made of a finite float32: the same word (within its bits) -/
theorem narrow_widen (g : Nat) (h : isFin FloatKind.f32.format g) {d : Nat} (hd : isFin FloatKind.f64.format d) (hs : sv FloatKind.f64.format d = sv FloatKind.f32.format g * (P925 : Int)) (hn : negB FloatKind.f64.format d = negB FloatKind.f32.format g) :
    floatToFloatBits .f64 d .f32 = some (FloatKind.f32.format.word (negB FloatKind.f32.format g) (rung FloatKind.f32.format g)) := by
  obtain ⟨m, i, e, hv, _⟩ := read_fin FloatKind.f64.format hd
  have hV : m * 2 ^ i = V FloatKind.f32.format (rung FloatKind.f32.format g) * 2 ^ up := by
    rw [hv]
    unfold sv at hs
    rw [hn, ← sg_mul] at hs
    have := congrArg Int.natAbs hs
    have key : ∀ (s : Bool) (n : Nat), (sg s n).natAbs = n := by intro s n; cases s <;> simp [sg]
    rw [key, key] at this
    exact this
  have hw : FloatKind.f32.encode (.number (negB FloatKind.f64.format d) m (FloatKind.f64.format.leastPlace + i)) = FloatKind.f32.format.word (negB FloatKind.f32.format g) (rung FloatKind.f32.format g) := by
    show FloatKind.f32.format.nearest _ _ _ = _
    rw [hn]
    by_cases hi : up ≤ i
    · have e1 : 2 ^ i = 2 ^ (i - up) * 2 ^ up := by rw [← Nat.pow_add]; congr 1; omega
      rw [e1, ← Nat.mul_assoc] at hV
      have hV' := Nat.eq_of_mul_eq_mul_right (Nat.two_pow_pos up) hV
      have hp : FloatKind.f64.format.leastPlace + (i : Int) = FloatKind.f32.format.leastPlace + ((i - up : Nat) : Int) := by
        rw [hu, hu]; simp only [ue, up] at hi ⊢; omega
      rw [hp, nearest_units, hV', RN_V, Nat.min_eq_left (Nat.le_of_lt h)]
    · have e1 : 2 ^ up = 2 ^ (up - i) * 2 ^ i := by rw [← Nat.pow_add]; congr 1; omega
      rw [e1, ← Nat.mul_assoc] at hV
      have hV' := Nat.eq_of_mul_eq_mul_right (Nat.two_pow_pos i) hV
      have hp : FloatKind.f64.format.leastPlace + (i : Int) = FloatKind.f32.format.leastPlace - ((up - i : Nat) : Int) := by
        rw [hu, hu]; simp only [ue, up] at hi ⊢; omega
      rw [hp, hV', nearest_down, RN_V, Nat.min_eq_left (Nat.le_of_lt h)]
  unfold floatToFloatBits
  rw [if_neg (by decide)]
  show (match FloatKind.f64.format.read d with | .nan _ _ => none | .infinity s => some (FloatKind.f32.encode (.infinity s)) | .number s m e => if (FloatKind.f32.decode (FloatKind.f32.encode (.number s m e))).isInfinity then none else some (FloatKind.f32.encode (.number s m e))) = _
  rw [e]
  simp only
  rw [hw]
  have : (FloatKind.f32.decode (FloatKind.f32.format.word (negB FloatKind.f32.format g) (rung FloatKind.f32.format g))).isInfinity = false := isInf_word _ _ h
  rw [this]; rfl

/-- the whole part does not hang on the width -/
theorem tr_widen (g d : Nat) (hs : sv FloatKind.f64.format d = sv FloatKind.f32.format g * (P925 : Int)) (hn : negB FloatKind.f64.format d = negB FloatKind.f32.format g) : tr .f32 g = tr .f64 d := by
  unfold tr
  have hV : V FloatKind.f64.format (rung FloatKind.f64.format d) = V FloatKind.f32.format (rung FloatKind.f32.format g) * 2 ^ up := by
    unfold sv at hs
    rw [hn, ← sg_mul] at hs
    have := congrArg Int.natAbs hs
    have key : ∀ (s : Bool) (n : Nat), (sg s n).natAbs = n := by intro s n; cases s <;> simp [sg]
    rw [key, key] at this
    exact this
  have hu2 : 2 ^ ue .f64 = 2 ^ ue .f32 * 2 ^ up := by
    rw [← Nat.pow_add]
    exact congrArg (fun z => 2 ^ z) (by decide : ue .f64 = ue .f32 + up)
  rw [hn, hV, hu2, Nat.mul_div_mul_right _ _ (Nat.two_pow_pos _)]

end Fl
