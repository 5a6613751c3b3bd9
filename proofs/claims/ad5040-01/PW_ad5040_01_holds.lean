import PyProof.Rows.All
import Wide.All
import OpenK.AllK
import Wide.FinOn
import PySem.Challenge.RW_ad5040_01
set_option Elab.async false

section
set_option maxRecDepth 100000
namespace Mine
open PySem PySem.Float64 PySem.Flt

/-- a number below 2^53, at a middling place, is a float's -/
theorem rep (n E : Nat) (hn : n ≤ 2 ^ 53) (hE : 52 ≤ E) (hE2 : E ≤ 1900) : ∃ t, t < infMag - 1 ∧ V t = n * 2 ^ E := by
  have hi : infMag = 2047 * 2 ^ 52 := rfl
  by_cases h0 : n = 0
  · subst h0
    exact ⟨0, by rw [hi]; decide, by unfold V; simp⟩
  by_cases h53 : n = 2 ^ 53
  · refine ⟨E * 2 ^ 52 + n, by omega, ?_⟩
    exact V_at (by omega) (.inl (by omega))
  have hl : n.log2 ≤ 52 := by
    have := (Nat.log2_lt h0).mpr (show n < 2 ^ 53 by omega)
    omega
  have h1 : 2 ^ n.log2 ≤ n := Nat.log2_self_le h0
  have h2 : n < 2 ^ (n.log2 + 1) := Nat.lt_log2_self
  have hp : 2 ^ n.log2 * 2 ^ (52 - n.log2) = 2 ^ 52 := by rw [← Nat.pow_add]; congr 1; omega
  have hp2 : 2 ^ (n.log2 + 1) * 2 ^ (52 - n.log2) = 2 ^ 53 := by rw [← Nat.pow_add]; congr 1; omega
  have a1 : 2 ^ 52 ≤ n * 2 ^ (52 - n.log2) := by rw [← hp]; exact Nat.mul_le_mul_right _ h1
  have a2 : n * 2 ^ (52 - n.log2) < 2 ^ 53 := by rw [← hp2]; exact Nat.mul_lt_mul_of_pos_right h2 (Nat.two_pow_pos _)
  refine ⟨(E - (52 - n.log2)) * 2 ^ 52 + n * 2 ^ (52 - n.log2), by omega, ?_⟩
  rw [V_at (by omega) (.inl a1), Nat.mul_assoc, ← Nat.pow_add]
  congr 2
  omega

theorem V_inj {t t' : Nat} (h : V t = V t') : t = t' := by
  rcases Nat.lt_trichotomy t t' with q | q | q
  · have := V_lt q; omega
  · exact q
  · have := V_lt q; omega

theorem V_top : V (infMag - 1) = (2 ^ 53 - 1) * 2 ^ 2045 := by
  have e : infMag - 1 = 2045 * 2 ^ 52 + (2 ^ 53 - 1) := by unfold infMag; omega
  rw [e]
  exact V_at (k := 2045) (q := 2 ^ 53 - 1) (by omega) (.inl (by omega))

theorem small_of {W D t : Nat} (hD : 0 < D) (ht : t < infMag) (hW : W ≤ D * V t) : ¬ (D * ((2 ^ 54 - 1) * 2 ^ 2045) ≤ 2 * W) := by
  have h1 : V t ≤ (2 ^ 53 - 1) * 2 ^ 2045 := by rw [← V_top]; exact V_mono (by omega)
  have hZ : (0 : Nat) < 2 ^ 2045 := Nat.two_pow_pos _
  have h2 : D * V t ≤ D * ((2 ^ 53 - 1) * 2 ^ 2045) := Nat.mul_le_mul_left D h1
  have h3 : 2 * (D * ((2 ^ 53 - 1) * 2 ^ 2045)) < D * ((2 ^ 54 - 1) * 2 ^ 2045) := by
    rw [Nat.mul_left_comm]
    refine Nat.mul_lt_mul_of_pos_left ?_ hD
    generalize (2 : Nat) ^ 2045 = Z at *
    omega
  generalize D * ((2 ^ 53 - 1) * 2 ^ 2045) = a at *
  generalize D * ((2 ^ 54 - 1) * 2 ^ 2045) = b at *
  omega

theorem right_exact {x : UInt64} {s : Bool} {W D t : Nat} (hD : 0 < D) (ht : t < infMag) (h : Right x s W D) (hW : W = D * V t) : x = pack s t := by
  obtain ⟨t0, e, h1, h2, h3⟩ := h
  have hn := small_of hD ht (Nat.le_of_eq hW)
  have hlt : t0 < infMag := by
    rcases Nat.lt_or_ge t0 infMag with q | q
    · exact q
    · exact absurd (h2.mp (by omega)) hn
  have h4 := (h3 hlt t).1
  subst hW
  have h5 : dist (D * V t) (D * V t) = 0 := by unfold dist; omega
  rw [h5] at h4
  have h6 : D * V t0 = D * V t := by unfold dist at h4; omega
  have h7 := V_inj (Nat.eq_of_mul_eq_mul_left hD h6)
  rw [e, h7]

def q4 (n : Int) : UInt64 := ofBin (decide (n < 0)) n.natAbs (-2)

theorem q4_right (n : Int) : Right (q4 n) (decide (n < 0)) (n.natAbs * 2 ^ 1072) 1 := by
  have e : q4 n = ofFrac (decide (n < 0)) n.natAbs 4 := by
    unfold q4 ofBin shift
    rw [if_neg (by decide)]
    rfl
  rw [e]
  refine ofFrac_right (by decide) ?_ (by decide)
  have : (2 : Nat) ^ 1074 = 2 ^ 1072 * 4 := by rw [show (4 : Nat) = 2 ^ 2 from rfl, ← Nat.pow_add]
  rw [this]
  generalize (2 : Nat) ^ 1072 = K
  rw [Nat.mul_one, Nat.mul_assoc]

abbrev Fits (n : Int) : Prop := -9007199254740992 ≤ n ∧ n ≤ 9007199254740992

theorem q4_pack {n : Int} (h : Fits n) : ∃ t, t < infMag - 1 ∧ V t = n.natAbs * 2 ^ 1072 ∧ q4 n = pack (decide (n < 0)) t := by
  obtain ⟨t, h1, h2⟩ := rep n.natAbs 1072 (by unfold Fits at h; omega) (by decide) (by decide)
  exact ⟨t, h1, h2, right_exact (by decide) (by omega) (q4_right n) (by rw [Nat.one_mul, h2])⟩

theorem eq_q4 {x : UInt64} {n : Int} {W D : Nat} (h : Fits n) (hD : 0 < D) (hr : Right x (decide (n < 0)) W D) (hW : W = D * (n.natAbs * 2 ^ 1072)) : x = q4 n := by
  obtain ⟨t, h1, h2, h3⟩ := q4_pack h
  rw [h3]
  exact right_exact hD (by omega) hr (by rw [h2]; exact hW)

theorem q4_fin {n : Int} (h : Fits n) : ∃ m e, decode (q4 n) = .fin (decide (n < 0)) m e ∧ val (q4 n) = n * (2 ^ 1072 : Nat) := by
  obtain ⟨t, h1, h2, h3⟩ := q4_pack h
  obtain ⟨m, e, h4, h5⟩ := decode_pack (decide (n < 0)) (t := t) (by omega)
  refine ⟨m, e, by rw [h3]; exact h4, ?_⟩
  rw [h3, val_pack _ (by omega), h2, sgn_mul]
  congr 1
  unfold sgn
  by_cases hn : n < 0
  · simp only [hn, decide_true, if_true]; omega
  · simp only [hn, decide_false, Bool.false_eq_true, if_false]; omega

theorem q4_finite {n : Int} (h : Fits n) : isFinite (q4 n) = true := by
  obtain ⟨m, e, h1, _⟩ := q4_fin h
  unfold isFinite; rw [h1]

theorem zero_q4 : zero false = q4 0 := by decide +kernel

theorem mulK {p q : Int} {K : Nat} (hK : 0 < K) (h : p * (K : Int) = q * (K : Int)) : p = q := Int.eq_of_mul_eq_mul_right (by omega) h
theorem negK (p : Int) {K : Nat} (hK : 0 < K) : decide (p * (K : Int) < 0) = decide (p < 0) := by
  apply decide_eq_decide.mpr
  constructor
  · intro h
    by_cases h2 : p < 0
    · exact h2
    · have := Int.mul_nonneg (show 0 ≤ p by omega) (Int.natCast_nonneg K); omega
  · intro h
    exact Int.mul_neg_of_neg_of_pos h (by omega)

theorem natAbsK (p : Int) (K : Nat) : (p * (K : Int)).natAbs = p.natAbs * K := by rw [Int.natAbs_mul, Int.natAbs_natCast]

theorem q4_add {a b : Int} (ha : Fits a) (hb : Fits b) (hc : Fits (a + b)) : add (q4 a) (q4 b) = q4 (a + b) := by
  obtain ⟨m, e, h1, h2⟩ := q4_fin ha
  obtain ⟨k, f, h3, h4⟩ := q4_fin hb
  have hr := add_right h1 h3
  have hK : 0 < 2 ^ 1072 := Nat.two_pow_pos _
  rw [h2, h4, ← Int.add_mul] at hr
  by_cases h0 : a + b = 0
  · rw [hr.1 (by rw [h0, Int.zero_mul])]
    have : (decide (a < 0) && decide (b < 0)) = false := by
      by_cases q : a < 0
      · have : ¬ b < 0 := by omega
        simp [this]
      · simp [q]
    rw [this, h0, zero_q4]
  · have hne : (a + b) * ((2 ^ 1072 : Nat) : Int) ≠ 0 := by
      intro h
      exact h0 (mulK hK (by rw [h, Int.zero_mul]))
    have h5 := hr.2 hne
    rw [negK _ hK] at h5
    refine eq_q4 hc (by decide) h5 ?_
    rw [Nat.one_mul, Int.natAbs_mul, Int.natAbs_natCast]

theorem q4_sub {a b : Int} (ha : Fits a) (hb : Fits b) (hc : Fits (a - b)) : sub (q4 a) (q4 b) = q4 (a - b) := by
  obtain ⟨m, e, h1, h2⟩ := q4_fin ha
  obtain ⟨k, f, h3, h4⟩ := q4_fin hb
  have hr := sub_right h1 h3
  have hK : 0 < 2 ^ 1072 := Nat.two_pow_pos _
  rw [h2, h4, ← Int.sub_mul] at hr
  by_cases h0 : a - b = 0
  · rw [hr.1 (by rw [h0, Int.zero_mul])]
    have : (decide (a < 0) && !decide (b < 0)) = false := by
      have : a = b := by omega
      subst this
      cases decide (a < 0) <;> rfl
    rw [this, h0, zero_q4]
  · have hne : (a - b) * ((2 ^ 1072 : Nat) : Int) ≠ 0 := by
      intro h
      exact h0 (mulK hK (by rw [h, Int.zero_mul]))
    have h5 := hr.2 hne
    rw [negK _ hK] at h5
    refine eq_q4 hc (by decide) h5 ?_
    rw [Nat.one_mul, Int.natAbs_mul, Int.natAbs_natCast]

theorem pow_1074 : (2 : Nat) ^ 1074 = 2 ^ 1072 * 4 := by rw [show (4 : Nat) = 2 ^ 2 from rfl, ← Nat.pow_add]

theorem q4_ofInt {i : Int} (h : Fits (4 * i)) : ofInt i = q4 (4 * i) := by
  have hr := ofInt_right i
  have e : decide (i < 0) = decide (4 * i < 0) := decide_eq_decide.mpr (by omega)
  rw [e] at hr
  refine eq_q4 h (by decide) hr ?_
  have : (4 * i).natAbs = 4 * i.natAbs := by omega
  rw [this, pow_1074]
  generalize (2 : Nat) ^ 1072 = K
  rw [Nat.one_mul, Nat.mul_comm 4, Nat.mul_comm K, Nat.mul_assoc]

theorem q4_mul {a b : Int} (ha : Fits a) (hb : Fits (4 * b)) (hb0 : 0 < b) (hc : Fits (a * b)) : mul (q4 a) (q4 (4 * b)) = q4 (a * b) := by
  obtain ⟨m, e, h1, h2⟩ := q4_fin ha
  obtain ⟨k, f, h3, h4⟩ := q4_fin hb
  have hr := mul_right h1 h3
  rw [h2, h4] at hr
  have e1 : (decide (a < 0) != decide (4 * b < 0)) = decide (a * b < 0) := by
    have h5 : ¬ (4 * b < 0) := by omega
    have h6 : (a * b < 0) ↔ a < 0 := by
      constructor
      · intro h
        by_cases q : a < 0
        · exact q
        · have := Int.mul_nonneg (show 0 ≤ a by omega) (Int.le_of_lt hb0); omega
      · intro h
        exact Int.mul_neg_of_neg_of_pos h hb0
    have h7 : decide (a * b < 0) = decide (a < 0) := decide_eq_decide.mpr h6
    rw [h7]
    simp [h5]
  rw [e1] at hr
  refine eq_q4 hc (Nat.two_pow_pos _) hr ?_
  have h8 : (4 * b).natAbs = 4 * b.natAbs := by omega
  rw [natAbsK, natAbsK, Int.natAbs_mul a b, h8, pow_1074]
  generalize (2 : Nat) ^ 1072 = K
  ac_rfl

/-- the same with the int on the left's side -/
theorem q4_mulR {a b : Int} (ha : Fits a) (hb : Fits (4 * b)) (ha0 : 0 < a) (hc : Fits (a * b)) : mul (q4 a) (q4 (4 * b)) = q4 (a * b) := by
  obtain ⟨m, e, h1, h2⟩ := q4_fin ha
  obtain ⟨k, f, h3, h4⟩ := q4_fin hb
  have hr := mul_right h1 h3
  rw [h2, h4] at hr
  have e1 : (decide (a < 0) != decide (4 * b < 0)) = decide (a * b < 0) := by
    have h5 : ¬ (a < 0) := by omega
    have h6 : (a * b < 0) ↔ 4 * b < 0 := by
      constructor
      · intro h
        by_cases q : b < 0
        · omega
        · have := Int.mul_nonneg (Int.le_of_lt ha0) (show 0 ≤ b by omega); omega
      · intro h
        exact Int.mul_neg_of_pos_of_neg ha0 (by omega)
    have h7 : decide (a * b < 0) = decide (4 * b < 0) := decide_eq_decide.mpr h6
    rw [h7]
    simp [h5]
  rw [e1] at hr
  refine eq_q4 hc (Nat.two_pow_pos _) hr ?_
  have h8 : (4 * b).natAbs = 4 * b.natAbs := by omega
  rw [natAbsK, natAbsK, Int.natAbs_mul a b, h8, pow_1074]
  generalize (2 : Nat) ^ 1072 = K
  ac_rfl

theorem q4_cmpInt {a i : Int} (ha : Fits a) : cmpInt (q4 a) i = some (compare a (4 * i)) := by
  obtain ⟨m, e, h1, h2⟩ := q4_fin ha
  rw [cmpInt_right h1, h2]
  have hK : 0 < 2 ^ 1072 := Nat.two_pow_pos _
  have e1 : i * 2 ^ 1074 = (4 * i) * ((2 ^ 1072 : Nat) : Int) := by
    have : ((2 : Int) ^ 1074) = ((2 ^ 1074 : Nat) : Int) := by simp
    rw [this, pow_1074]
    generalize (2 : Nat) ^ 1072 = K
    rw [Int.natCast_mul]
    rw [Int.mul_comm 4 i, Int.mul_assoc, Int.mul_comm (K : Int)]
    rfl
  rw [e1]
  have hpos : (0 : Int) < ((2 ^ 1072 : Nat) : Int) := by omega
  generalize ((2 ^ 1072 : Nat) : Int) = K at *
  congr 1
  rcases Int.lt_trichotomy a (4 * i) with h | h | h
  · rw [Int.compare_eq_lt.mpr h, Int.compare_eq_lt.mpr (Int.mul_lt_mul_of_pos_right h hpos)]
  · rw [h]; simp
  · rw [Int.compare_eq_gt.mpr h, Int.compare_eq_gt.mpr (Int.mul_lt_mul_of_pos_right h hpos)]

theorem q4_lt_int {a i : Int} (ha : Fits a) : (cmpInt (q4 a) i == some Ordering.lt) = decide (a < 4 * i) := by
  rw [q4_cmpInt ha]
  by_cases h : a < 4 * i
  · rw [Int.compare_eq_lt.mpr h]; simp [h]
  · simp only [h, decide_false]
    rcases Int.lt_trichotomy a (4 * i) with q | q | q
    · exact absurd q h
    · rw [q]; simp
    · rw [Int.compare_eq_gt.mpr q]; rfl
end Mine
end

section
set_option maxRecDepth 100000
set_option exponentiation.threshold 3000
namespace Mine
open PySem PySem.Float64 PySem.Flt

theorem sgn_floor {x : UInt64} {s : Bool} {m : Nat} {e : Int} (h : decode x = .fin s m e) : floorOf s m e = val x / (2 ^ 1074 : Nat) := by
  have he := decode_ge h
  rw [val_eq h, sgn_mul]
  unfold floorOf
  split
  · rename_i h0
    have e1 : (e + 1074).toNat = e.toNat + 1074 := by omega
    rw [e1, Nat.pow_add, Int.natCast_mul, ← Int.mul_assoc, Int.mul_ediv_cancel _ (by have := Nat.two_pow_pos 1074; omega)]
    simp
  · rename_i h0
    have e1 : 1074 = (-e).toNat + (e + 1074).toNat := by omega
    have hp : (0 : Int) < ((2 ^ (e + 1074).toNat : Nat) : Int) := by have := Nat.two_pow_pos (e + 1074).toNat; omega
    have e2 : ((2 ^ 1074 : Nat) : Int) = ((2 ^ (-e).toNat : Nat) : Int) * ((2 ^ (e + 1074).toNat : Nat) : Int) := by
      rw [← Int.natCast_mul, ← Nat.pow_add, ← e1]
    rw [e2, Int.mul_ediv_mul_of_pos_left _ _ hp]
    rw [Int.fdiv_eq_ediv_of_nonneg]
    · simp
    · exact Int.le_of_lt (Int.pow_pos (by decide))

theorem toInt_floor {x : UInt64} {s : Bool} {m : Nat} {e : Int} (h : decode x = .fin s m e) : toInt floorOf x = val x / (2 ^ 1074 : Nat) := by
  rw [toInt_fin h, sgn_floor h]

theorem toInt_trunc {x : UInt64} {s : Bool} {m : Nat} {e : Int} (h : decode x = .fin s m e) : toInt truncOf x = sgn s ((val x).natAbs / 2 ^ 1074) := by
  rw [toInt_fin h]
  have he := decode_ge h
  have key : floorOf false m e = ((m * 2 ^ (e + 1074).toNat / 2 ^ 1074 : Nat) : Int) := by
    unfold floorOf
    split
    · rename_i h0
      have e1 : (e + 1074).toNat = e.toNat + 1074 := by omega
      rw [e1, Nat.pow_add, ← Nat.mul_assoc, Nat.mul_div_cancel _ (Nat.two_pow_pos _)]
      simp [sgn]
    · rename_i h0
      have e1 : 1074 = (-e).toNat + (e + 1074).toNat := by omega
      have hp := Nat.two_pow_pos (e + 1074).toNat
      have e2 : 2 ^ 1074 = 2 ^ (-e).toNat * 2 ^ (e + 1074).toNat := by rw [← Nat.pow_add, ← e1]
      rw [e2, Nat.mul_div_mul_right _ _ hp, Int.fdiv_eq_ediv_of_nonneg]
      · simp [sgn]
      · exact Int.le_of_lt (Int.pow_pos (by decide))
  rw [val_natAbs h]
  unfold truncOf
  cases s
  · simp only [Bool.false_eq_true, if_false, key]
    unfold sgn; simp
  · simp only [if_true]
    unfold ceilOf
    simp only [Bool.not_true, key]
    unfold sgn; simp

theorem q4_floor {n : Int} (h : Fits n) : toInt floorOf (q4 n) = n / 4 := by
  obtain ⟨m, e, h1, h2⟩ := q4_fin h
  rw [toInt_floor h1, h2, pow_1074, Int.natCast_mul]
  have hK : 0 < 2 ^ 1072 := Nat.two_pow_pos _
  generalize (2 : Nat) ^ 1072 = K at *
  rw [Int.mul_comm (K : Int), Int.mul_ediv_mul_of_pos_left _ _ (by omega)]
  rfl

theorem q4_trunc {n : Int} (h : Fits n) : toInt truncOf (q4 n) = if n < 0 then -((-n) / 4) else n / 4 := by
  obtain ⟨m, e, h1, h2⟩ := q4_fin h
  rw [toInt_trunc h1, h2, natAbsK, pow_1074]
  have hK : 0 < 2 ^ 1072 := Nat.two_pow_pos _
  generalize (2 : Nat) ^ 1072 = K at *
  rw [Nat.mul_comm K, Nat.mul_div_mul_right _ _ hK]
  unfold sgn
  by_cases hn : n < 0
  · simp only [hn, decide_true, if_true]; omega
  · simp only [hn, decide_false, Bool.false_eq_true, if_false]; omega

/-- the heart: a quotient c / b, rightly rounded, lies between the same two ints -/
theorem quot_core {r : UInt64} {s : Bool} {W D c b : Nat} (hD : 0 < D) (hb : 0 < b) (hb2 : b ≤ 2 ^ 18) (hk : c / b < 2 ^ 34)
    (hW : W * b = c * 2 ^ 1074 * D) (hr : Right r s W D) :
    ∃ t, t < infMag ∧ r = pack s t ∧ c / b * 2 ^ 1074 ≤ V t ∧ V t < (c / b + 1) * 2 ^ 1074 ∧ (c % b = 0 → V t = c / b * 2 ^ 1074) ∧ (c % b ≠ 0 → c / b * 2 ^ 1074 < V t) := by
  obtain ⟨t, e, h1, h2, h3⟩ := hr
  have hc := Nat.div_add_mod c b
  have hm := Nat.mod_lt c hb
  generalize hkk : c / b = k at *
  generalize hrr : c % b = q at *
  -- representable bounds
  obtain ⟨ta, ha1, ha2⟩ := rep k 1074 (by omega) (by decide) (by decide)
  obtain ⟨tb, hb1, hb3⟩ := rep (k * 2 ^ 18 + 1) 1056 (by omega) (by decide) (by decide)
  obtain ⟨tc, hc1, hc2⟩ := rep (k * 2 ^ 18 + (2 ^ 18 - 1)) 1056 (by omega) (by decide) (by decide)
  obtain ⟨td, hd1, hd2⟩ := rep (k + 1) 1074 (by omega) (by decide) (by decide)
  have hp : (2 : Nat) ^ 1074 = 2 ^ 18 * 2 ^ 1056 := by rw [← Nat.pow_add]
  have hZ : 0 < (2 : Nat) ^ 1056 := Nat.two_pow_pos _
  rw [hp] at hW ha2 hd2 ⊢
  clear hp
  generalize (2 : Nat) ^ 1056 = Z at *
  -- sizes, times b
  have hcZ : c * (2 ^ 18 * Z) = b * (k * (2 ^ 18 * Z)) + q * (2 ^ 18 * Z) := by rw [← hc, Nat.add_mul, Nat.mul_assoc]
  -- W lies at or above D * (k 2^18 Z), below D * ((k 2^18 + 2^18 - 1) Z)
  have lowA : D * V ta ≤ W := by
    refine Nat.le_of_mul_le_mul_right (c := b) ?_ hb
    rw [hW, hcZ, ha2, Nat.add_mul]
    refine Nat.le_trans (Nat.le_of_eq ?_) (Nat.le_add_right _ _)
    ac_rfl
  have upD : W < D * V td := by
    refine Nat.lt_of_mul_lt_mul_right (a := b) ?_
    rw [hW, hcZ, hd2, show D * ((k + 1) * (2 ^ 18 * Z)) * b = (b * (k * (2 ^ 18 * Z)) + b * (2 ^ 18 * Z)) * D by rw [Nat.add_mul k 1, Nat.one_mul]; rw [Nat.mul_add, Nat.add_mul, Nat.add_mul]; ac_rfl]
    refine Nat.mul_lt_mul_of_pos_right ?_ hD
    refine Nat.add_lt_add_left ?_ _
    exact Nat.mul_lt_mul_of_pos_right hm (by omega)
  have upC : W ≤ D * V tc := by
    refine Nat.le_of_mul_le_mul_right (c := b) ?_ hb
    rw [hW, hcZ, hc2]
    have e1 : D * ((k * 2 ^ 18 + (2 ^ 18 - 1)) * Z) * b = (b * (k * (2 ^ 18 * Z)) + b * (2 ^ 18 - 1) * Z) * D := by rw [Nat.add_mul (k * 2 ^ 18), Nat.mul_add, Nat.add_mul, Nat.add_mul]; ac_rfl
    rw [e1]
    refine Nat.mul_le_mul_right _ (Nat.add_le_add_left ?_ _)
    rw [← Nat.mul_assoc]
    refine Nat.mul_le_mul_right _ ?_
    have : q + 1 ≤ b := hm
    omega
  have lowB : q ≠ 0 → D * V tb ≤ W := by
    intro hq
    refine Nat.le_of_mul_le_mul_right (c := b) ?_ hb
    rw [hW, hcZ, hb3]
    have e1 : D * ((k * 2 ^ 18 + 1) * Z) * b = (b * (k * (2 ^ 18 * Z)) + b * Z) * D := by rw [Nat.add_mul (k * 2 ^ 18), Nat.mul_add, Nat.add_mul, Nat.add_mul]; rw [Nat.one_mul]; ac_rfl
    rw [e1]
    refine Nat.mul_le_mul_right _ (Nat.add_le_add_left ?_ _)
    rw [← Nat.mul_assoc]
    refine Nat.mul_le_mul_right _ ?_
    have : 1 * 2 ^ 18 ≤ q * 2 ^ 18 := Nat.mul_le_mul_right _ (by omega)
    omega
  have hlt : t < infMag := by
    rcases Nat.lt_or_ge t infMag with x | x
    · exact x
    · exact absurd (h2.mp (by omega)) (small_of hD (by omega) (Nat.le_of_lt upD))
  have near := fun t' => (h3 hlt t').1
  have below : ∀ t', D * V t' ≤ W → V t' ≤ V t := by
    intro t' hle
    rcases Nat.lt_or_ge (V t) (V t') with x | x
    · have := near t'
      have y : D * V t < D * V t' := Nat.mul_lt_mul_of_pos_left x hD
      unfold dist at this
      omega
    · exact x
  have above : ∀ t', W ≤ D * V t' → V t ≤ V t' := by
    intro t' hle
    rcases Nat.lt_or_ge (V t') (V t) with x | x
    · have := near t'
      have y : D * V t' < D * V t := Nat.mul_lt_mul_of_pos_left x hD
      unfold dist at this
      omega
    · exact x
  refine ⟨t, hlt, e, ?_, ?_, ?_, ?_⟩
  · rw [← ha2]; exact below _ lowA
  · have x := above _ upC
    rw [hc2] at x
    refine Nat.lt_of_le_of_lt x ?_
    rw [← Nat.mul_assoc]
    exact Nat.mul_lt_mul_of_pos_right (by omega) hZ
  · intro hq
    have hWe : W = D * V ta := by
      refine Nat.eq_of_mul_eq_mul_right hb ?_
      rw [hW, hcZ, ha2, hq, Nat.zero_mul, Nat.add_zero]
      ac_rfl
    rw [← ha2]
    exact Nat.le_antisymm (above _ (Nat.le_of_eq hWe)) (below _ lowA)
  · intro hq
    have x := below _ (lowB hq)
    rw [hb3] at x
    refine Nat.lt_of_lt_of_le ?_ x
    rw [← Nat.mul_assoc]
    exact Nat.mul_lt_mul_of_pos_right (by omega) hZ

/-- what a rightly rounded quotient of a by b tells -/
theorem quot_says {r : UInt64} {a b : Int} {W D : Nat} (hD : 0 < D) (hb : 0 < b) (hb2 : b ≤ 262144) (hk : -17179869180 * b < a) (hk2 : a < 17179869180 * b)
    (hW : W * b.natAbs = a.natAbs * 2 ^ 1074 * D) (hr : Right r (decide (a < 0)) W D) :
    isFinite r = true ∧ toInt floorOf r = a / b ∧ toInt truncOf r = (if a < 0 then -((-a) / b) else a / b) := by
  have hkk : a.natAbs / b.natAbs < 2 ^ 34 := by
    rw [Nat.div_lt_iff_lt_mul (by omega)]
    omega
  obtain ⟨t, h1, h2, h3, h4, h5, h6⟩ := quot_core hD (show 0 < b.natAbs by omega) (by omega) hkk hW hr
  obtain ⟨m, e, h7, h8⟩ := decode_pack (decide (a < 0)) (t := t) h1
  have hv : val r = sgn (decide (a < 0)) (V t) := by rw [h2]; exact val_pack _ h1
  rw [← h2] at h7
  have hq : (a.natAbs : Int) / b = ((a.natAbs / b.natAbs : Nat) : Int) := by
    rw [Int.natCast_ediv]; congr 1; omega
  have hvq : V t / 2 ^ 1074 = a.natAbs / b.natAbs := Nat.div_eq_of_lt_le h3 h4
  refine ⟨by unfold isFinite; rw [h7], ?_, ?_⟩
  · rw [toInt_floor h7, hv]
    by_cases hn : a < 0
    · simp only [hn, decide_true]
      have hs : sgn true (V t) = -(V t : Int) := by unfold sgn; simp
      rw [hs]
      have ha : a = -(a.natAbs : Int) := by omega
      have hdm := Nat.div_add_mod a.natAbs b.natAbs
      have hml := Nat.mod_lt a.natAbs (show 0 < b.natAbs by omega)
      have hbb : (b.natAbs : Int) = b := by omega
      by_cases hz : a.natAbs % b.natAbs = 0
      · rw [h5 hz]
        have e1 : a = b * (-((a.natAbs / b.natAbs : Nat) : Int)) := by
          rw [hz, Nat.add_zero] at hdm
          generalize a.natAbs / b.natAbs = k at *
          rw [Int.mul_neg, ← hbb, ← Int.natCast_mul, hdm]
          exact ha
        conv => rhs; rw [e1]
        rw [Int.mul_ediv_cancel_left _ (by omega), Int.natCast_mul, ← Int.neg_mul, Int.mul_ediv_cancel _ (by have := Nat.two_pow_pos 1074; omega)]
      · have h6 := h6 hz
        have e1 : a / b = -((a.natAbs / b.natAbs : Nat) : Int) - 1 := by
          generalize hK : a.natAbs / b.natAbs = k at *
          generalize hQ : a.natAbs % b.natAbs = q at *
          have : a = b * (-(k : Int) - 1) + (b - q) := by
            rw [Int.mul_sub, Int.mul_neg, ← hbb, ← Int.natCast_mul, Int.mul_one]
            omega
          rw [this, Int.add_comm, Int.add_mul_ediv_left _ _ (by omega), Int.ediv_eq_zero_of_lt (by omega) (by omega)]
          omega
        rw [e1]
        have hZ : 0 < (2 : Nat) ^ 1074 := Nat.two_pow_pos _
        generalize (2 : Nat) ^ 1074 = Z at *
        generalize a.natAbs / b.natAbs = k at *
        generalize V t = v at *
        have e2 : -(v : Int) = (Z : Int) * (-(k : Int) - 1) + ((k + 1) * Z - v : Nat) := by
          have : v ≤ (k + 1) * Z := Nat.le_of_lt h4
          rw [Int.natCast_sub this, Int.natCast_mul, Int.mul_sub, Int.mul_neg, Int.natCast_add, Int.add_mul, Int.mul_comm (Z : Int)]
          omega
        rw [e2, Int.add_comm, Int.add_mul_ediv_left _ _ (by omega), Int.ediv_eq_zero_of_lt (by omega) ?_]
        · omega
        · have e3 : (k + 1) * Z = k * Z + Z := by rw [Nat.add_mul, Nat.one_mul]
          omega
    · simp only [hn, decide_false]
      have hs : sgn false (V t) = (V t : Int) := by unfold sgn; simp
      rw [hs, ← Int.natCast_ediv, hvq, ← hq]
      congr 1; omega
  · rw [toInt_trunc h7, hv, sgn_natAbs, hvq]
    unfold sgn
    by_cases hn : a < 0
    · simp only [hn, decide_true, if_true]
      rw [← hq]
      congr 2; omega
    · simp only [hn, decide_false, if_false, Bool.false_eq_true]
      rw [← hq]
      congr 1; omega

theorem quot_ii {a b : Int} (hb : 0 < b) (hb2 : b ≤ 262144) (hk : -17179869180 * b < a) (hk2 : a < 17179869180 * b) :
    isFinite (ofFrac (decide (a < 0) != decide (b < 0)) a.natAbs b.natAbs) = true
    ∧ toInt floorOf (ofFrac (decide (a < 0) != decide (b < 0)) a.natAbs b.natAbs) = a / b
    ∧ toInt truncOf (ofFrac (decide (a < 0) != decide (b < 0)) a.natAbs b.natAbs) = (if a < 0 then -((-a) / b) else a / b) := by
  have e : (decide (a < 0) != decide (b < 0)) = decide (a < 0) := by
    have : ¬ b < 0 := by omega
    simp [this]
  rw [e]
  refine quot_says (W := a.natAbs * 2 ^ 1074) (D := b.natAbs) (by omega) hb hb2 hk hk2 rfl ?_
  exact ofFrac_right (by omega) rfl (by omega)

theorem quot_fi {a b : Int} (ha : Fits (4 * a)) (hb : 0 < b) (hb2 : b ≤ 262144) (hk : -17179869180 * b < a) (hk2 : a < 17179869180 * b) :
    isFinite (div (q4 (4 * a)) (ofInt b)) = true
    ∧ toInt floorOf (div (q4 (4 * a)) (ofInt b)) = a / b := by
  have hfb : Fits (4 * b) := by unfold Fits; omega
  rw [q4_ofInt hfb]
  obtain ⟨m, e, h1, h2⟩ := q4_fin ha
  obtain ⟨k, f, h3, h4⟩ := q4_fin hfb
  have hk0 : k ≠ 0 := by
    intro h0
    have := val_natAbs h3
    rw [h4, h0, Nat.zero_mul, natAbsK] at this
    have hK : 0 < (2 : Nat) ^ 1072 := Nat.two_pow_pos _
    rcases Nat.mul_eq_zero.mp this with h | h <;> omega
  have hr := div_right h1 h3 hk0
  have e1 : (decide (4 * a < 0) != decide (4 * b < 0)) = decide (a < 0) := by
    have : ¬ 4 * b < 0 := by omega
    simp only [this, decide_false, Bool.bne_false]
    exact decide_eq_decide.mpr (by omega)
  rw [e1, h2, h4, natAbsK, natAbsK] at hr
  have hK : 0 < (2 : Nat) ^ 1072 := Nat.two_pow_pos _
  have hs := quot_says (Nat.mul_pos (show 0 < (4 * b).natAbs by omega) hK) hb hb2 hk hk2 ?_ hr
  · exact ⟨hs.1, hs.2.1⟩
  · have e2 : (4 * a).natAbs = 4 * a.natAbs := by omega
    have e3 : (4 * b).natAbs = 4 * b.natAbs := by omega
    rw [e2, e3]
    generalize (2 : Nat) ^ 1072 = K
    generalize (2 : Nat) ^ 1074 = J
    ac_rfl
end Mine
end

section
set_option maxRecDepth 100000
set_option exponentiation.threshold 3000
namespace Mine
open PySem PySem.Float64 PySem.Flt

theorem fmod_val {x y : UInt64} {a b : Bool} {m k : Nat} {e f : Int} (hx : decode x = .fin a m e) (hy : decode y = .fin b k f) (hk : k ≠ 0) :
    Right (fmod x y) a ((val x).natAbs % (val y).natAbs) 1 := by
  have he := decode_ge hx
  have hf := decode_ge hy
  have h1 : fmod x y = ofBin a ((m * 2 ^ (e - min e f).toNat) % (k * 2 ^ (f - min e f).toNat)) (min e f) := by
    unfold fmod
    rw [hx, hy]
    simp only
    rw [if_neg (by simpa using hk)]
    rfl
  have e1 : (val x).natAbs = m * 2 ^ (e - min e f).toNat * 2 ^ (min e f + 1074).toNat := by
    rw [val_natAbs hx, Nat.mul_assoc, ← Nat.pow_add]; congr 2; omega
  have e2 : (val y).natAbs = k * 2 ^ (f - min e f).toNat * 2 ^ (min e f + 1074).toNat := by
    rw [val_natAbs hy, Nat.mul_assoc, ← Nat.pow_add]; congr 2; omega
  rw [h1, e1, e2, Nat.mul_mod_mul_right]
  generalize (m * 2 ^ (e - min e f).toNat) % (k * 2 ^ (f - min e f).toNat) = n
  unfold ofBin
  refine ofFrac_right (shift_pos _ _ _ (by decide)) ?_ (by decide)
  have := shift_one n (min e f) 1074 (by omega)
  rw [Nat.mul_one]
  exact this

theorem nz_of {b : Int} (hfb : Fits (4 * b)) (hb : 0 < b) {f : Bool} {k : Nat} {e : Int} (h3 : decode (q4 (4 * b)) = .fin f k e) (h4 : val (q4 (4 * b)) = 4 * b * (2 ^ 1072 : Nat)) : k ≠ 0 := by
  intro h0
  have := val_natAbs h3
  rw [h4, h0, Nat.zero_mul, natAbsK] at this
  have hK : 0 < (2 : Nat) ^ 1072 := Nat.two_pow_pos _
  rcases Nat.mul_eq_zero.mp this with h | h <;> omega

theorem fmod_q4 {a b : Int} (ha : Fits (4 * a)) (hfb : Fits (4 * b)) (hb : 0 < b) :
    ∃ t, t < infMag - 1 ∧ V t = (4 * (a.natAbs % b.natAbs)) * 2 ^ 1072 ∧ fmod (q4 (4 * a)) (q4 (4 * b)) = pack (decide (a < 0)) t := by
  obtain ⟨m, e, h1, h2⟩ := q4_fin ha
  obtain ⟨k, f, h3, h4⟩ := q4_fin hfb
  have hr := fmod_val h1 h3 (nz_of hfb hb h3 h4)
  have e1 : decide (4 * a < 0) = decide (a < 0) := decide_eq_decide.mpr (by omega)
  have hml := Nat.mod_lt a.natAbs (show 0 < b.natAbs by omega)
  have e4 : (4 * a).natAbs % (4 * b).natAbs = 4 * (a.natAbs % b.natAbs) := by
    rw [show (4 * a).natAbs = 4 * a.natAbs by omega, show (4 * b).natAbs = 4 * b.natAbs by omega, Nat.mul_mod_mul_left]
  obtain ⟨t, h5, h6⟩ := rep (4 * (a.natAbs % b.natAbs)) 1072 (by unfold Fits at hfb; omega) (by decide) (by decide)
  rw [h2, h4, natAbsK, natAbsK, Nat.mul_mod_mul_right, e4, e1] at hr
  exact ⟨t, h5, h6, right_exact (by decide) (by omega) hr (by rw [Nat.one_mul, h6])⟩

theorem isZero_pack {s : Bool} {t : Nat} (h : t < infMag) : isZero (pack s t) = decide (V t = 0) := by
  obtain ⟨m, e, h1, h2⟩ := decode_pack s h
  unfold isZero
  rw [h1]
  by_cases h0 : V t = 0
  · rw [h0] at h2
    have : m = 0 := by
      rcases Nat.mul_eq_zero.mp h2 with q | q
      · exact q
      · have := Nat.two_pow_pos (e + 1074).toNat; omega
    subst this
    simp [h0]
  · have : m ≠ 0 := by
      intro q; rw [q, Nat.zero_mul] at h2; exact h0 h2.symm
    simp only [h0, decide_false]
    cases m with
    | zero => exact absurd rfl this
    | succ n => rfl

theorem compare_lt_int (p q : Int) : (some (compare p q) == some Ordering.lt) = decide (p < q) := by
  by_cases h : p < q
  · rw [Int.compare_eq_lt.mpr h]; simp [h]
  · simp only [h, decide_false]
    rcases Int.lt_trichotomy p q with x | x | x
    · exact absurd x h
    · rw [x]; simp
    · rw [Int.compare_eq_gt.mpr x]; rfl

theorem lt_val {x y : UInt64} {a b : Bool} {m k : Nat} {e f : Int} (hx : decode x = .fin a m e) (hy : decode y = .fin b k f) : lt x y = decide (val x < val y) := by
  unfold lt
  rw [cmp_right hx hy, compare_lt_int]

theorem q4_divmod {a b : Int} (ha : Fits (4 * a)) (hfb : Fits (4 * b)) (hb : 0 < b) : (divmod (q4 (4 * a)) (q4 (4 * b))).2 = q4 (4 * (a % b)) := by
  obtain ⟨t, ht, hV, hf⟩ := fmod_q4 ha hfb hb
  obtain ⟨k, f, h3, h4⟩ := q4_fin hfb
  obtain ⟨m0, e0, h5, h6⟩ := q4_fin (n := 0) (by unfold Fits; omega)
  obtain ⟨m, e, h7, h8⟩ := decode_pack (decide (a < 0)) (t := t) (by omega)
  have hvp := val_pack (decide (a < 0)) (t := t) (by omega)
  have hml := Nat.mod_lt a.natAbs (show 0 < b.natAbs by omega)
  have hdm := Nat.div_add_mod a.natAbs b.natAbs
  have hK : 0 < (2 : Nat) ^ 1072 := Nat.two_pow_pos _
  have e2 : (divmod (q4 (4 * a)) (q4 (4 * b))).2 = (if isZero (fmod (q4 (4 * a)) (q4 (4 * b))) then copysign (zero false) (q4 (4 * b)) else if lt (q4 (4 * b)) (zero false) != lt (fmod (q4 (4 * a)) (q4 (4 * b))) (zero false) then add (fmod (q4 (4 * a)) (q4 (4 * b))) (q4 (4 * b)) else fmod (q4 (4 * a)) (q4 (4 * b))) := by
    unfold divmod
    simp only
    split
    · rfl
    · split <;> rfl
  rw [e2, hf, isZero_pack (by omega)]
  generalize hq : a.natAbs % b.natAbs = q at *
  have hbb : (b.natAbs : Int) = b := by omega
  have hpos : 0 ≤ a → a % b = q := by
    intro h
    rw [← hq, Int.natCast_emod]
    have : (a.natAbs : Int) = a := by omega
    rw [this, hbb]
  by_cases hz : q = 0
  · have h0 : V t = 0 := by rw [hV, hz, Nat.mul_zero, Nat.zero_mul]
    rw [if_pos (by simp [h0])]
    have ea : a % b = 0 := by
      refine Int.emod_eq_zero_of_dvd ?_
      have : b.natAbs ∣ a.natAbs := Nat.dvd_of_mod_eq_zero (by omega)
      exact Int.natAbs_dvd_natAbs.mp this
    rw [ea]
    have hn : isNaN (zero false) = false := by decide +kernel
    have hs : signBit (q4 (4 * b)) = false := by
      obtain ⟨t2, g1, g2, g3⟩ := q4_pack hfb
      unfold signBit
      rw [g3, pack_toNat _ (by have hi : infMag = 2047 * 2 ^ 52 := rfl; omega)]
      have : ¬ 4 * b < 0 := by omega
      have hi : infMag = 2047 * 2 ^ 52 := rfl
      simp only [this, decide_false, Bool.false_eq_true, if_false, Nat.zero_add]
      rw [Nat.div_eq_of_lt (by omega)]
      rfl
    unfold copysign
    rw [hn, hs]
    decide +kernel
  · have h0 : V t ≠ 0 := by
      rw [hV]
      intro h
      rcases Nat.mul_eq_zero.mp h with x | x <;> omega
    rw [if_neg (by simp [h0]), zero_q4, lt_val h3 h5, lt_val h7 h5, h4, h6, hvp, hV]
    have e5 : ¬ (4 * b * ((2 ^ 1072 : Nat) : Int) < 0 * ((2 ^ 1072 : Nat) : Int)) := by
      rw [Int.zero_mul]
      have := Int.mul_nonneg (show 0 ≤ 4 * b by omega) (Int.natCast_nonneg (2 ^ 1072))
      omega
    simp only [e5, decide_false, Bool.false_bne, decide_eq_true_eq]
    by_cases hn : a < 0
    · have e6 : sgn (decide (a < 0)) (4 * q * 2 ^ 1072) < 0 * ((2 ^ 1072 : Nat) : Int) := by
        rw [Int.zero_mul]
        simp only [hn, decide_true]
        unfold sgn
        have : 0 < 4 * q * 2 ^ 1072 := Nat.mul_pos (by omega) hK
        simp only [if_true]
        omega
      rw [if_pos e6]
      have e7 : pack (decide (a < 0)) t = q4 (-(4 * (q : Int))) := by
        have hfit : Fits (-(4 * (q : Int))) := by unfold Fits at *; omega
        obtain ⟨t2, g1, g2, g3⟩ := q4_pack hfit
        rw [g3]
        have s1 : decide (a < 0) = decide (-(4 * (q : Int)) < 0) := decide_eq_decide.mpr (by omega)
        have s2 : (-(4 * (q : Int))).natAbs = 4 * q := by omega
        rw [s1]
        congr 1
        refine V_inj ?_
        rw [hV, g2, s2]
      have e9 : -(4 * (q : Int)) + 4 * b = 4 * (a % b) := by
        have hd := Int.mul_ediv_add_emod a b
        have h10 := Int.emod_nonneg a (show b ≠ 0 by omega)
        have h11 := Int.emod_lt_of_pos a hb
        have h12 : a = b * (-((a.natAbs / b.natAbs : Nat) : Int) - 1) + (b - q) := by
          generalize a.natAbs / b.natAbs = k at *
          rw [Int.mul_sub, Int.mul_neg, ← hbb, ← Int.natCast_mul, Int.mul_one]
          omega
        have h13 : a % b = b - q := by
          rw [h12, Int.add_comm, Int.add_mul_emod_self_left]
          exact Int.emod_eq_of_lt (by omega) (by omega)
        omega
      rw [e7, q4_add (by unfold Fits at *; omega) hfb (by unfold Fits at *; omega), e9]
    · have e6 : ¬ (sgn (decide (a < 0)) (4 * q * 2 ^ 1072) < 0 * ((2 ^ 1072 : Nat) : Int)) := by
        rw [Int.zero_mul]
        simp only [hn, decide_false]
        unfold sgn
        simp only [Bool.false_eq_true, if_false]
        omega
      rw [if_neg e6, hpos (by omega)]
      have hfit : Fits (4 * (q : Int)) := by unfold Fits at *; omega
      obtain ⟨t2, g1, g2, g3⟩ := q4_pack hfit
      rw [g3]
      have s1 : decide (a < 0) = decide (4 * (q : Int) < 0) := decide_eq_decide.mpr (by omega)
      have s2 : (4 * (q : Int)).natAbs = 4 * q := by omega
      rw [s1]
      congr 1
      refine V_inj ?_
      rw [hV, g2, s2]
end Mine
end

section
open PySem PySem.W PyProof.Rows
namespace Mine
set_option maxRecDepth 100000
set_option maxHeartbeats 8000000
open_top hd for PySem.Challenge.rw_ad5040_01
end Mine
end

section
open PySem PySem.W PyProof.Rows
namespace Mine
set_option maxRecDepth 100000

abbrev Ret := Heap → Addr → (Str → Option Value) → List (Addr × Obj) → Shared → (Value → Shared → Prop) → Prop

abbrev RetI (x : Int) : Ret := fun h₀ L m news s Q => ∀ (t : Tok) (h' : Heap) (tk' : Nat), Fr h₀ L h' m → News h₀ L h' news → Q (.int x t) { s with heap := h', toks := tk' }
abbrev RetF (x : UInt64) : Ret := fun h₀ L m news s Q => ∀ (t : Tok) (h' : Heap) (tk' : Nat), Fr h₀ L h' m → News h₀ L h' news → Q (.float x t) { s with heap := h', toks := tk' }
abbrev RetB (x : Bool) : Ret := fun h₀ L m news s Q => ∀ (h' : Heap) (tk' : Nat), Fr h₀ L h' m → News h₀ L h' news → Q (.bool x) { s with heap := h', toks := tk' }
abbrev Ret3 (x y z : Int) : Ret := fun h₀ L m news s Q => ∀ (D : Addr) (t1 t2 t3 : Tok) (c : Nat) (h' : Heap) (tk' : Nat), Fr h₀ L h' m → News h₀ L h' ((D, ({ cls := .type "tuple", data := .seq #[.int x t1, .int y t2, .int z t3] c } : Obj)) :: news) → AllLt D news → Q (.ref D) { s with heap := h', toks := tk' }

/-- what a call of the def at f tells: d frames of room -/
abbrev Claim (w : World) (loose : List Str) (mean : ExcName → Option Value) (mg mb : Str → Option Value) (f : Addr) (d : Nat) (vs : List Value) (ret : Ret) : Prop :=
  ∀ (dp un : Nat) (gd : Option (List Code)) (cn : Str) (cs : Scope) (a : Addr) (ccd : Value) (cl : List (Str × Addr)) (outer : List Env) (A₀ : Around) (base h₀ : Heap) (L : Addr) (m : Str → Option Value) (news : List (Addr × Obj)) (s : Shared) (Q E : Value → Shared → Prop),
    Below A₀ base outer h₀ → Fr h₀ L s.heap m → (hd.heap_39 w.params).In h₀ → News h₀ L s.heap news → Top hd.view_39 loose mean mg mb h₀ → cs.kind = .function →
    dp + d < recursionLimit → un + 8 * d < cLine → ret h₀ L m news s Q →
      wpAny (model PySem.Challenge.rw_ad5040_01.row.prog w) (ktrTop dp un gd cn cs L a ccd cl outer) (call (.ref f) vs) Q E s
end Mine
end

section
set_option maxRecDepth 100000
set_option exponentiation.threshold 3000
namespace Mine
open PySem PySem.W PyProof.Rows PySem.Flt

def qd (a b : Int) : UInt64 := Float64.ofFrac (decide (a < 0) != decide (b < 0)) a.natAbs b.natAbs

section
variable {prog : Program} {w : World} {A : Around} {E : Value → Shared → Prop} {s : Shared} {Q : Value → Shared → Prop} {x y : UInt64} {a b : Int} {t u : Tok}

theorem fit_nat (h : Fits (4 * b)) : b.natAbs < 2 ^ 1023 := by
  have h1 : b.natAbs < 2 ^ 53 := by unfold Fits at h; omega
  exact Nat.lt_of_lt_of_le h1 (Nat.pow_le_pow_right (by decide) (by decide))
theorem r_sub_ff (hx : x = q4 a) (hy : y = q4 b) (ha : Fits a) (hb : Fits b) (hc : Fits (a - b)) (h : Q (.float (q4 (a - b)) s.toks) { s with toks := s.toks + 1 }) :
    wpAny (model prog w) A (binaryOp .Sub (.float x t) (.float y u)) Q E s := by
  subst hx; subst hy
  refine sub_float ?_
  rw [q4_sub ha hb hc]; exact h
theorem r_add_ff (hx : x = q4 a) (hy : y = q4 b) (ha : Fits a) (hb : Fits b) (hc : Fits (a + b)) (h : Q (.float (q4 (a + b)) s.toks) { s with toks := s.toks + 1 }) :
    wpAny (model prog w) A (binaryOp .Add (.float x t) (.float y u)) Q E s := by
  subst hx; subst hy
  refine add_float ?_
  rw [q4_add ha hb hc]; exact h
theorem r_sub_fi (hx : x = q4 a) (ha : Fits a) (hb : Fits (4 * b)) (hc : Fits (a - 4 * b)) (h : Q (.float (q4 (a - 4 * b)) s.toks) { s with toks := s.toks + 1 }) :
    wpAny (model prog w) A (binaryOp .Sub (.float x t) (.int b u)) Q E s := by
  subst hx
  refine sub_fi_fits (fit_nat hb) ?_
  rw [q4_ofInt hb, q4_sub ha hb hc]; exact h
theorem r_sub_if (hy : y = q4 b) (ha : Fits (4 * a)) (hb : Fits b) (hc : Fits (4 * a - b)) (h : Q (.float (q4 (4 * a - b)) s.toks) { s with toks := s.toks + 1 }) :
    wpAny (model prog w) A (binaryOp .Sub (.int a t) (.float y u)) Q E s := by
  subst hy
  refine sub_if_fits (fit_nat ha) ?_
  rw [q4_ofInt ha, q4_sub ha hb hc]; exact h
theorem r_add_fi (hx : x = q4 a) (ha : Fits a) (hb : Fits (4 * b)) (hc : Fits (a + 4 * b)) (h : Q (.float (q4 (a + 4 * b)) s.toks) { s with toks := s.toks + 1 }) :
    wpAny (model prog w) A (binaryOp .Add (.float x t) (.int b u)) Q E s := by
  subst hx
  refine add_fi_fits (fit_nat hb) ?_
  rw [q4_ofInt hb, q4_add ha hb hc]; exact h
theorem r_add_if (hy : y = q4 b) (ha : Fits (4 * a)) (hb : Fits b) (hc : Fits (4 * a + b)) (h : Q (.float (q4 (4 * a + b)) s.toks) { s with toks := s.toks + 1 }) :
    wpAny (model prog w) A (binaryOp .Add (.int a t) (.float y u)) Q E s := by
  subst hy
  refine add_if_fits (fit_nat ha) ?_
  rw [q4_ofInt ha, q4_add ha hb hc]; exact h
theorem r_mul_fi (hx : x = q4 a) (ha : Fits a) (hb : Fits (4 * b)) (hb0 : 0 < b) (hc : Fits (a * b)) (h : Q (.float (q4 (a * b)) s.toks) { s with toks := s.toks + 1 }) :
    wpAny (model prog w) A (binaryOp .Mult (.float x t) (.int b u)) Q E s := by
  subst hx
  refine mul_fi_fits (fit_nat hb) ?_
  rw [q4_ofInt hb, q4_mul ha hb hb0 hc]; exact h
/-- a written float by an int -/
theorem r_mul_fc (hx : x = q4 a) (ha : Fits a) (hb : Fits (4 * b)) (ha0 : 0 < a) (hc : Fits (a * b)) (h : Q (.float (q4 (a * b)) s.toks) { s with toks := s.toks + 1 }) :
    wpAny (model prog w) A (binaryOp .Mult (.float x t) (.int b u)) Q E s := by
  subst hx
  refine mul_fi_fits (fit_nat hb) ?_
  rw [q4_ofInt hb, q4_mulR ha hb ha0 hc]; exact h
theorem r_mod_fi (hA : A.handled = none) (hx : x = q4 a) (hm : a % 4 = 0) (ha : Fits a) (hb : Fits (4 * b)) (hb0 : 0 < b) (h : ∀ r : Int, r = a / 4 % b → 0 ≤ r → r < b → Q (.float (q4 (4 * r)) s.toks) { s with toks := s.toks + 1 }) :
    wpAny (model prog w) A (binaryOp .Mod (.float x t) (.int b u)) Q E s := by
  subst hx
  have ho : ¬ Over b := fun q => by
    have := fit_nat hb
    have h2 := (Float64.ofInt_isInf_iff.mpr q)
    exact (Float64.ofInt_fits this) h2
  refine mod_fi hA (fun q => absurd q ho) (fun q => by omega) (fun _ _ => ?_)
  have e : a = 4 * (a / 4) := by omega
  rw [q4_ofInt hb]
  conv => arg 1; arg 1; arg 1; arg 1; rw [e]
  rw [q4_divmod (by rw [← e]; exact ha) hb hb0]
  exact h _ rfl (Int.emod_nonneg _ (by omega)) (Int.emod_lt_of_pos _ hb0)
theorem r_lt_fi (hx : x = q4 a) (ha : Fits a) (h : Q (.bool (decide (a < 4 * b))) s) : wpAny (model prog w) A (compareOp .Lt (.float x t) (.int b u)) Q E s := by
  subst hx
  refine lt_fi ?_
  rw [q4_lt_int ha]; exact h

/-- int by int -/
theorem r_div_ii (hA : A.handled = none) (hb : b ≠ 0) (ha : a.natAbs < 2 ^ 100) (h : Q (.float (qd a b) s.toks) { s with toks := s.toks + 1 }) : wpAny (model prog w) A (binaryOp .Div (.int a t) (.int b u)) Q E s :=
  div_ii_fits hA (Nat.lt_of_lt_of_le ha (Nat.pow_le_pow_right (by decide) (by decide))) (fun q => absurd q hb) fun _ _ => h
theorem r_mod_ii (hb : 0 < b) (h : ∀ r : Int, r = a % b → 0 ≤ r → r < b → Q (.int r s.toks) { s with toks := s.toks + 1 }) : wpAny (model prog w) A (binaryOp .Mod (.int a t) (.int b u)) Q E s := by
  refine AutoIntOps.mod_1 (by simp; omega) ?_
  rw [Int.fmod_eq_emod_of_nonneg _ (by omega)]
  exact h _ rfl (Int.emod_nonneg _ (by omega)) (Int.emod_lt_of_pos _ hb)

theorem r_floor_q {n : Int} (hA : A.handled = none) (hx : x = q4 n) (ha : Fits n) (h : ∀ k : Int, k = n / 4 → Q (.int k s.toks) { s with toks := s.toks + 1 }) :
    wpAny (model prog w) A (call (.builtin "math.floor") [.float x t]) Q E s := by
  subst hx
  have hf := q4_finite ha
  refine call_floor_float hA (fun q => ?_) (fun q => ?_) (fun _ => ?_)
  · rw [not_nan_of_finite hf] at q; cases q
  · rw [not_inf_of_finite hf] at q; cases q
  · rw [q4_floor ha]; exact h _ rfl
theorem r_floor_qd (hA : A.handled = none) (hb : 0 < b) (hb2 : b ≤ 262144) (hk : -17179869180 * b < a) (hk2 : a < 17179869180 * b) (h : ∀ k : Int, k = a / b → Q (.int k s.toks) { s with toks := s.toks + 1 }) :
    wpAny (model prog w) A (call (.builtin "math.floor") [.float (qd a b) t]) Q E s := by
  have hf := quot_ii hb hb2 hk hk2
  unfold qd
  refine call_floor_float hA (fun q => ?_) (fun q => ?_) (fun _ => ?_)
  · rw [not_nan_of_finite hf.1] at q; cases q
  · rw [not_inf_of_finite hf.1] at q; cases q
  · rw [hf.2.1]; exact h _ rfl
theorem r_trunc_qd (hA : A.handled = none) (hb : 0 < b) (hb2 : b ≤ 262144) (hk : -17179869180 * b < a) (hk2 : a < 17179869180 * b) (ha : 0 ≤ a) (h : ∀ k : Int, k = a / b → Q (.int k s.toks) { s with toks := s.toks + 1 }) :
    wpAny (model prog w) A (call (.builtin "math.trunc") [.float (qd a b) t]) Q E s := by
  have hf := quot_ii hb hb2 hk hk2
  unfold qd
  refine call_trunc_float hA (fun q => ?_) (fun q => ?_) (fun _ => ?_)
  · rw [not_nan_of_finite hf.1] at q; cases q
  · rw [not_inf_of_finite hf.1] at q; cases q
  · rw [hf.2.2, if_neg (by omega)]; exact h _ rfl
theorem r_trunc_qs (hA : A.handled = none) (hb : 0 < b) (hb2 : b ≤ 262144) (hk : -17179869180 * b < a) (hk2 : a < 17179869180 * b) (h : ∀ k : Int, (a < 0 → k = -((-a) / b)) → (0 ≤ a → k = a / b) → Q (.int k s.toks) { s with toks := s.toks + 1 }) :
    wpAny (model prog w) A (call (.builtin "math.trunc") [.float (qd a b) t]) Q E s := by
  have hf := quot_ii hb hb2 hk hk2
  unfold qd
  refine call_trunc_float hA (fun q => ?_) (fun q => ?_) (fun _ => ?_)
  · rw [not_nan_of_finite hf.1] at q; cases q
  · rw [not_inf_of_finite hf.1] at q; cases q
  · rw [hf.2.2]; exact h _ (fun q => if_pos q) (fun q => if_neg (by omega))

/-- float by int, floored -/
theorem r_div_fi (hA : A.handled = none) (hx : x = q4 a) (hb : Fits (4 * b)) (hb0 : b ≠ 0) (h : Q (.float (Float64.div (q4 a) (Float64.ofInt b)) s.toks) { s with toks := s.toks + 1 }) :
    wpAny (model prog w) A (binaryOp .Div (.float x t) (.int b u)) Q E s := by
  subst hx
  have ho : ¬ Over b := fun q => (Float64.ofInt_fits (fit_nat hb)) (Float64.ofInt_isInf_iff.mpr q)
  exact truediv_fi hA (fun q => absurd q ho) (fun q => absurd q hb0) (fun _ _ => h)
theorem r_floor_div (hA : A.handled = none) (hm : a % 4 = 0) (ha : Fits a) (hb : 0 < b) (hb2 : b ≤ 262144) (hk : -17179869180 * b < a / 4) (hk2 : a / 4 < 17179869180 * b) (h : ∀ k : Int, k = a / 4 / b → Q (.int k s.toks) { s with toks := s.toks + 1 }) :
    wpAny (model prog w) A (call (.builtin "math.floor") [.float (Float64.div (q4 a) (Float64.ofInt b)) t]) Q E s := by
  have e : a = 4 * (a / 4) := by omega
  have hf := quot_fi (a := a / 4) (by rw [← e]; exact ha) hb hb2 hk hk2
  rw [← e] at hf
  refine call_floor_float hA (fun q => ?_) (fun q => ?_) (fun _ => ?_)
  · rw [not_nan_of_finite hf.1] at q; cases q
  · rw [not_inf_of_finite hf.1] at q; cases q
  · rw [hf.2]; exact h _ rfl
theorem r_int_q {n : Int} (hA : A.handled = none) (hx : x = q4 n) (ha : Fits n) (h0 : 0 ≤ n) (h : ∀ k : Int, k = n / 4 → Q (.int k s.toks) { s with toks := s.toks + 1 }) :
    wpAny (model prog w) A (call (.type "int") [.float x t]) Q E s := by
  subst hx
  have hf := q4_finite ha
  refine call_int_float3 hA (fun q => ?_) (fun q => ?_) (fun _ => ?_)
  · rw [not_nan_of_finite hf] at q; cases q
  · rw [not_inf_of_finite hf] at q; cases q
  · rw [q4_trunc ha, if_neg (by omega)]; exact h _ rfl
/-- a float that is known by evaluation -/
theorem r_floor_c {k : Int} (hA : A.handled = none) (hf : Float64.isFinite x = true) (e : toInt Float64.floorOf x = k) (h : Q (.int k s.toks) { s with toks := s.toks + 1 }) :
    wpAny (model prog w) A (call (.builtin "math.floor") [.float x t]) Q E s := by
  subst e
  refine call_floor_float hA (fun q => ?_) (fun q => ?_) (fun _ => h)
  · rw [not_nan_of_finite hf] at q; cases q
  · rw [not_inf_of_finite hf] at q; cases q

theorem r_use {w : World} {loose : List Str} {mean : ExcName → Option Value} {mg mb : Str → Option Value} {f : Addr} {d : Nat} {vs : List Value} {ret : Ret} (C : Claim w loose mean mg mb f d vs ret)
    {dp un : Nat} {gd : Option (List Code)} {cn : Str} {cs : Scope} {a : Addr} {ccd : Value} {cl : List (Str × Addr)} {outer : List Env} {A₀ : Around} {base h₀ : Heap} {L : Addr} {m : Str → Option Value} {news : List (Addr × Obj)} {s : Shared} {Q E : Value → Shared → Prop}
    (B : Below A₀ base outer h₀) (F : Fr h₀ L s.heap m) (X : (hd.heap_39 w.params).In h₀) (N : News h₀ L s.heap news) (T : Top hd.view_39 loose mean mg mb h₀) (hk : cs.kind = .function)
    (hd : dp + d < recursionLimit) (hu : un + 8 * d < cLine) (hr : ret h₀ L m news s Q) :
    wpAny (model PySem.Challenge.rw_ad5040_01.row.prog w) (ktrTop dp un gd cn cs L a ccd cl outer) (call (.ref f) vs) Q E s :=
  C _ _ _ _ _ _ _ _ _ _ _ _ _ _ _ _ _ _ B F X N T hk hd hu hr

variable {h₀ h' : Heap} {L D : Addr} {m : Str → Option Value} {news news' : List (Addr × Obj)} {tk' : Nat}
theorem endI {p q : Int} (hret : RetI p h₀ L m news s Q) (e : q = p) (F : Fr h₀ L h' m) (N : News h₀ L h' news') (hs : ∀ p ∈ news, p ∈ news') : Q (.int q t) { s with heap := h', toks := tk' } := by
  subst e; exact hret t h' tk' F fun p hp => N p (hs p hp)
theorem endF {p q : UInt64} (hret : RetF p h₀ L m news s Q) (e : q = p) (F : Fr h₀ L h' m) (N : News h₀ L h' news') (hs : ∀ p ∈ news, p ∈ news') : Q (.float q t) { s with heap := h', toks := tk' } := by
  subst e; exact hret t h' tk' F fun p hp => N p (hs p hp)
theorem endB {p q : Bool} (hret : RetB p h₀ L m news s Q) (e : q = p) (F : Fr h₀ L h' m) (N : News h₀ L h' news') (hs : ∀ p ∈ news, p ∈ news') : Q (.bool q) { s with heap := h', toks := tk' } := by
  subst e; exact hret h' tk' F fun p hp => N p (hs p hp)
theorem end3 {p q r p' q' r' : Int} {t1 t2 t3 : Tok} {c : Nat} (hret : Ret3 p q r h₀ L m news s Q) (e1 : p' = p) (e2 : q' = q) (e3 : r' = r) (F : Fr h₀ L h' m)
    (NM : News h₀ L h' news' ∧ (D, ({ cls := .type "tuple", data := .seq #[.int p' t1, .int q' t2, .int r' t3] c } : Obj)) ∈ news') (hs : ∀ p ∈ news, p ∈ news') (hl : AllLt D news) : Q (.ref D) { s with heap := h', toks := tk' } := by
  subst e1; subst e2; subst e3
  refine hret D t1 t2 t3 c h' tk' F (fun p hp => ?_) hl
  rcases List.mem_cons.mp hp with rfl | hp
  · exact NM.1 _ NM.2
  · exact NM.1 p (hs p hp)
theorem end3h {p q r p' q' r' : Int} {t1 t2 t3 : Tok} {c : Nat} (hret : Ret3 p q r h₀ L m news s Q) (e1 : p' = p) (e2 : q' = q) (e3 : r' = r) (F : Fr h₀ L h' m)
    (N : News h₀ L h' ((D, ({ cls := .type "tuple", data := .seq #[.int p' t1, .int q' t2, .int r' t3] c } : Obj)) :: news')) (hs : ∀ p ∈ news, p ∈ news') (hl : ∀ p ∈ news, p.1 < D) : Q (.ref D) { s with heap := h', toks := tk' } :=
  end3 hret e1 e2 e3 F ⟨N, .head _⟩ (fun p hp => .tail _ (hs p hp)) (allLt_of hl)
theorem r_in4 {K : Frag} {a : Addr} {l : List Value} {n : Nat} {dd : Option Addr} {sl : Array (Option Value)} {x : Int} (F : Fr h₀ L s.heap m) (X : K.In h₀) (hl : K.lookup a = some ⟨.type "tuple", dd, .seq l.toArray n, sl⟩) (hi : IntsAre l [4, 6, 9, 11])
    (h : Q (.bool (decide (x = 4 ∨ x = 6 ∨ x = 9 ∨ x = 11))) s) : wpAny (model prog w) A (compareOp .In (.int x u) (.ref a)) Q E s := by
  refine in_tuple_ints (tupK (X.keeps F.keep) hl) hi ?_
  have e : ([4, 6, 9, 11].any (· == x)) = decide (x = 4 ∨ x = 6 ∨ x = 9 ∨ x = 11) := by
    refine Bool.eq_iff_iff.mpr ?_
    simp only [List.any_cons, List.any_nil, Bool.or_eq_true, beq_iff_eq, decide_eq_true_eq, Bool.or_false]
    omega
  rw [e]; exact h
end
theorem k_half : (4602678819172646912 : UInt64) = q4 2 := by decide +kernel
theorem k_epoch : (4700144277945057280 : UInt64) = q4 6885702 := by decide +kernel
theorem k_36525 : (4645133162144333824 : UInt64) = q4 1461 := by decide +kernel
theorem k_1524 : (4654419637352529920 : UInt64) = q4 6098 := by decide +kernel
end Mine
end

section
open PySem PySem.W PyProof.Rows
namespace Mine
set_option maxRecDepth 100000
set_option maxHeartbeats 8000000
local macro_rules | `(tactic| walk_at "binaryOp Mod int int") => `(tactic| (k_here; (with_reducible show wpAny _ _ (binaryOp Operator.Mod (Value.int _ _) (Value.int _ _)) _ _ _); (refine' r_mod_ii ?hb ?_; (case hb => first | decide | omega)); intro _ _ _ _))
local macro_rules | `(tactic| walk_at "binaryOp Sub float float") => `(tactic| (k_here; (with_reducible show wpAny _ _ (binaryOp Operator.Sub (Value.float _ _) (Value.float _ _)) _ _ _); (refine' r_sub_ff ?hx ?hy ?ha ?hb ?hc ?_; (case hx => first | with_reducible exact rfl | exact k_epoch); (case hy => first | with_reducible exact rfl | exact k_half | exact k_epoch | exact k_1524); (case ha => constructor <;> omega); (case hb => constructor <;> omega); (case hc => constructor <;> omega))))
local macro_rules | `(tactic| walk_at "binaryOp Sub float int") => `(tactic| (k_here; (with_reducible show wpAny _ _ (binaryOp Operator.Sub (Value.float _ _) (Value.int _ _)) _ _ _); (refine' r_sub_fi ?hx ?ha ?hb ?hc ?_; (case hx => first | with_reducible exact rfl | exact k_epoch); (case ha => constructor <;> omega); (case hb => constructor <;> omega); (case hc => constructor <;> omega))))
local macro_rules | `(tactic| walk_at "binaryOp Sub int float") => `(tactic| (k_here; (with_reducible show wpAny _ _ (binaryOp Operator.Sub (Value.int _ _) (Value.float _ _)) _ _ _); (refine' r_sub_if ?hy ?ha ?hb ?hc ?_; (case hy => first | with_reducible exact rfl | exact k_epoch | exact k_1524); (case ha => constructor <;> omega); (case hb => constructor <;> omega); (case hc => constructor <;> omega))))
local macro_rules | `(tactic| walk_at "binaryOp Add float int") => `(tactic| (k_here; (with_reducible show wpAny _ _ (binaryOp Operator.Add (Value.float _ _) (Value.int _ _)) _ _ _); (refine' r_add_fi ?hx ?ha ?hb ?hc ?_; (case hx => first | with_reducible exact rfl | exact k_epoch); (case ha => constructor <;> omega); (case hb => constructor <;> omega); (case hc => constructor <;> omega))))
local macro_rules | `(tactic| walk_at "binaryOp Add int float") => `(tactic| (k_here; (with_reducible show wpAny _ _ (binaryOp Operator.Add (Value.int _ _) (Value.float _ _)) _ _ _); (refine' r_add_if ?hy ?ha ?hb ?hc ?_; (case hy => first | with_reducible exact rfl | exact k_half); (case ha => constructor <;> omega); (case hb => constructor <;> omega); (case hc => constructor <;> omega))))
local macro_rules | `(tactic| walk_at "binaryOp Mult float int") => `(tactic| (k_here; (with_reducible show wpAny _ _ (binaryOp Operator.Mult (Value.float _ _) (Value.int _ _)) _ _ _); first
  | (refine' r_mul_fc (a := 1461) k_36525 ?ha ?hb ?ha0 ?hc ?_; (case ha => constructor <;> omega); (case hb => constructor <;> omega); (case ha0 => decide); (case hc => constructor <;> omega))
  | (refine' r_mul_fi ?hx ?ha ?hb ?hb0 ?hc ?_; (case hx => with_reducible exact rfl); (case ha => constructor <;> omega); (case hb => constructor <;> omega); (case hb0 => omega); (case hc => constructor <;> omega))))
local macro_rules | `(tactic| walk_at "binaryOp Mod float int") => `(tactic| (k_here; (with_reducible show wpAny _ _ (binaryOp Operator.Mod (Value.float _ _) (Value.int _ _)) _ _ _); (refine' r_mod_fi rfl ?hx ?hm ?ha ?hb ?hb0 ?_; (case hx => with_reducible exact rfl); (case hm => omega); (case ha => constructor <;> omega); (case hb => constructor <;> omega); (case hb0 => omega)); intro _ _ _ _))
local macro_rules | `(tactic| walk_at "binaryOp Div float int") => `(tactic| (k_here; (with_reducible show wpAny _ _ (binaryOp Operator.Div (Value.float (q4 _) _) (Value.int _ _)) _ _ _); (refine' r_div_fi rfl ?hx ?hb ?hb0 ?_; (case hx => with_reducible exact rfl); (case hb => constructor <;> omega); (case hb0 => omega))))
local macro_rules | `(tactic| walk_at "binaryOp Div int int") => `(tactic| (k_here; (with_reducible show wpAny _ _ (binaryOp Operator.Div (Value.int _ _) (Value.int _ _)) _ _ _); (refine' r_div_ii rfl ?hb ?ha ?_; (case hb => omega); (case ha => omega))))
local macro_rules | `(tactic| walk_at "compareOp Lt float int") => `(tactic| (k_here; (with_reducible show wpAny _ _ (compareOp CmpOp.Lt (Value.float (q4 _) _) (Value.int _ _)) _ _ _); (refine' r_lt_fi ?hx ?ha ?_; (case hx => with_reducible exact rfl); (case ha => constructor <;> omega))))
local macro_rules | `(tactic| walk_at "call builtin:math.floor") => `(tactic| (k_here; first
  | ((with_reducible show wpAny _ _ (call _ [Value.float (q4 _) _]) _ _ _); (refine' r_floor_q rfl ?hx ?ha ?_; (case hx => with_reducible exact rfl); (case ha => constructor <;> omega)); intro _ _)
  | ((with_reducible show wpAny _ _ (call _ [Value.float (qd _ _) _]) _ _ _); (refine' r_floor_qd rfl ?hb ?hb2 ?hk ?hk2 ?_; (case hb => omega); (case hb2 => omega); (case hk => omega); (case hk2 => omega)); intro _ _)
  | ((with_reducible show wpAny _ _ (call _ [Value.float (Float64.div (q4 _) (Float64.ofInt _)) _]) _ _ _); (refine' r_floor_div rfl ?hm ?ha ?hb ?hb2 ?hk ?hk2 ?_; (case hm => omega); (case ha => constructor <;> omega); (case hb => omega); (case hb2 => omega); (case hk => omega); (case hk2 => omega)); intro _ _)))
local macro_rules | `(tactic| walk_at "call builtin:math.trunc") => `(tactic| (k_here; (with_reducible show wpAny _ _ (call _ [Value.float (qd _ _) _]) _ _ _); first
  | ((refine' r_trunc_qd rfl ?hb ?hb2 ?hk ?hk2 ?h0 ?_; (case hb => omega); (case hb2 => omega); (case hk => omega); (case hk2 => omega); (case h0 => omega)); intro _ _)
  | ((refine' r_trunc_qs rfl ?hb ?hb2 ?hk ?hk2 ?_; (case hb => omega); (case hb2 => omega); (case hk => omega); (case hk2 => omega)); intro _ _ _)))
local macro_rules | `(tactic| walk_at "call type:int") => `(tactic| (k_here; (with_reducible show wpAny _ _ (call _ [Value.float (q4 _) _]) _ _ _); (refine' r_int_q rfl ?hx ?ha ?h0 ?_; (case hx => with_reducible exact rfl); (case ha => constructor <;> omega); (case h0 => omega)); intro _ _))
local macro_rules | `(tactic| walk_at "compareOp In int ref") => `(tactic| (k_here; (with_reducible show wpAny _ _ (compareOp CmpOp.In (Value.int _ _) (Value.ref _)) _ _ _); k_dflt (refine' r_in4 ?F ?X ?l ?i ?_; (case F => k_asm); (case X => k_asm); (case l => k_is); (case i => repeat constructor))))
local macro_rules | `(tactic| walk_at "eval Call") => `(tactic| (k_here; (with_reducible show wpAny _ _ (eval (Expr.Call (Expr.Name _ _) _ [] _) _) _ _ _); k_dflt (refine Call_ ?_)))
variable {w : World} {loose : List Str} {mean : ExcName → Option Value} {mg mb : Str → Option Value}

def lpI (y : Int) : Int := if y % 4 = 0 ∧ (y % 100 ≠ 0 ∨ y % 400 = 0) then 1 else 0
theorem lpI_says (y : Int) : (lpI y = 1 ∧ y % 4 = 0 ∧ (y % 100 ≠ 0 ∨ y % 400 = 0)) ∨ (lpI y = 0 ∧ ¬ (y % 4 = 0 ∧ (y % 100 ≠ 0 ∨ y % 400 = 0))) := by
  unfold lpI
  by_cases h : y % 4 = 0 ∧ (y % 100 ≠ 0 ∨ y % 400 = 0)
  · rw [if_pos h]; exact .inl ⟨rfl, h⟩
  · rw [if_neg h]; exact .inr ⟨rfl, h⟩
theorem lpI_bound (y : Int) : 0 ≤ lpI y ∧ lpI y ≤ 1 := by have := lpI_says y; omega

theorem c_isleap (y : Int) (t : Tok) : Claim w loose mean mg mb 49 1 [.int y t] (RetB (decide (lpI y = 1))) := by
  unfold Claim
  k_fill
  intro dp un gd cn cs a ccd cl outer A₀ base h₀ L m news s Q E B F X N T hk hd hu hret
  refine wpAny_call ?_
  k_dflt cell_enter
  w_top off
  k_steps
  all_goals refine endB hret ?_ (by k_asm) (by assumption) (fun _ hp => hp)
  all_goals have hL := lpI_says y
  all_goals (refine Bool.eq_iff_iff.mpr ?_; simp only [bne_iff_ne, beq_iff_eq, decide_eq_true_eq]; omega)

local macro_rules | `(tactic| walk_at "call ref") => `(tactic| (k_here; (with_reducible show wpAny _ _ (call (Value.ref 49) _) _ _ _); k_dflt (refine' r_use (c_isleap _ _) ?k1 ?k2 ?k3 ?k4 ?k5 ?kK ?kd ?ku ?_; (case k1 => k_asm); (case k2 => k_asm); (case k3 => k_asm); (case k4 => k_asm); (case k5 => k_asm); (case kK => first | exact rfl | assumption); (case kd => ktr_room); (case ku => ktr_units)); intro h9 tk9 F9 N9; (try dsimp only); (try k_fold)))

theorem c_legal (y mo d : Int) (t1 t2 t3 : Tok) (h1 : 1 ≤ d) (h2 : d ≤ 28) : Claim w loose mean mg mb 57 2 [.int y t1, .int mo t2, .int d t3] (RetB true) := by
  unfold Claim
  k_fill
  intro dp un gd cn cs a ccd cl outer A₀ base h₀ L m news s Q E B F X N T hk hd hu hret
  refine wpAny_call ?_
  k_dflt cell_enter
  w_top off
  k_steps
  all_goals exact endB hret rfl (by k_asm) (by assumption) (fun _ hp => hp)
end Mine
end

section
open PySem PySem.W PyProof.Rows
namespace Mine
set_option maxRecDepth 100000
set_option maxHeartbeats 8000000
local macro_rules | `(tactic| walk_at "binaryOp Mod int int") => `(tactic| (k_here; (with_reducible show wpAny _ _ (binaryOp Operator.Mod (Value.int _ _) (Value.int _ _)) _ _ _); (refine' r_mod_ii ?hb ?_; (case hb => first | decide | omega)); intro _ _ _ _))
local macro_rules | `(tactic| walk_at "binaryOp Sub float float") => `(tactic| (k_here; (with_reducible show wpAny _ _ (binaryOp Operator.Sub (Value.float _ _) (Value.float _ _)) _ _ _); (refine' r_sub_ff ?hx ?hy ?ha ?hb ?hc ?_; (case hx => first | with_reducible exact rfl | exact k_epoch); (case hy => first | with_reducible exact rfl | exact k_half | exact k_epoch | exact k_1524); (case ha => constructor <;> omega); (case hb => constructor <;> omega); (case hc => constructor <;> omega))))
local macro_rules | `(tactic| walk_at "binaryOp Sub float int") => `(tactic| (k_here; (with_reducible show wpAny _ _ (binaryOp Operator.Sub (Value.float _ _) (Value.int _ _)) _ _ _); (refine' r_sub_fi ?hx ?ha ?hb ?hc ?_; (case hx => first | with_reducible exact rfl | exact k_epoch); (case ha => constructor <;> omega); (case hb => constructor <;> omega); (case hc => constructor <;> omega))))
local macro_rules | `(tactic| walk_at "binaryOp Sub int float") => `(tactic| (k_here; (with_reducible show wpAny _ _ (binaryOp Operator.Sub (Value.int _ _) (Value.float _ _)) _ _ _); (refine' r_sub_if ?hy ?ha ?hb ?hc ?_; (case hy => first | with_reducible exact rfl | exact k_epoch | exact k_1524); (case ha => constructor <;> omega); (case hb => constructor <;> omega); (case hc => constructor <;> omega))))
local macro_rules | `(tactic| walk_at "binaryOp Add float int") => `(tactic| (k_here; (with_reducible show wpAny _ _ (binaryOp Operator.Add (Value.float _ _) (Value.int _ _)) _ _ _); (refine' r_add_fi ?hx ?ha ?hb ?hc ?_; (case hx => first | with_reducible exact rfl | exact k_epoch); (case ha => constructor <;> omega); (case hb => constructor <;> omega); (case hc => constructor <;> omega))))
local macro_rules | `(tactic| walk_at "binaryOp Add int float") => `(tactic| (k_here; (with_reducible show wpAny _ _ (binaryOp Operator.Add (Value.int _ _) (Value.float _ _)) _ _ _); (refine' r_add_if ?hy ?ha ?hb ?hc ?_; (case hy => first | with_reducible exact rfl | exact k_half); (case ha => constructor <;> omega); (case hb => constructor <;> omega); (case hc => constructor <;> omega))))
local macro_rules | `(tactic| walk_at "binaryOp Mult float int") => `(tactic| (k_here; (with_reducible show wpAny _ _ (binaryOp Operator.Mult (Value.float _ _) (Value.int _ _)) _ _ _); first
  | (refine' r_mul_fc (a := 1461) k_36525 ?ha ?hb ?ha0 ?hc ?_; (case ha => constructor <;> omega); (case hb => constructor <;> omega); (case ha0 => decide); (case hc => constructor <;> omega))
  | (refine' r_mul_fi ?hx ?ha ?hb ?hb0 ?hc ?_; (case hx => with_reducible exact rfl); (case ha => constructor <;> omega); (case hb => constructor <;> omega); (case hb0 => omega); (case hc => constructor <;> omega))))
local macro_rules | `(tactic| walk_at "binaryOp Mod float int") => `(tactic| (k_here; (with_reducible show wpAny _ _ (binaryOp Operator.Mod (Value.float _ _) (Value.int _ _)) _ _ _); (refine' r_mod_fi rfl ?hx ?hm ?ha ?hb ?hb0 ?_; (case hx => with_reducible exact rfl); (case hm => omega); (case ha => constructor <;> omega); (case hb => constructor <;> omega); (case hb0 => omega)); intro _ _ _ _))
local macro_rules | `(tactic| walk_at "binaryOp Div float int") => `(tactic| (k_here; (with_reducible show wpAny _ _ (binaryOp Operator.Div (Value.float (q4 _) _) (Value.int _ _)) _ _ _); (refine' r_div_fi rfl ?hx ?hb ?hb0 ?_; (case hx => with_reducible exact rfl); (case hb => constructor <;> omega); (case hb0 => omega))))
local macro_rules | `(tactic| walk_at "binaryOp Div int int") => `(tactic| (k_here; (with_reducible show wpAny _ _ (binaryOp Operator.Div (Value.int _ _) (Value.int _ _)) _ _ _); (refine' r_div_ii rfl ?hb ?ha ?_; (case hb => omega); (case ha => omega))))
local macro_rules | `(tactic| walk_at "compareOp Lt float int") => `(tactic| (k_here; (with_reducible show wpAny _ _ (compareOp CmpOp.Lt (Value.float (q4 _) _) (Value.int _ _)) _ _ _); (refine' r_lt_fi ?hx ?ha ?_; (case hx => with_reducible exact rfl); (case ha => constructor <;> omega))))
local macro_rules | `(tactic| walk_at "call builtin:math.floor") => `(tactic| (k_here; first
  | ((with_reducible show wpAny _ _ (call _ [Value.float (q4 _) _]) _ _ _); (refine' r_floor_q rfl ?hx ?ha ?_; (case hx => with_reducible exact rfl); (case ha => constructor <;> omega)); intro _ _)
  | ((with_reducible show wpAny _ _ (call _ [Value.float (qd _ _) _]) _ _ _); (refine' r_floor_qd rfl ?hb ?hb2 ?hk ?hk2 ?_; (case hb => omega); (case hb2 => omega); (case hk => omega); (case hk2 => omega)); intro _ _)
  | ((with_reducible show wpAny _ _ (call _ [Value.float (Float64.div (q4 _) (Float64.ofInt _)) _]) _ _ _); (refine' r_floor_div rfl ?hm ?ha ?hb ?hb2 ?hk ?hk2 ?_; (case hm => omega); (case ha => constructor <;> omega); (case hb => omega); (case hb2 => omega); (case hk => omega); (case hk2 => omega)); intro _ _)))
local macro_rules | `(tactic| walk_at "call builtin:math.trunc") => `(tactic| (k_here; (with_reducible show wpAny _ _ (call _ [Value.float (qd _ _) _]) _ _ _); first
  | ((refine' r_trunc_qd rfl ?hb ?hb2 ?hk ?hk2 ?h0 ?_; (case hb => omega); (case hb2 => omega); (case hk => omega); (case hk2 => omega); (case h0 => omega)); intro _ _)
  | ((refine' r_trunc_qs rfl ?hb ?hb2 ?hk ?hk2 ?_; (case hb => omega); (case hb2 => omega); (case hk => omega); (case hk2 => omega)); intro _ _ _)))
local macro_rules | `(tactic| walk_at "call type:int") => `(tactic| (k_here; (with_reducible show wpAny _ _ (call _ [Value.float (q4 _) _]) _ _ _); (refine' r_int_q rfl ?hx ?ha ?h0 ?_; (case hx => with_reducible exact rfl); (case ha => constructor <;> omega); (case h0 => omega)); intro _ _))
local macro_rules | `(tactic| walk_at "compareOp In int ref") => `(tactic| (k_here; (with_reducible show wpAny _ _ (compareOp CmpOp.In (Value.int _ _) (Value.ref _)) _ _ _); k_dflt (refine' r_in4 ?F ?X ?l ?i ?_; (case F => k_asm); (case X => k_asm); (case l => k_is); (case i => repeat constructor))))
local macro_rules | `(tactic| walk_at "eval Call") => `(tactic| (k_here; (with_reducible show wpAny _ _ (eval (Expr.Call (Expr.Name _ _) _ [] _) _) _ _ _); k_dflt (refine Call_ ?_)))
variable {w : World} {loose : List Str} {mean : ExcName → Option Value} {mg mb : Str → Option Value}
local macro_rules | `(tactic| walk_at "call ref") => `(tactic| (k_here; (with_reducible show wpAny _ _ (call (Value.ref 49) _) _ _ _); k_dflt (refine' r_use (c_isleap _ _) ?k1 ?k2 ?k3 ?k4 ?k5 ?kK ?kd ?ku ?_; (case k1 => k_asm); (case k2 => k_asm); (case k3 => k_asm); (case k4 => k_asm); (case k5 => k_asm); (case kK => first | exact rfl | assumption); (case kd => ktr_room); (case ku => ktr_units)); intro h9 tk9 F9 N9; (try dsimp only); (try k_fold)))
local macro_rules | `(tactic| walk_at "call ref") => `(tactic| (k_here; (with_reducible show wpAny _ _ (call (Value.ref 57) _) _ _ _); k_dflt (refine' r_use (c_legal _ _ _ _ _ _ ?k6 ?k7) ?k1 ?k2 ?k3 ?k4 ?k5 ?kK ?kd ?ku ?_; (case k1 => k_asm); (case k2 => k_asm); (case k3 => k_asm); (case k4 => k_asm); (case k5 => k_asm); (case k6 => omega); (case k7 => omega); (case kK => first | exact rfl | assumption); (case kd => ktr_room); (case ku => ktr_units)); intro h9 tk9 F9 N9; (try dsimp only); (try k_fold)))
local macro_rules | `(tactic| walk_at "binaryOp Add float int") => `(tactic| (k_here; first
  | ((with_reducible show wpAny _ _ (binaryOp Operator.Add (Value.float (qd _ _) _) (Value.int _ _)) _ _ _); (refine' add_fi_fits ?ha ?_; (case ha => (refine fit_nat ?_; constructor <;> omega))))
  | ((with_reducible show wpAny _ _ (binaryOp Operator.Add (Value.float (Float64.add (qd _ _) (Float64.ofInt _)) _) (Value.int _ _)) _ _ _); (refine' add_fi_fits ?ha ?_; (case ha => (refine fit_nat ?_; constructor <;> omega))))))

theorem md_all : ∀ (mo : Fin 12) (la : Fin 3), Float64.isFinite (Float64.add (Float64.add (qd (367 * ((mo.val : Int) + 1) - 362) 12) (Float64.ofInt (-(la.val : Int)))) (Float64.ofInt 1)) = true ∧
    Flt.toInt Float64.floorOf (Float64.add (Float64.add (qd (367 * ((mo.val : Int) + 1) - 362) 12) (Float64.ofInt (-(la.val : Int)))) (Float64.ofInt 1)) = (367 * ((mo.val : Int) + 1) - 362) / 12 + (-(la.val : Int)) + 1 := by decide +kernel
theorem md_at {mo la : Int} (h1 : 1 ≤ mo) (h2 : mo ≤ 12) (h3 : -2 ≤ la) (h4 : la ≤ 0) : Float64.isFinite (Float64.add (Float64.add (qd (367 * mo - 362) 12) (Float64.ofInt la)) (Float64.ofInt 1)) = true ∧
    Flt.toInt Float64.floorOf (Float64.add (Float64.add (qd (367 * mo - 362) 12) (Float64.ofInt la)) (Float64.ofInt 1)) = (367 * mo - 362) / 12 + la + 1 := by
  have h := md_all ⟨(mo - 1).toNat, by omega⟩ ⟨(-la).toNat, by omega⟩
  have e1 : (((mo - 1).toNat : Nat) : Int) + 1 = mo := by omega
  have e2 : -(((-la).toNat : Nat) : Int) = la := by omega
  simp only [e1, e2] at h
  exact h
local macro_rules | `(tactic| walk_at "call builtin:math.floor") => `(tactic| (k_here; (with_reducible show wpAny _ _ (call _ [Value.float (Float64.add (Float64.add (qd _ _) (Float64.ofInt _)) (Float64.ofInt _)) _]) _ _ _); refine r_floor_c rfl (md_at (by omega) (by omega) (by omega) (by omega)).1 (md_at (by omega) (by omega) (by omega) (by omega)).2 ?_))

def gjd (y mo : Int) : Int := 1721426 + 365 * (y - 1) + (y - 1) / 4 - (y - 1) / 100 + (y - 1) / 400 + (367 * mo - 362) / 12 + (if mo ≤ 2 then 0 else lpI y - 2)
abbrev Gjd (y mo g : Int) : Prop := (mo ≤ 2 ∧ g = 1721426 + 365 * (y - 1) + (y - 1) / 4 - (y - 1) / 100 + (y - 1) / 400 + (367 * mo - 362) / 12) ∨ (2 < mo ∧ g = 1721424 + 365 * (y - 1) + (y - 1) / 4 - (y - 1) / 100 + (y - 1) / 400 + (367 * mo - 362) / 12 + lpI y)
theorem gjd_says (y mo : Int) : Gjd y mo (gjd y mo) := by
  unfold gjd
  by_cases h : mo ≤ 2
  · rw [if_pos h]; omega
  · rw [if_neg h]; omega
abbrev RetG (y mo : Int) : Ret := fun h₀ L m news s Q => ∀ (g : Int), g = gjd y mo → Gjd y mo g → 0 ≤ lpI y ∧ lpI y ≤ 1 → ∀ (t : Tok) (h' : Heap) (tk' : Nat), Fr h₀ L h' m → News h₀ L h' news → Q (.float (q4 (4 * g - 2)) t) { s with heap := h', toks := tk' }

theorem c_to_jd (y mo : Int) (t1 t2 t3 : Tok) (h1 : -1000000 ≤ y) (h2 : y ≤ 3000000000) (h3 : 1 ≤ mo) (h4 : mo ≤ 12) : Claim w loose mean mg mb 64 3 [.int y t1, .int mo t2, .int 1 t3] (RetG y mo) := by
  unfold Claim
  k_fill
  intro dp un gd cn cs a ccd cl outer A₀ base h₀ L m news s Q E B F X N T hk hd hu hret
  replace hret : RetF (q4 (4 * gjd y mo - 2)) h₀ L m news s Q := hret _ rfl (gjd_says _ _) (lpI_bound _)
  refine wpAny_call ?_
  k_dflt cell_enter
  w_top off
  k_steps
  all_goals refine endF hret ?_ (by k_asm) (by assumption) (fun _ hp => hp)
  all_goals (have hg := gjd_says y mo; have hl := lpI_bound y; congr 1; omega)
end Mine
end

section
open PySem PySem.W PyProof.Rows
namespace Mine
set_option maxRecDepth 100000
set_option maxHeartbeats 40000000
/-- a date and its day's number -/
abbrev IsDate (y mo d N : Int) : Prop := 1 ≤ mo ∧ mo ≤ 12 ∧ 1 ≤ d ∧ N = gjd y mo + d - 1 ∧ (mo < 12 → N < gjd y (mo + 1)) ∧ (mo = 12 → N < gjd (y + 1) 1)

theorem gjd_year (y : Int) : gjd y 1 = 1721426 + 365 * (y - 1) + (y - 1) / 4 - (y - 1) / 100 + (y - 1) / 400 := by
  have := gjd_says y 1
  omega
theorem gjd_in (y mo : Int) (h1 : 1 ≤ mo) (h2 : mo ≤ 12) : gjd y 1 ≤ gjd y mo := by
  have a := gjd_says y mo
  have b := gjd_year y
  have c := lpI_bound y
  omega
theorem gjd_step (y mo mo' : Int) (h1 : 1 ≤ mo) (h2 : mo < mo') (h3 : mo' ≤ 12) : gjd y (mo + 1) ≤ gjd y mo' := by
  have a := gjd_says y (mo + 1)
  have b := gjd_says y mo'
  have c := lpI_bound y
  omega
theorem gjd_last (y mo : Int) (h1 : 1 ≤ mo) (h2 : mo ≤ 12) : gjd y mo + 28 ≤ gjd (y + 1) 1 := by
  have a := gjd_says y mo
  have b := gjd_year (y + 1)
  have c := lpI_says y
  omega
theorem gjd_mono {y z : Int} (h : y ≤ z) : gjd y 1 ≤ gjd z 1 := by
  rw [gjd_year, gjd_year]
  omega
theorem date_year {y mo d N : Int} (h : IsDate y mo d N) : gjd y 1 ≤ N ∧ N < gjd (y + 1) 1 := by
  obtain ⟨h1, h2, h3, h4, h5, h6⟩ := h
  have a := gjd_in y mo h1 h2
  refine ⟨by omega, ?_⟩
  by_cases h7 : mo = 12
  · exact h6 h7
  · have b := h5 (by omega)
    have c := gjd_last y (mo + 1) (by omega) (by omega)
    omega
theorem date_uniq {y mo d y' mo' d' N : Int} (h : IsDate y mo d N) (h' : IsDate y' mo' d' N) : y = y' ∧ mo = mo' ∧ d = d' := by
  have a := date_year h
  have b := date_year h'
  have e : y = y' := by
    rcases Int.lt_trichotomy y y' with q | q | q
    · have := gjd_mono (show y + 1 ≤ y' by omega); omega
    · exact q
    · have := gjd_mono (show y' + 1 ≤ y by omega); omega
  subst e
  obtain ⟨h1, h2, h3, h4, h5, h6⟩ := h
  obtain ⟨g1, g2, g3, g4, g5, g6⟩ := h'
  have e : mo = mo' := by
    rcases Int.lt_trichotomy mo mo' with q | q | q
    · have := gjd_step y mo mo' h1 q g2
      have := h5 (by omega); omega
    · exact q
    · have := gjd_step y mo' mo g1 q h2
      have := g5 (by omega); omega
  subst e
  exact ⟨rfl, rfl, by omega⟩

open Classical in
noncomputable def gDate (N : Int) : Int × Int × Int := if h : ∃ p : Int × Int × Int, IsDate p.1 p.2.1 p.2.2 N then Classical.choose h else (0, 0, 0)
theorem gDate_of {y mo d N : Int} (h : IsDate y mo d N) : y = (gDate N).1 ∧ mo = (gDate N).2.1 ∧ d = (gDate N).2.2 := by
  have hx : ∃ p : Int × Int × Int, IsDate p.1 p.2.1 p.2.2 N := ⟨(y, mo, d), h⟩
  have := Classical.choose_spec hx
  unfold gDate
  rw [dif_pos hx]
  exact date_uniq h this

/-- the year that from_jd reckons -/
theorem from_core {N k q c d yi r2 r1 r0 : Int} (hN1 : -100000000 ≤ N) (hN2 : N ≤ 400000000000) (e0 : k = (4 * N - 2 - 2) / 4) (e1 : q = (4 * k + 2 - 6885702) / 4 / 146097) (e2 : r2 = (4 * k + 2 - 6885702) / 4 % 146097) (e3 : c = 4 * r2 / 4 / 36524) (e4 : r1 = 4 * r2 / 4 % 36524)
    (e5 : d = 4 * r1 / 4 / 1461) (e6 : r0 = 4 * r1 / 4 % 1461) (e7 : yi = 4 * r0 / 4 / 365) :
    ((c = 4 ∨ yi = 4) → (0 ≤ N - gjd (q * 400 + c * 100 + d * 4 + yi) 1 ∧ N - gjd (q * 400 + c * 100 + d * 4 + yi) 1 ≤ 365 ∧ lpI (q * 400 + c * 100 + d * 4 + yi) = 1 ∧ -1000000 ≤ q * 400 + c * 100 + d * 4 + yi ∧ q * 400 + c * 100 + d * 4 + yi ≤ 2900000000)) ∧
    (¬ (c = 4 ∨ yi = 4) → (0 ≤ N - gjd (q * 400 + c * 100 + d * 4 + yi + 1) 1 ∧ N - gjd (q * 400 + c * 100 + d * 4 + yi + 1) 1 ≤ 364 ∧ -1000000 ≤ q * 400 + c * 100 + d * 4 + yi + 1 ∧ q * 400 + c * 100 + d * 4 + yi + 1 ≤ 2900000000)) := by
  have f0 : k = N - 1 := by omega
  have f1 : q = (N - 1721426) / 146097 := by omega
  have f2 : r2 = (N - 1721426) % 146097 := by omega
  have f3 : c = r2 / 36524 := by omega
  have f4 : r1 = r2 % 36524 := by omega
  have f5 : d = r1 / 1461 := by omega
  have f6 : r0 = r1 % 1461 := by omega
  have f7 : yi = r0 / 365 := by omega
  clear e0 e1 e2 e3 e4 e5 e6 e7 f0
  have g0 : N = 1721426 + 146097 * q + 36524 * c + 1461 * d + r0 := by omega
  have g1 : 0 ≤ c ∧ c ≤ 4 ∧ 0 ≤ d ∧ d ≤ 24 ∧ 0 ≤ r0 ∧ r0 < 1461 ∧ 0 ≤ yi ∧ yi ≤ 4 := by omega
  have g2 : c = 4 → d = 0 ∧ r0 = 0 ∧ yi = 0 := by omega
  have g3 : d = 24 → yi ≤ 3 := by omega
  have g4 : 365 * yi ≤ r0 ∧ r0 < 365 * yi + 365 := by omega
  have g5 : yi = 4 → r0 = 1460 := by omega
  have g6 : -800 ≤ q ∧ q ≤ 2800000 := by omega
  clear f1 f2 f3 f4 f5 f6 f7
  constructor
  · intro h
    have a := gjd_year (q * 400 + c * 100 + d * 4 + yi)
    have b := lpI_says (q * 400 + c * 100 + d * 4 + yi)
    rcases h with h | h
    · have := g2 h
      omega
    · have h1 : d ≠ 24 := fun h2 => by have := g3 h2; omega
      have h3 : c ≠ 4 := fun h2 => by have := g2 h2; omega
      have h4 := g5 h
      have a1 : (q * 400 + c * 100 + d * 4 + yi - 1) / 4 = 100 * q + 25 * c + d := by omega
      have a2 : (q * 400 + c * 100 + d * 4 + yi - 1) / 100 = 4 * q + c := by omega
      have a3 : (q * 400 + c * 100 + d * 4 + yi - 1) / 400 = q := by omega
      have a4 : (q * 400 + c * 100 + d * 4 + yi) % 100 = 4 * d + 4 := by omega
      have a5 : (q * 400 + c * 100 + d * 4 + yi) % 4 = 0 := by omega
      rw [a1, a2, a3] at a
      rw [a4, a5] at b
      omega
  · intro h
    have a := gjd_year (q * 400 + c * 100 + d * 4 + yi + 1)
    have a1 : (q * 400 + c * 100 + d * 4 + yi + 1 - 1) / 4 = 100 * q + 25 * c + d := by omega
    have a2 : (q * 400 + c * 100 + d * 4 + yi + 1 - 1) / 100 = 4 * q + c := by omega
    have a3 : (q * 400 + c * 100 + d * 4 + yi + 1 - 1) / 400 = q := by omega
    rw [a1, a2, a3] at a
    omega

theorem from_coreA {N k q c d yi r2 r1 r0 : Int} (hN1 : -100000000 ≤ N) (hN2 : N ≤ 400000000000) (e0 : k = (4 * N - 2 - 2) / 4) (e1 : q = (4 * k + 2 - 6885702) / 4 / 146097) (e2 : r2 = (4 * k + 2 - 6885702) / 4 % 146097) (e3 : c = 4 * r2 / 4 / 36524) (e4 : r1 = 4 * r2 / 4 % 36524)
    (e5 : d = 4 * r1 / 4 / 1461) (e6 : r0 = 4 * r1 / 4 % 1461) (e7 : yi = 4 * r0 / 4 / 365) (h : c = 4 ∨ yi = 4) {g : Int} (hg : g = gjd (q * 400 + c * 100 + d * 4 + yi) 1) :
    0 ≤ N - g ∧ N - g ≤ 365 ∧ lpI (q * 400 + c * 100 + d * 4 + yi) = 1 ∧ -1000000 ≤ q * 400 + c * 100 + d * 4 + yi ∧ q * 400 + c * 100 + d * 4 + yi ≤ 2900000000 := by
  subst hg
  exact (from_core hN1 hN2 e0 e1 e2 e3 e4 e5 e6 e7).1 h
theorem from_coreB {N k q c d yi r2 r1 r0 : Int} (hN1 : -100000000 ≤ N) (hN2 : N ≤ 400000000000) (e0 : k = (4 * N - 2 - 2) / 4) (e1 : q = (4 * k + 2 - 6885702) / 4 / 146097) (e2 : r2 = (4 * k + 2 - 6885702) / 4 % 146097) (e3 : c = 4 * r2 / 4 / 36524) (e4 : r1 = 4 * r2 / 4 % 36524)
    (e5 : d = 4 * r1 / 4 / 1461) (e6 : r0 = 4 * r1 / 4 % 1461) (e7 : yi = 4 * r0 / 4 / 365) (h : ¬ (c = 4 ∨ yi = 4)) {g : Int} (hg : g = gjd (q * 400 + c * 100 + d * 4 + yi + 1) 1) :
    0 ≤ N - g ∧ N - g ≤ 364 ∧ -1000000 ≤ q * 400 + c * 100 + d * 4 + yi + 1 ∧ q * 400 + c * 100 + d * 4 + yi + 1 ≤ 2900000000 := by
  subst hg
  exact (from_core hN1 hN2 e0 e1 e2 e3 e4 e5 e6 e7).2 h

theorem from_end {N Y k g v mo gm kd adj : Int} (e0 : k = (4 * N - 2 - 2) / 4) (hg : g = gjd Y 1) (c1 : 0 ≤ N - g) (c2 : N - g ≤ 364 + lpI Y) (hmo : mo = ((4 * k + 2 - (4 * g - 2) + 4 * adj) * 12 + 4 * 373) / 4 / 367)
    (hadj : (adj = 0 ∧ 4 * k + 2 - (4 * g - 2) < 4 * (58 + v)) ∨ (adj = 1 ∧ ¬ 4 * k + 2 - (4 * g - 2) < 4 * (58 + v) ∧ lpI Y = 1) ∨ (adj = 2 ∧ ¬ 4 * k + 2 - (4 * g - 2) < 4 * (58 + v) ∧ ¬ lpI Y = 1))
    (hv : v = lpI Y) (hgm : gm = gjd Y mo) (hkd : kd = (4 * k + 2 - (4 * gm - 2)) / 4) : Y = (gDate N).1 ∧ mo = (gDate N).2.1 ∧ kd + 1 = (gDate N).2.2 := by
  refine gDate_of ?_
  have f0 : k = N - 1 := by omega
  have f1 : kd = N - gm := by omega
  have f2 : mo = ((N - g + adj) * 12 + 373) / 367 := by omega
  have y1 := gjd_year Y
  have y2 := gjd_year (Y + 1)
  have lb := lpI_bound Y
  have ls := lpI_says Y
  have yn : gjd (Y + 1) 1 = g + 365 + lpI Y := by rw [y2, hg, y1]; omega
  clear ls y2 e0 hkd hmo
  have m1 : 1 ≤ mo ∧ mo ≤ 12 := by omega
  have a := gjd_says Y mo
  have b := gjd_says Y (mo + 1)
  have hyd : gm = g + (367 * mo - 362) / 12 + (if mo ≤ 2 then 0 else lpI Y - 2) := by
    rw [hgm, hg, y1]; unfold gjd; rfl
  have hyd2 : gjd Y (mo + 1) = g + (367 * (mo + 1) - 362) / 12 + (if mo + 1 ≤ 2 then 0 else lpI Y - 2) := by
    rw [hg, y1]; unfold gjd; rfl
  clear a b y1 hg
  refine ⟨m1.1, m1.2, ?_, by omega, fun h => ?_, fun h => ?_⟩
  · by_cases h2 : mo ≤ 2
    · rw [if_pos h2] at hyd; omega
    · rw [if_neg h2] at hyd; omega
  · by_cases h2 : mo + 1 ≤ 2
    · rw [if_pos h2] at hyd2; omega
    · rw [if_neg h2] at hyd2; omega
  · rw [yn]; omega

theorem from_mid {N Y k g v mo adj : Int} (e0 : k = (4 * N - 2 - 2) / 4) (hg : g = gjd Y 1) (c1 : 0 ≤ N - g) (c2 : N - g ≤ 364 + lpI Y) (hmo : mo = ((4 * k + 2 - (4 * g - 2) + 4 * adj) * 12 + 4 * 373) / 4 / 367)
    (hadj : (adj = 0 ∧ 4 * k + 2 - (4 * g - 2) < 4 * (58 + v)) ∨ (adj = 1 ∧ ¬ 4 * k + 2 - (4 * g - 2) < 4 * (58 + v) ∧ lpI Y = 1) ∨ (adj = 2 ∧ ¬ 4 * k + 2 - (4 * g - 2) < 4 * (58 + v) ∧ ¬ lpI Y = 1))
    (hv : v = lpI Y) : 1 ≤ mo ∧ mo ≤ 12 ∧ ∀ gm, gm = gjd Y mo → (0 ≤ N - gm ∧ N - gm ≤ 366) ∧ ∀ kd, kd = (4 * k + 2 - (4 * gm - 2)) / 4 → Y = (gDate N).1 ∧ mo = (gDate N).2.1 ∧ kd + 1 = (gDate N).2.2 := by
  have lb := lpI_bound Y
  have f0 : k = N - 1 := by omega
  have f2 : mo = ((N - g + adj) * 12 + 373) / 367 := by omega
  have m1 : 1 ≤ mo ∧ mo ≤ 12 := by omega
  refine ⟨m1.1, m1.2, fun gm hgm => ⟨?_, fun kd hkd => from_end e0 hg c1 c2 hmo hadj hv hgm hkd⟩⟩
  have hend := from_end e0 hg c1 c2 hmo hadj hv hgm rfl
  have y1 := gjd_year Y
  have hyd : gm = g + (367 * mo - 362) / 12 + (if mo ≤ 2 then 0 else lpI Y - 2) := by
    rw [hgm, hg, y1]; unfold gjd; rfl
  clear hmo hg hgm hend y1 e0
  by_cases h2 : mo ≤ 2
  · rw [if_pos h2] at hyd; omega
  · rw [if_neg h2] at hyd; omega
end Mine
end

section
local macro_rules | `(tactic| walk_at "pad0") => `(tactic| skip)
open PySem PySem.W PyProof.Rows
namespace Mine
set_option maxRecDepth 100000
set_option maxHeartbeats 40000000
local macro_rules | `(tactic| walk_at "binaryOp Mod int int") => `(tactic| (k_here; (with_reducible show wpAny _ _ (binaryOp Operator.Mod (Value.int _ _) (Value.int _ _)) _ _ _); (refine' r_mod_ii ?hb ?_; (case hb => first | decide | omega)); intro _ _ _ _))
local macro_rules | `(tactic| walk_at "binaryOp Sub float float") => `(tactic| (k_here; (with_reducible show wpAny _ _ (binaryOp Operator.Sub (Value.float _ _) (Value.float _ _)) _ _ _); (refine' r_sub_ff ?hx ?hy ?ha ?hb ?hc ?_; (case hx => first | with_reducible exact rfl | exact k_epoch); (case hy => first | with_reducible exact rfl | exact k_half | exact k_epoch | exact k_1524); (case ha => constructor <;> omega); (case hb => constructor <;> omega); (case hc => constructor <;> omega))))
local macro_rules | `(tactic| walk_at "binaryOp Sub float int") => `(tactic| (k_here; (with_reducible show wpAny _ _ (binaryOp Operator.Sub (Value.float _ _) (Value.int _ _)) _ _ _); (refine' r_sub_fi ?hx ?ha ?hb ?hc ?_; (case hx => first | with_reducible exact rfl | exact k_epoch); (case ha => constructor <;> omega); (case hb => constructor <;> omega); (case hc => constructor <;> omega))))
local macro_rules | `(tactic| walk_at "binaryOp Sub int float") => `(tactic| (k_here; (with_reducible show wpAny _ _ (binaryOp Operator.Sub (Value.int _ _) (Value.float _ _)) _ _ _); (refine' r_sub_if ?hy ?ha ?hb ?hc ?_; (case hy => first | with_reducible exact rfl | exact k_epoch | exact k_1524); (case ha => constructor <;> omega); (case hb => constructor <;> omega); (case hc => constructor <;> omega))))
local macro_rules | `(tactic| walk_at "binaryOp Add float int") => `(tactic| (k_here; (with_reducible show wpAny _ _ (binaryOp Operator.Add (Value.float _ _) (Value.int _ _)) _ _ _); (refine' r_add_fi ?hx ?ha ?hb ?hc ?_; (case hx => first | with_reducible exact rfl | exact k_epoch); (case ha => constructor <;> omega); (case hb => constructor <;> omega); (case hc => constructor <;> omega))))
local macro_rules | `(tactic| walk_at "binaryOp Add int float") => `(tactic| (k_here; (with_reducible show wpAny _ _ (binaryOp Operator.Add (Value.int _ _) (Value.float _ _)) _ _ _); (refine' r_add_if ?hy ?ha ?hb ?hc ?_; (case hy => first | with_reducible exact rfl | exact k_half); (case ha => constructor <;> omega); (case hb => constructor <;> omega); (case hc => constructor <;> omega))))
local macro_rules | `(tactic| walk_at "binaryOp Mult float int") => `(tactic| (k_here; (with_reducible show wpAny _ _ (binaryOp Operator.Mult (Value.float _ _) (Value.int _ _)) _ _ _); first
  | (refine' r_mul_fc (a := 1461) k_36525 ?ha ?hb ?ha0 ?hc ?_; (case ha => constructor <;> omega); (case hb => constructor <;> omega); (case ha0 => decide); (case hc => constructor <;> omega))
  | (refine' r_mul_fi ?hx ?ha ?hb ?hb0 ?hc ?_; (case hx => with_reducible exact rfl); (case ha => constructor <;> omega); (case hb => constructor <;> omega); (case hb0 => omega); (case hc => constructor <;> omega))))
local macro_rules | `(tactic| walk_at "binaryOp Mod float int") => `(tactic| (k_here; (with_reducible show wpAny _ _ (binaryOp Operator.Mod (Value.float _ _) (Value.int _ _)) _ _ _); (refine' r_mod_fi rfl ?hx ?hm ?ha ?hb ?hb0 ?_; (case hx => with_reducible exact rfl); (case hm => omega); (case ha => constructor <;> omega); (case hb => constructor <;> omega); (case hb0 => omega)); intro _ _ _ _))
local macro_rules | `(tactic| walk_at "binaryOp Div float int") => `(tactic| (k_here; (with_reducible show wpAny _ _ (binaryOp Operator.Div (Value.float (q4 _) _) (Value.int _ _)) _ _ _); (refine' r_div_fi rfl ?hx ?hb ?hb0 ?_; (case hx => with_reducible exact rfl); (case hb => constructor <;> omega); (case hb0 => omega))))
local macro_rules | `(tactic| walk_at "binaryOp Div int int") => `(tactic| (k_here; (with_reducible show wpAny _ _ (binaryOp Operator.Div (Value.int _ _) (Value.int _ _)) _ _ _); (refine' r_div_ii rfl ?hb ?ha ?_; (case hb => omega); (case ha => omega))))
local macro_rules | `(tactic| walk_at "compareOp Lt float int") => `(tactic| (k_here; (with_reducible show wpAny _ _ (compareOp CmpOp.Lt (Value.float (q4 _) _) (Value.int _ _)) _ _ _); (refine' r_lt_fi ?hx ?ha ?_; (case hx => with_reducible exact rfl); (case ha => constructor <;> omega))))
local macro_rules | `(tactic| walk_at "call builtin:math.floor") => `(tactic| (k_here; first
  | ((with_reducible show wpAny _ _ (call _ [Value.float (q4 _) _]) _ _ _); (refine' r_floor_q rfl ?hx ?ha ?_; (case hx => with_reducible exact rfl); (case ha => constructor <;> omega)); intro _ _)
  | ((with_reducible show wpAny _ _ (call _ [Value.float (qd _ _) _]) _ _ _); (refine' r_floor_qd rfl ?hb ?hb2 ?hk ?hk2 ?_; (case hb => omega); (case hb2 => omega); (case hk => omega); (case hk2 => omega)); intro _ _)
  | ((with_reducible show wpAny _ _ (call _ [Value.float (Float64.div (q4 _) (Float64.ofInt _)) _]) _ _ _); (refine' r_floor_div rfl ?hm ?ha ?hb ?hb2 ?hk ?hk2 ?_; (case hm => omega); (case ha => constructor <;> omega); (case hb => omega); (case hb2 => omega); (case hk => omega); (case hk2 => omega)); intro _ _)))
local macro_rules | `(tactic| walk_at "call builtin:math.trunc") => `(tactic| (k_here; (with_reducible show wpAny _ _ (call _ [Value.float (qd _ _) _]) _ _ _); first
  | ((refine' r_trunc_qd rfl ?hb ?hb2 ?hk ?hk2 ?h0 ?_; (case hb => omega); (case hb2 => omega); (case hk => omega); (case hk2 => omega); (case h0 => omega)); intro _ _)
  | ((refine' r_trunc_qs rfl ?hb ?hb2 ?hk ?hk2 ?_; (case hb => omega); (case hb2 => omega); (case hk => omega); (case hk2 => omega)); intro _ _ _)))
local macro_rules | `(tactic| walk_at "call type:int") => `(tactic| (k_here; (with_reducible show wpAny _ _ (call _ [Value.float (q4 _) _]) _ _ _); (refine' r_int_q rfl ?hx ?ha ?h0 ?_; (case hx => with_reducible exact rfl); (case ha => constructor <;> omega); (case h0 => omega)); intro _ _))
local macro_rules | `(tactic| walk_at "compareOp In int ref") => `(tactic| (k_here; (with_reducible show wpAny _ _ (compareOp CmpOp.In (Value.int _ _) (Value.ref _)) _ _ _); k_dflt (refine' r_in4 ?F ?X ?l ?i ?_; (case F => k_asm); (case X => k_asm); (case l => k_is); (case i => repeat constructor))))
local macro_rules | `(tactic| walk_at "eval Call") => `(tactic| (k_here; (with_reducible show wpAny _ _ (eval (Expr.Call (Expr.Name _ _) _ [] _) _) _ _ _); k_dflt (refine Call_ ?_)))
variable {w : World} {loose : List Str} {mean : ExcName → Option Value} {mg mb : Str → Option Value}
local macro_rules | `(tactic| walk_at "call ref") => `(tactic| (k_here; (with_reducible show wpAny _ _ (call (Value.ref 49) _) _ _ _); k_dflt (refine' r_use (c_isleap _ _) ?k1 ?k2 ?k3 ?k4 ?k5 ?kK ?kd ?ku ?_; (case k1 => k_asm); (case k2 => k_asm); (case k3 => k_asm); (case k4 => k_asm); (case k5 => k_asm); (case kK => first | exact rfl | assumption); (case kd => ktr_room); (case ku => ktr_units)); intro h9 tk9 F9 N9; (try dsimp only); (try k_fold)))
local macro_rules | `(tactic| walk_at "call ref") => `(tactic| (k_here; (with_reducible show wpAny _ _ (call (Value.ref 64) _) _ _ _); (have hmid := from_mid (by with_reducible assumption) (by with_reducible assumption) (by omega) (by omega) (by with_reducible assumption) (by with_reducible first | exact Or.inl ⟨rfl, by assumption⟩ | exact Or.inr (Or.inl ⟨rfl, by assumption, by omega⟩) | exact Or.inr (Or.inr ⟨rfl, by assumption, by omega⟩)) (by with_reducible assumption)); (rename (_ = _ / 4 / 367) => e1; clear e1); k_dflt (refine' r_use (c_to_jd _ _ _ _ _ ?k6 ?k7 ?k8 ?k9) ?k1 ?k2 ?k3 ?k4 ?k5 ?kK ?kd ?ku ?_; (case k1 => k_asm); (case k2 => k_asm); (case k3 => k_asm); (case k4 => k_asm); (case k5 => k_asm); (case k6 => omega); (case k7 => omega); (case k8 => exact hmid.1); (case k9 => exact hmid.2.1); (case kK => first | exact rfl | assumption); (case kd => ktr_room); (case ku => ktr_units)); intro g9 hg9 hG9 hl9 t9 h9 tk9 F9 N9; (have hm9 := hmid.2.2 _ hg9); (clear hG9 hg9 hmid); (obtain ⟨hm1, hm2⟩ := hm9); (try dsimp only); (try k_fold)))
theorem r_add_ib {prog : Program} {w : World} {A : Around} {E : Value → Shared → Prop} {s : Shared} {Q : Value → Shared → Prop} {a y : Int} {t : Tok} (h : ∀ v : Int, v = lpI y → 0 ≤ v → v ≤ 1 → Q (.int (a + v) s.toks) { s with toks := s.toks + 1 }) :
    wpAny (model prog w) A (binaryOp .Add (.int a t) (.bool (decide (lpI y = 1)))) Q E s := by
  refine add_int_bool ?_
  have e : (if decide (lpI y = 1) = true then (1 : Int) else 0) = lpI y := by
    have := lpI_says y
    by_cases h : lpI y = 1
    · simp [h]
    · have : lpI y = 0 := by omega
      simp [this]
  rw [e]
  exact h _ rfl (lpI_bound y).1 (lpI_bound y).2
local macro_rules | `(tactic| walk_at "binaryOp Add int bool") => `(tactic| (k_here; k_dflt (refine r_add_ib ?_); intro _ _ _ _))

local macro_rules | `(tactic| walk_at "call ref") => `(tactic| (k_here; (with_reducible show wpAny _ _ (call (Value.ref 64) [_, Value.int 1 _, _]) _ _ _); k_dflt (refine' r_use (c_to_jd _ _ _ _ _ ?k6 ?k7 ?k8 ?k9) ?k1 ?k2 ?k3 ?k4 ?k5 ?kK ?kd ?ku ?_; (case k1 => k_asm); (case k2 => k_asm); (case k3 => k_asm); (case k4 => k_asm); (case k5 => k_asm); (case k6 => omega); (case k7 => omega); (case k8 => omega); (case k9 => omega); (case kK => first | exact rfl | assumption); (case kd => ktr_room); (case ku => ktr_units)); intro g9 hg9 hG9 hl9 t9 h9 tk9 F9 N9; (first | have hcore := from_coreA (by with_reducible assumption) (by with_reducible assumption) (by with_reducible assumption) (by with_reducible assumption) (by with_reducible assumption) (by with_reducible assumption) (by with_reducible assumption) (by with_reducible assumption) (by with_reducible assumption) (by with_reducible assumption) (by with_reducible first | exact Or.inl (by assumption) | exact Or.inr (by assumption)) (by with_reducible exact hg9) | have hcore := from_coreB (by with_reducible assumption) (by with_reducible assumption) (by with_reducible assumption) (by with_reducible assumption) (by with_reducible assumption) (by with_reducible assumption) (by with_reducible assumption) (by with_reducible assumption) (by with_reducible assumption) (by with_reducible assumption) (by with_reducible exact not_or.mpr ⟨by assumption, by assumption⟩) (by with_reducible exact hg9)); clear hG9; (try (rename (_ ≠ (4 : Int)) => e1; clear e1)); (try (rename (_ ≠ (4 : Int)) => e1; clear e1)); (try (rename (_ = (4 : Int)) => e1; clear e1)); (rename (_ = _ / 4 / 146097) => e1; clear e1); (rename (_ = _ / 4 % 146097) => e1; clear e1); (rename (_ = _ / 4 / 36524) => e1; clear e1); (rename (_ = _ / 4 % 36524) => e1; clear e1); (rename (_ = _ / 4 / 1461) => e1; clear e1); (rename (_ = _ / 4 % 1461) => e1; clear e1); (rename (_ = _ / 4 / 365) => e1; clear e1); (try dsimp only); (try k_fold)))
theorem c_from_jd (N₀ : Int) (t1 : Tok) (hN1 : -100000000 ≤ N₀) (hN2 : N₀ ≤ 400000000000) : Claim w loose mean mg mb 71 4 [.float (q4 (4 * N₀ - 2)) t1] (Ret3 (gDate N₀).1 (gDate N₀).2.1 (gDate N₀).2.2) := by
  unfold Claim
  k_fill
  intro dp un gd cn cs a ccd cl outer A₀ base h₀ L m news s Q E B F X N T hk hd hu hret
  refine wpAny_call ?_
  k_dflt cell_enter
  w_top off
  k_steps
  all_goals (
    rename (∀ kd : Int, kd = _ → _ ∧ _ ∧ _) => hfin
    have hend := hfin _ (by with_reducible assumption)
    exact end3h hret hend.1 hend.2.1 hend.2.2 (by k_asm) (by assumption) (fun _ hp => hp) (by assumption))
end Mine
end

section
local macro_rules | `(tactic| walk_at "pad0") => `(tactic| skip)
local macro_rules | `(tactic| walk_at "pad1") => `(tactic| skip)
open PySem PySem.W PyProof.Rows
namespace Mine
set_option maxRecDepth 100000
set_option maxHeartbeats 40000000
local macro_rules | `(tactic| walk_at "binaryOp Mod int int") => `(tactic| (k_here; (with_reducible show wpAny _ _ (binaryOp Operator.Mod (Value.int _ _) (Value.int _ _)) _ _ _); (refine' r_mod_ii ?hb ?_; (case hb => first | decide | omega)); intro _ _ _ _))
local macro_rules | `(tactic| walk_at "binaryOp Sub float float") => `(tactic| (k_here; (with_reducible show wpAny _ _ (binaryOp Operator.Sub (Value.float _ _) (Value.float _ _)) _ _ _); (refine' r_sub_ff ?hx ?hy ?ha ?hb ?hc ?_; (case hx => first | with_reducible exact rfl | exact k_epoch); (case hy => first | with_reducible exact rfl | exact k_half | exact k_epoch | exact k_1524); (case ha => constructor <;> omega); (case hb => constructor <;> omega); (case hc => constructor <;> omega))))
local macro_rules | `(tactic| walk_at "binaryOp Sub float int") => `(tactic| (k_here; (with_reducible show wpAny _ _ (binaryOp Operator.Sub (Value.float _ _) (Value.int _ _)) _ _ _); (refine' r_sub_fi ?hx ?ha ?hb ?hc ?_; (case hx => first | with_reducible exact rfl | exact k_epoch); (case ha => constructor <;> omega); (case hb => constructor <;> omega); (case hc => constructor <;> omega))))
local macro_rules | `(tactic| walk_at "binaryOp Sub int float") => `(tactic| (k_here; (with_reducible show wpAny _ _ (binaryOp Operator.Sub (Value.int _ _) (Value.float _ _)) _ _ _); (refine' r_sub_if ?hy ?ha ?hb ?hc ?_; (case hy => first | with_reducible exact rfl | exact k_epoch | exact k_1524); (case ha => constructor <;> omega); (case hb => constructor <;> omega); (case hc => constructor <;> omega))))
local macro_rules | `(tactic| walk_at "binaryOp Add float int") => `(tactic| (k_here; (with_reducible show wpAny _ _ (binaryOp Operator.Add (Value.float _ _) (Value.int _ _)) _ _ _); (refine' r_add_fi ?hx ?ha ?hb ?hc ?_; (case hx => first | with_reducible exact rfl | exact k_epoch); (case ha => constructor <;> omega); (case hb => constructor <;> omega); (case hc => constructor <;> omega))))
local macro_rules | `(tactic| walk_at "binaryOp Add int float") => `(tactic| (k_here; (with_reducible show wpAny _ _ (binaryOp Operator.Add (Value.int _ _) (Value.float _ _)) _ _ _); (refine' r_add_if ?hy ?ha ?hb ?hc ?_; (case hy => first | with_reducible exact rfl | exact k_half); (case ha => constructor <;> omega); (case hb => constructor <;> omega); (case hc => constructor <;> omega))))
local macro_rules | `(tactic| walk_at "binaryOp Mult float int") => `(tactic| (k_here; (with_reducible show wpAny _ _ (binaryOp Operator.Mult (Value.float _ _) (Value.int _ _)) _ _ _); first
  | (refine' r_mul_fc (a := 1461) k_36525 ?ha ?hb ?ha0 ?hc ?_; (case ha => constructor <;> omega); (case hb => constructor <;> omega); (case ha0 => decide); (case hc => constructor <;> omega))
  | (refine' r_mul_fi ?hx ?ha ?hb ?hb0 ?hc ?_; (case hx => with_reducible exact rfl); (case ha => constructor <;> omega); (case hb => constructor <;> omega); (case hb0 => omega); (case hc => constructor <;> omega))))
local macro_rules | `(tactic| walk_at "binaryOp Mod float int") => `(tactic| (k_here; (with_reducible show wpAny _ _ (binaryOp Operator.Mod (Value.float _ _) (Value.int _ _)) _ _ _); (refine' r_mod_fi rfl ?hx ?hm ?ha ?hb ?hb0 ?_; (case hx => with_reducible exact rfl); (case hm => omega); (case ha => constructor <;> omega); (case hb => constructor <;> omega); (case hb0 => omega)); intro _ _ _ _))
local macro_rules | `(tactic| walk_at "binaryOp Div float int") => `(tactic| (k_here; (with_reducible show wpAny _ _ (binaryOp Operator.Div (Value.float (q4 _) _) (Value.int _ _)) _ _ _); (refine' r_div_fi rfl ?hx ?hb ?hb0 ?_; (case hx => with_reducible exact rfl); (case hb => constructor <;> omega); (case hb0 => omega))))
local macro_rules | `(tactic| walk_at "binaryOp Div int int") => `(tactic| (k_here; (with_reducible show wpAny _ _ (binaryOp Operator.Div (Value.int _ _) (Value.int _ _)) _ _ _); (refine' r_div_ii rfl ?hb ?ha ?_; (case hb => omega); (case ha => omega))))
local macro_rules | `(tactic| walk_at "compareOp Lt float int") => `(tactic| (k_here; (with_reducible show wpAny _ _ (compareOp CmpOp.Lt (Value.float (q4 _) _) (Value.int _ _)) _ _ _); (refine' r_lt_fi ?hx ?ha ?_; (case hx => with_reducible exact rfl); (case ha => constructor <;> omega))))
local macro_rules | `(tactic| walk_at "call builtin:math.floor") => `(tactic| (k_here; first
  | ((with_reducible show wpAny _ _ (call _ [Value.float (q4 _) _]) _ _ _); (refine' r_floor_q rfl ?hx ?ha ?_; (case hx => with_reducible exact rfl); (case ha => constructor <;> omega)); intro _ _)
  | ((with_reducible show wpAny _ _ (call _ [Value.float (qd _ _) _]) _ _ _); (refine' r_floor_qd rfl ?hb ?hb2 ?hk ?hk2 ?_; (case hb => omega); (case hb2 => omega); (case hk => omega); (case hk2 => omega)); intro _ _)
  | ((with_reducible show wpAny _ _ (call _ [Value.float (Float64.div (q4 _) (Float64.ofInt _)) _]) _ _ _); (refine' r_floor_div rfl ?hm ?ha ?hb ?hb2 ?hk ?hk2 ?_; (case hm => omega); (case ha => constructor <;> omega); (case hb => omega); (case hb2 => omega); (case hk => omega); (case hk2 => omega)); intro _ _)))
local macro_rules | `(tactic| walk_at "call builtin:math.trunc") => `(tactic| (k_here; (with_reducible show wpAny _ _ (call _ [Value.float (qd _ _) _]) _ _ _); first
  | ((refine' r_trunc_qd rfl ?hb ?hb2 ?hk ?hk2 ?h0 ?_; (case hb => omega); (case hb2 => omega); (case hk => omega); (case hk2 => omega); (case h0 => omega)); intro _ _)
  | ((refine' r_trunc_qs rfl ?hb ?hb2 ?hk ?hk2 ?_; (case hb => omega); (case hb2 => omega); (case hk => omega); (case hk2 => omega)); intro _ _ _)))
local macro_rules | `(tactic| walk_at "call type:int") => `(tactic| (k_here; (with_reducible show wpAny _ _ (call _ [Value.float (q4 _) _]) _ _ _); (refine' r_int_q rfl ?hx ?ha ?h0 ?_; (case hx => with_reducible exact rfl); (case ha => constructor <;> omega); (case h0 => omega)); intro _ _))
local macro_rules | `(tactic| walk_at "compareOp In int ref") => `(tactic| (k_here; (with_reducible show wpAny _ _ (compareOp CmpOp.In (Value.int _ _) (Value.ref _)) _ _ _); k_dflt (refine' r_in4 ?F ?X ?l ?i ?_; (case F => k_asm); (case X => k_asm); (case l => k_is); (case i => repeat constructor))))
local macro_rules | `(tactic| walk_at "eval Call") => `(tactic| (k_here; (with_reducible show wpAny _ _ (eval (Expr.Call (Expr.Name _ _) _ [] _) _) _ _ _); k_dflt (refine Call_ ?_)))
variable {w : World} {loose : List Str} {mean : ExcName → Option Value} {mg mb : Str → Option Value}

theorem c_mlen (y mo : Int) (t1 t2 : Tok) (h3 : 3 ≤ mo) (h4 : mo ≤ 4) : Claim w loose mean mg mb 86 1 [.int y t1, .int mo t2] (RetI (34 - mo)) := by
  unfold Claim
  k_fill
  intro dp un gd cn cs a ccd cl outer A₀ base h₀ L m news s Q E B F X N T hk hd hu hret
  refine wpAny_call ?_
  k_dflt cell_enter
  w_top off
  k_steps
  all_goals first | (exfalso; omega) | (refine endI hret ?_ (by k_asm) (by assumption) (fun _ hp => hp); omega)
local macro_rules | `(tactic| walk_at "call ref") => `(tactic| (k_here; (with_reducible show wpAny _ _ (call (Value.ref 86) _) _ _ _); k_dflt (refine' r_use (c_mlen _ _ _ _ ?p0 ?p1) ?k1 ?k2 ?k3 ?k4 ?k5 ?kK ?kd ?ku ?_; (case k1 => k_asm); (case k2 => k_asm); (case k3 => k_asm); (case k4 => k_asm); (case k5 => k_asm); (case p0 => omega); (case p1 => omega); (case kK => first | exact rfl | assumption); (case kd => ktr_room); (case ku => ktr_units)); intro t9 h9 tk9 F9 N9; (try dsimp only); (try k_fold)))

theorem c_legal_j (y mo d : Int) (t1 t2 t3 : Tok) (h : (mo = 3 ∧ 1 ≤ d ∧ d ≤ 31) ∨ (mo = 4 ∧ 1 ≤ d ∧ d ≤ 30)) : Claim w loose mean mg mb 93 3 [.int y t1, .int mo t2, .int d t3] (RetB true) := by
  unfold Claim
  k_fill
  intro dp un gd cn cs a ccd cl outer A₀ base h₀ L m news s Q E B F X N T hk hd hu hret
  refine wpAny_call ?_
  k_dflt cell_enter
  w_top off
  k_steps
  all_goals exact endB hret rfl (by k_asm) (by assumption) (fun _ hp => hp)

local macro_rules | `(tactic| walk_at "call ref") => `(tactic| (k_here; (with_reducible show wpAny _ _ (call (Value.ref 93) _) _ _ _); k_dflt (refine' r_use (c_legal_j _ _ _ _ _ _ ?p0) ?k1 ?k2 ?k3 ?k4 ?k5 ?kK ?kd ?ku ?_; (case k1 => k_asm); (case k2 => k_asm); (case k3 => k_asm); (case k4 => k_asm); (case k5 => k_asm); (case p0 => first | exact Or.inl ⟨rfl, by omega, by omega⟩ | exact Or.inr ⟨rfl, by omega, by omega⟩); (case kK => first | exact rfl | assumption); (case kd => ktr_room); (case ku => ktr_units)); intro h9 tk9 F9 N9; (try dsimp only); (try k_fold)))
local macro_rules | `(tactic| walk_at "binaryOp Mult float int") => `(tactic| (k_here; (with_reducible show wpAny _ _ (binaryOp Operator.Mult (Value.float 4629306380116972641 _) (Value.int _ _)) _ _ _); (refine' mul_fi_fits ?ha ?_; (case ha => (refine fit_nat ?_; constructor <;> omega)))))
local macro_rules | `(tactic| walk_at "call builtin:math.floor") => `(tactic| (k_here; (with_reducible show wpAny _ _ (call _ [Value.float (Float64.mul 4629306380116972641 (Float64.ofInt _)) _]) _ _ _); first | refine r_floor_c (k := 122) rfl (by decide +kernel) (by decide +kernel) ?_ | refine r_floor_c (k := 153) rfl (by decide +kernel) (by decide +kernel) ?_))

/-- the day's number of a day of March (3) or April (4) of the Julian calendar -/
def jjd (y mo d : Int) : Int := 1461 * (y + 4716) / 4 + (if mo = 3 then 122 else 153) + d - 1524

theorem c_to_jd_j3 (y d : Int) (t1 t2 t3 : Tok) (h1 : -200000 ≤ y) (h2 : y ≤ 1000000000) (h3 : 1 ≤ d) (h4 : d ≤ 31) : Claim w loose mean mg mb 100 4 [.int y t1, .int 3 t2, .int d t3] (RetF (q4 (4 * jjd y 3 d - 2))) := by
  unfold Claim
  k_fill
  intro dp un gd cn cs a ccd cl outer A₀ base h₀ L m news s Q E B F X N T hk hd hu hret
  refine wpAny_call ?_
  k_dflt cell_enter
  w_top off
  k_steps
  all_goals (refine endF hret ?_ (by k_asm) (by assumption) (fun _ hp => hp); unfold jjd; congr 1; rw [if_pos rfl]; omega)
theorem c_to_jd_j4 (y d : Int) (t1 t2 t3 : Tok) (h1 : -200000 ≤ y) (h2 : y ≤ 1000000000) (h3 : 1 ≤ d) (h4 : d ≤ 30) : Claim w loose mean mg mb 100 4 [.int y t1, .int 4 t2, .int d t3] (RetF (q4 (4 * jjd y 4 d - 2))) := by
  unfold Claim
  k_fill
  intro dp un gd cn cs a ccd cl outer A₀ base h₀ L m news s Q E B F X N T hk hd hu hret
  refine wpAny_call ?_
  k_dflt cell_enter
  w_top off
  k_steps
  all_goals (refine endF hret ?_ (by k_asm) (by assumption) (fun _ hp => hp); unfold jjd; congr 1; rw [if_neg (by decide)]; omega)
theorem c_to_jd_j (y mo d : Int) (t1 t2 t3 : Tok) (h1 : -200000 ≤ y) (h2 : y ≤ 1000000000) (h : (mo = 3 ∧ 1 ≤ d ∧ d ≤ 31) ∨ (mo = 4 ∧ 1 ≤ d ∧ d ≤ 30)) : Claim w loose mean mg mb 100 4 [.int y t1, .int mo t2, .int d t3] (RetF (q4 (4 * jjd y mo d - 2))) := by
  rcases h with ⟨rfl, h3, h4⟩ | ⟨rfl, h3, h4⟩
  · exact c_to_jd_j3 y d t1 t2 t3 h1 h2 h3 h4
  · exact c_to_jd_j4 y d t1 t2 t3 h1 h2 h3 h4
theorem jjd_bound {y mo d : Int} (h1 : -200000 ≤ y) (h2 : y ≤ 1000000000) (h : (mo = 3 ∧ 1 ≤ d ∧ d ≤ 31) ∨ (mo = 4 ∧ 1 ≤ d ∧ d ≤ 30)) : -100000000 ≤ jjd y mo d ∧ jjd y mo d ≤ 400000000000 := by
  unfold jjd
  split <;> omega

local macro_rules | `(tactic| walk_at "call ref") => `(tactic| (k_here; (with_reducible show wpAny _ _ (call (Value.ref 100) _) _ _ _); k_dflt (refine' r_use (c_to_jd_j _ _ _ _ _ _ ?p0 ?p1 ?p2) ?k1 ?k2 ?k3 ?k4 ?k5 ?kK ?kd ?ku ?_; (case k1 => k_asm); (case k2 => k_asm); (case k3 => k_asm); (case k4 => k_asm); (case k5 => k_asm); (case p0 => assumption); (case p1 => assumption); (case p2 => assumption); (case kK => first | exact rfl | assumption); (case kd => ktr_room); (case ku => ktr_units)); intro t9 h9 tk9 F9 N9; (try dsimp only); (try k_fold)))
local macro_rules | `(tactic| walk_at "call ref") => `(tactic| (k_here; (with_reducible show wpAny _ _ (call (Value.ref 71) _) _ _ _); k_dflt (refine' r_use (c_from_jd _ _ ?p0 ?p1) ?k1 ?k2 ?k3 ?k4 ?k5 ?kK ?kd ?ku ?_; (case k1 => k_asm); (case k2 => k_asm); (case k3 => k_asm); (case k4 => k_asm); (case k5 => k_asm); (case p0 => exact (jjd_bound (by assumption) (by assumption) (by assumption)).1); (case p1 => exact (jjd_bound (by assumption) (by assumption) (by assumption)).2); (case kK => first | exact rfl | assumption); (case kd => ktr_room); (case ku => ktr_units)); intro D9 s1 s2 s3 c9 h9 tk9 F9 N9 l9; (try simp only [AllLt, and_true] at l9); (try dsimp only); (try k_fold)))
theorem c_to_greg (y mo d : Int) (t1 t2 t3 : Tok) (h1 : -200000 ≤ y) (h2 : y ≤ 1000000000) (h : (mo = 3 ∧ 1 ≤ d ∧ d ≤ 31) ∨ (mo = 4 ∧ 1 ≤ d ∧ d ≤ 30)) : Claim w loose mean mg mb 107 6 [.int y t1, .int mo t2, .int d t3] (Ret3 (gDate (jjd y mo d)).1 (gDate (jjd y mo d)).2.1 (gDate (jjd y mo d)).2.2) := by
  unfold Claim
  k_fill
  intro dp un gd cn cs a ccd cl outer A₀ base h₀ L m news s Q E B F X N T hk hd hu hret
  refine wpAny_call ?_
  k_dflt cell_enter
  w_top off
  k_steps
  all_goals exact end3 hret rfl rfl rfl (by k_asm) ⟨by assumption, .head _⟩ (fun _ hp => .tail _ hp) (by assumption)
end Mine
end

section
open PySem PySem.W PyProof.Rows
namespace Mine
set_option maxRecDepth 100000
set_option maxHeartbeats 40000000
/-- the first sunday behind a day -/
def sun (n : Int) : Int := n + 1 + (5 - n) % 7
/-- the first of March of the Julian calendar -/
def jmarch (y : Int) : Int := 1721424 + 1461 * ((y - 1) / 4) + 365 * ((y - 1) % 4) + 31 + (if y % 4 = 0 then 29 else 28)
/-- the old table of moons -/
def moonI (y : Int) : Int := 21 + (19 * (y % 19) + 15) % 30
def oldN (y l : Int) : Int := sun (jmarch y + moonI y - 1 + l)

theorem jul_law {y g b c d e k r l : Int} (hg : g = y % 19) (hb : b = y % 4) (hc : c = y % 7) (he : e = (2 * b + 4 * c - d + 6) % 7) (hk : k = (113 + d + e + 1) / 31) (hr : r = (113 + d + e + 1) % 31) (hd : d = (19 * g + 15) % 30 + l) (hl : 0 ≤ l ∧ l ≤ 1) (hd2 : d ≤ 29) :
    jjd y k (r + 1) = oldN y l := by
  have hm : moonI y = 21 + d - l := by unfold moonI; rw [← hg]; omega
  have h1 : 0 ≤ d := by omega
  unfold jjd oldN
  rw [hm]
  clear hm hd hg
  have e1 : 1461 * (y + 4716) / 4 + (if k = 3 then 122 else 153) + (r + 1) - 1524 = 1461 * y / 4 + 1721139 + d + e := by
    have hk2 : k = 3 ∨ k = 4 := by omega
    rcases hk2 with h | h
    · rw [if_pos h]; omega
    · rw [if_neg (by omega)]; omega
  rw [e1]
  clear e1 hk hr
  unfold jmarch sun
  have hu : ∃ u, y = 4 * u + b := ⟨y / 4, by omega⟩
  obtain ⟨u, hu⟩ := hu
  have hv : ∃ v, y = 7 * v + c := ⟨y / 7, by omega⟩
  obtain ⟨v, hv⟩ := hv
  have hb2 : b = 0 ∨ b = 1 ∨ b = 2 ∨ b = 3 := by omega
  have q : y % 4 = b := hb.symm
  rw [q]
  clear hb q
  rcases hb2 with h | h | h | h <;> subst h
  · rw [if_pos rfl]
    have a1 : (y - 1) / 4 = u - 1 := by omega
    have a2 : (y - 1) % 4 = 3 := by omega
    have a3 : 1461 * y / 4 = 1461 * u := by omega
    rw [a1, a2, a3]; omega
  · rw [if_neg (by decide)]
    have a1 : (y - 1) / 4 = u := by omega
    have a2 : (y - 1) % 4 = 0 := by omega
    have a3 : 1461 * y / 4 = 1461 * u + 365 := by omega
    rw [a1, a2, a3]; omega
  · rw [if_neg (by decide)]
    have a1 : (y - 1) / 4 = u := by omega
    have a2 : (y - 1) % 4 = 1 := by omega
    have a3 : 1461 * y / 4 = 1461 * u + 730 := by omega
    rw [a1, a2, a3]; omega
  · rw [if_neg (by decide)]
    have a1 : (y - 1) / 4 = u := by omega
    have a2 : (y - 1) % 4 = 2 := by omega
    have a3 : 1461 * y / 4 = 1461 * u + 1095 := by omega
    rw [a1, a2, a3]; omega
end Mine
end

section
local macro_rules | `(tactic| walk_at "pad0") => `(tactic| skip)
local macro_rules | `(tactic| walk_at "pad1") => `(tactic| skip)
local macro_rules | `(tactic| walk_at "pad2") => `(tactic| skip)
local macro_rules | `(tactic| walk_at "pad3") => `(tactic| skip)
local macro_rules | `(tactic| walk_at "pad4") => `(tactic| skip)
open PySem PySem.W PyProof.Rows
namespace Mine
set_option maxRecDepth 100000
set_option maxHeartbeats 40000000
local macro_rules | `(tactic| walk_at "call ref") => `(tactic| (k_here; k_dflt (refine wpAny_call ?_; (refine' code_def ?k1 ?k2 ?k3 ?k4 ?k5 ?kA ?kF ?kK ?k6 ?k7 ?k8 ?k9 ?kB ?_ ?c2 ?c3 ?c4 ?c5; (case kA => exact rfl); (case kF => exact rfl); (case kK => first | exact rfl | assumption); (case k1 => k_asm); (case k2 => k_asm); (case k3 => k_asm); (case k4 => k_asm); (case k5 => k_asm); (case k6 => k_is); (case k7 => k_is); (case k8 => ktr_room); (case k9 => first | exact BindsTo.of_eq rfl | exact binds_K (by k_in) rfl (by k_is) rfl rfl rfl); (case c5 => decide); (case kB => exact locs rfl); (case c2 => exact rfl); (case c3 => exact rfl); (case c4 => exact rfl); k_whole; intro g' L' h' FG' F' N' B' X' T'; (try dsimp only); (try k_lift B'); (try k_fold)))))
local macro_rules | `(tactic| walk_at "binaryOp Mod int int") => `(tactic| (k_here; (with_reducible show wpAny _ _ (binaryOp Operator.Mod (Value.int _ _) (Value.int _ _)) _ _ _); (refine' r_mod_ii ?hb ?_; (case hb => first | decide | omega)); intro _ _ _ _))
local macro_rules | `(tactic| walk_at "binaryOp Sub float float") => `(tactic| (k_here; (with_reducible show wpAny _ _ (binaryOp Operator.Sub (Value.float _ _) (Value.float _ _)) _ _ _); (refine' r_sub_ff ?hx ?hy ?ha ?hb ?hc ?_; (case hx => first | with_reducible exact rfl | exact k_epoch); (case hy => first | with_reducible exact rfl | exact k_half | exact k_epoch | exact k_1524); (case ha => constructor <;> omega); (case hb => constructor <;> omega); (case hc => constructor <;> omega))))
local macro_rules | `(tactic| walk_at "binaryOp Sub float int") => `(tactic| (k_here; (with_reducible show wpAny _ _ (binaryOp Operator.Sub (Value.float _ _) (Value.int _ _)) _ _ _); (refine' r_sub_fi ?hx ?ha ?hb ?hc ?_; (case hx => first | with_reducible exact rfl | exact k_epoch); (case ha => constructor <;> omega); (case hb => constructor <;> omega); (case hc => constructor <;> omega))))
local macro_rules | `(tactic| walk_at "binaryOp Sub int float") => `(tactic| (k_here; (with_reducible show wpAny _ _ (binaryOp Operator.Sub (Value.int _ _) (Value.float _ _)) _ _ _); (refine' r_sub_if ?hy ?ha ?hb ?hc ?_; (case hy => first | with_reducible exact rfl | exact k_epoch | exact k_1524); (case ha => constructor <;> omega); (case hb => constructor <;> omega); (case hc => constructor <;> omega))))
local macro_rules | `(tactic| walk_at "binaryOp Add float int") => `(tactic| (k_here; (with_reducible show wpAny _ _ (binaryOp Operator.Add (Value.float _ _) (Value.int _ _)) _ _ _); (refine' r_add_fi ?hx ?ha ?hb ?hc ?_; (case hx => first | with_reducible exact rfl | exact k_epoch); (case ha => constructor <;> omega); (case hb => constructor <;> omega); (case hc => constructor <;> omega))))
local macro_rules | `(tactic| walk_at "binaryOp Add int float") => `(tactic| (k_here; (with_reducible show wpAny _ _ (binaryOp Operator.Add (Value.int _ _) (Value.float _ _)) _ _ _); (refine' r_add_if ?hy ?ha ?hb ?hc ?_; (case hy => first | with_reducible exact rfl | exact k_half); (case ha => constructor <;> omega); (case hb => constructor <;> omega); (case hc => constructor <;> omega))))
local macro_rules | `(tactic| walk_at "binaryOp Mult float int") => `(tactic| (k_here; (with_reducible show wpAny _ _ (binaryOp Operator.Mult (Value.float _ _) (Value.int _ _)) _ _ _); first
  | (refine' r_mul_fc (a := 1461) k_36525 ?ha ?hb ?ha0 ?hc ?_; (case ha => constructor <;> omega); (case hb => constructor <;> omega); (case ha0 => decide); (case hc => constructor <;> omega))
  | (refine' r_mul_fi ?hx ?ha ?hb ?hb0 ?hc ?_; (case hx => with_reducible exact rfl); (case ha => constructor <;> omega); (case hb => constructor <;> omega); (case hb0 => omega); (case hc => constructor <;> omega))))
local macro_rules | `(tactic| walk_at "binaryOp Mod float int") => `(tactic| (k_here; (with_reducible show wpAny _ _ (binaryOp Operator.Mod (Value.float _ _) (Value.int _ _)) _ _ _); (refine' r_mod_fi rfl ?hx ?hm ?ha ?hb ?hb0 ?_; (case hx => with_reducible exact rfl); (case hm => omega); (case ha => constructor <;> omega); (case hb => constructor <;> omega); (case hb0 => omega)); intro _ _ _ _))
local macro_rules | `(tactic| walk_at "binaryOp Div float int") => `(tactic| (k_here; (with_reducible show wpAny _ _ (binaryOp Operator.Div (Value.float (q4 _) _) (Value.int _ _)) _ _ _); (refine' r_div_fi rfl ?hx ?hb ?hb0 ?_; (case hx => with_reducible exact rfl); (case hb => constructor <;> omega); (case hb0 => omega))))
local macro_rules | `(tactic| walk_at "binaryOp Div int int") => `(tactic| (k_here; (with_reducible show wpAny _ _ (binaryOp Operator.Div (Value.int _ _) (Value.int _ _)) _ _ _); (refine' r_div_ii rfl ?hb ?ha ?_; (case hb => omega); (case ha => omega))))
local macro_rules | `(tactic| walk_at "compareOp Lt float int") => `(tactic| (k_here; (with_reducible show wpAny _ _ (compareOp CmpOp.Lt (Value.float (q4 _) _) (Value.int _ _)) _ _ _); (refine' r_lt_fi ?hx ?ha ?_; (case hx => with_reducible exact rfl); (case ha => constructor <;> omega))))
local macro_rules | `(tactic| walk_at "call builtin:math.floor") => `(tactic| (k_here; first
  | ((with_reducible show wpAny _ _ (call _ [Value.float (q4 _) _]) _ _ _); (refine' r_floor_q rfl ?hx ?ha ?_; (case hx => with_reducible exact rfl); (case ha => constructor <;> omega)); intro _ _)
  | ((with_reducible show wpAny _ _ (call _ [Value.float (qd _ _) _]) _ _ _); (refine' r_floor_qd rfl ?hb ?hb2 ?hk ?hk2 ?_; (case hb => omega); (case hb2 => omega); (case hk => omega); (case hk2 => omega)); intro _ _)
  | ((with_reducible show wpAny _ _ (call _ [Value.float (Float64.div (q4 _) (Float64.ofInt _)) _]) _ _ _); (refine' r_floor_div rfl ?hm ?ha ?hb ?hb2 ?hk ?hk2 ?_; (case hm => omega); (case ha => constructor <;> omega); (case hb => omega); (case hb2 => omega); (case hk => omega); (case hk2 => omega)); intro _ _)))
local macro_rules | `(tactic| walk_at "call builtin:math.trunc") => `(tactic| (k_here; (with_reducible show wpAny _ _ (call _ [Value.float (qd _ _) _]) _ _ _); first
  | ((refine' r_trunc_qd rfl ?hb ?hb2 ?hk ?hk2 ?h0 ?_; (case hb => omega); (case hb2 => omega); (case hk => omega); (case hk2 => omega); (case h0 => omega)); intro _ _)
  | ((refine' r_trunc_qs rfl ?hb ?hb2 ?hk ?hk2 ?_; (case hb => omega); (case hb2 => omega); (case hk => omega); (case hk2 => omega)); intro _ _ _)))
local macro_rules | `(tactic| walk_at "call type:int") => `(tactic| (k_here; (with_reducible show wpAny _ _ (call _ [Value.float (q4 _) _]) _ _ _); (refine' r_int_q rfl ?hx ?ha ?h0 ?_; (case hx => with_reducible exact rfl); (case ha => constructor <;> omega); (case h0 => omega)); intro _ _))
local macro_rules | `(tactic| walk_at "compareOp In int ref") => `(tactic| (k_here; (with_reducible show wpAny _ _ (compareOp CmpOp.In (Value.int _ _) (Value.ref _)) _ _ _); k_dflt (refine' r_in4 ?F ?X ?l ?i ?_; (case F => k_asm); (case X => k_asm); (case l => k_is); (case i => repeat constructor))))
local macro_rules | `(tactic| walk_at "eval Call") => `(tactic| (k_here; (with_reducible show wpAny _ _ (eval (Expr.Call (Expr.Name _ _) _ [] _) _) _ _ _); k_dflt (refine Call_ ?_)))
variable {w : World} {loose : List Str} {mean : ExcName → Option Value} {mg mb : Str → Option Value}
local macro_rules | `(tactic| walk_at "call ref") => `(tactic| (k_here; (with_reducible show wpAny _ _ (call (Value.ref 107) _) _ _ _); k_dflt (refine' r_use (c_to_greg _ _ _ _ _ _ ?p0 ?p1 ?p2) ?k1 ?k2 ?k3 ?k4 ?k5 ?kK ?kd ?ku ?_; (case k1 => k_asm); (case k2 => k_asm); (case k3 => k_asm); (case k4 => k_asm); (case k5 => k_asm); (case p0 => omega); (case p1 => omega); (case p2 => omega); (case kK => first | exact rfl | assumption); (case kd => ktr_room); (case ku => ktr_units)); intro D9 s1 s2 s3 c9 h9 tk9 F9 N9 l9; (try simp only [AllLt, and_true] at l9); (try dsimp only); (try k_fold)))
theorem c_orth (y : Int) (t1 t2 : Tok) (h1 : -200000 ≤ y) (h2 : y ≤ 1000000000) : Claim w loose mean mg mb 115 8 [.int y t1, .str (Str.ofString "orthodox") t2] (Ret3 (gDate (oldN y 0)).1 (gDate (oldN y 0)).2.1 (gDate (oldN y 0)).2.2) := by
  unfold Claim
  k_fill
  intro dp un gd cn cs a ccd cl outer A₀ base h₀ L m news s Q E B F X N T hk hd hu hret
  refine wpAny_call ?_
  k_dflt (refine' code_def ?k1 ?k2 ?k3 ?k4 ?k5 ?kA ?kF ?kK ?k6 ?k7 ?k8 ?k9 ?kB ?_ ?c2 ?c3 ?c4 ?c5; (case kA => exact rfl); (case kF => exact rfl); (case kK => first | exact rfl | assumption); (case k1 => k_asm); (case k2 => k_asm); (case k3 => k_asm); (case k4 => k_asm); (case k5 => k_asm); (case k6 => k_is); (case k7 => k_is); (case k8 => ktr_room); (case k9 => first | exact BindsTo.of_eq rfl | exact binds_K (by k_in) rfl (by k_is) rfl rfl rfl); (case c5 => decide); (case kB => exact locs rfl); (case c2 => exact rfl); (case c3 => exact rfl); (case c4 => exact rfl); k_whole; intro g' L' h' FG' F' N' B' X' T'; (try dsimp only); (try k_lift B'); (try k_fold))
  w_top off
  k_steps
  all_goals (
    have e := jul_law (y := y) (l := 0) (by with_reducible assumption) (by with_reducible assumption) (by with_reducible assumption) (by with_reducible assumption) (by with_reducible assumption) (by with_reducible assumption) (by omega) (by omega) (by omega)
    rw [← e] at hret
    exact end3 hret rfl rfl rfl (by k_asm) ⟨by assumption, .head _⟩ (fun _ hp => .tail _ (.tail _ hp)) (by exact (And.right (by assumption))))
theorem c_east (y : Int) (t1 t2 : Tok) (h1 : -200000 ≤ y) (h2 : y ≤ 1000000000) : Claim w loose mean mg mb 115 8 [.int y t1, .str (Str.ofString "eastern") t2] (Ret3 (gDate (oldN y (if y % 19 = 0 then 1 else 0))).1 (gDate (oldN y (if y % 19 = 0 then 1 else 0))).2.1 (gDate (oldN y (if y % 19 = 0 then 1 else 0))).2.2) := by
  unfold Claim
  k_fill
  intro dp un gd cn cs a ccd cl outer A₀ base h₀ L m news s Q E B F X N T hk hd hu hret
  refine wpAny_call ?_
  k_dflt (refine' code_def ?k1 ?k2 ?k3 ?k4 ?k5 ?kA ?kF ?kK ?k6 ?k7 ?k8 ?k9 ?kB ?_ ?c2 ?c3 ?c4 ?c5; (case kA => exact rfl); (case kF => exact rfl); (case kK => first | exact rfl | assumption); (case k1 => k_asm); (case k2 => k_asm); (case k3 => k_asm); (case k4 => k_asm); (case k5 => k_asm); (case k6 => k_is); (case k7 => k_is); (case k8 => ktr_room); (case k9 => first | exact BindsTo.of_eq rfl | exact binds_K (by k_in) rfl (by k_is) rfl rfl rfl); (case c5 => decide); (case kB => exact locs rfl); (case c2 => exact rfl); (case c3 => exact rfl); (case c4 => exact rfl); k_whole; intro g' L' h' FG' F' N' B' X' T'; (try dsimp only); (try k_lift B'); (try k_fold))
  w_top off
  k_steps
  · rw [if_pos (by omega)] at hret
    have e := jul_law (y := y) (l := 1) (by with_reducible assumption) (by with_reducible assumption) (by with_reducible assumption) (by with_reducible assumption) (by with_reducible assumption) (by with_reducible assumption) (by omega) (by omega) (by omega)
    rw [← e] at hret
    exact end3 hret rfl rfl rfl (by k_asm) ⟨by assumption, .head _⟩ (fun _ hp => .tail _ (.tail _ hp)) (by exact (And.right (by assumption)))
  · rw [if_neg (by omega)] at hret
    have e := jul_law (y := y) (l := 0) (by with_reducible assumption) (by with_reducible assumption) (by with_reducible assumption) (by with_reducible assumption) (by with_reducible assumption) (by with_reducible assumption) (by omega) (by omega) (by omega)
    rw [← e] at hret
    exact end3 hret rfl rfl rfl (by k_asm) ⟨by assumption, .head _⟩ (fun _ hp => .tail _ (.tail _ hp)) (by exact (And.right (by assumption)))
end Mine
end

section
open PySem PySem.W PyProof.Rows
namespace Mine
set_option maxRecDepth 100000
set_option maxHeartbeats 40000000
/-- the epact of the lunar calendar of 1582, before the two exceptions -/
def epact (y : Int) : Int := (1 + 11 * (y % 19) - (y / 100 - y / 100 / 4 - 12) + ((8 * (y / 100) + 13) / 25 - 5)) % 30
def epact2 (y : Int) : Int := if epact y = 24 ∨ (epact y = 25 ∧ 11 < y % 19 + 1) then epact y + 1 else epact y
def pastI (y : Int) : Int := if 44 - epact2 y < 21 then 74 - epact2 y else 44 - epact2 y
def westN (y : Int) : Int := sun (gjd y 3 + pastI y - 1)

/-- what _easter_western's corrected moon is -/
theorem moon_law {y c n k i0 i : Int} (h1 : 1583 ≤ y) (h2 : y ≤ 59982) (hc : c = y / 100) (hn : n = y % 19) (hk : (c - 17 < 0 → k = -(-(c - 17) / 25)) ∧ (0 ≤ c - 17 → k = (c - 17) / 25))
    (hi0 : i0 = (c - c / 4 - (c - k) / 3 + 19 * n + 15) % 30)
    (hi : (i0 < 28 ∧ i = i0) ∨ (i0 = 28 ∧ n ≤ 10 ∧ i = 28) ∨ (i0 = 28 ∧ 11 ≤ n ∧ i = 27) ∨ (i0 = 29 ∧ i = 28)) : pastI y = i + 21 := by
  have e1 : (c - k) / 3 = (8 * c + 13) / 25 := by
    obtain ⟨ha, hb⟩ := hk
    by_cases h : c - 17 < 0
    · have := ha h
      have : c = 15 ∨ c = 16 := by omega
      rcases this with h3 | h3 <;> subst h3 <;> omega
    · have := hb (by omega)
      omega
  have e2 : epact y = (1 + 11 * n - (c - c / 4 - 12) + ((8 * c + 13) / 25 - 5)) % 30 := by unfold epact; rw [← hc, ← hn]
  rw [e1] at hi0
  have e3 : epact y = (23 - i0) % 30 := by rw [e2]; omega
  have hb : 0 ≤ i0 ∧ i0 < 30 := by omega
  clear hk e1 e2 hi0 hc
  have e4 : epact2 y = if epact y = 24 ∨ (epact y = 25 ∧ 11 < y % 19 + 1) then epact y + 1 else epact y := rfl
  rw [← hn] at e4
  unfold pastI
  rcases hi with ⟨a, b⟩ | ⟨a, a2, b⟩ | ⟨a, a2, b⟩ | ⟨a, b⟩
  · have e5 : ¬ (epact y = 24 ∨ (epact y = 25 ∧ 11 < n + 1)) := by omega
    rw [if_neg e5] at e4
    by_cases h : 44 - epact2 y < 21
    · rw [if_pos h]; omega
    · rw [if_neg h]; omega
  · have e5 : ¬ (epact y = 24 ∨ (epact y = 25 ∧ 11 < n + 1)) := by omega
    rw [if_neg e5] at e4
    by_cases h : 44 - epact2 y < 21
    · rw [if_pos h]; omega
    · rw [if_neg h]; omega
  · have e5 : epact y = 24 ∨ (epact y = 25 ∧ 11 < n + 1) := by omega
    rw [if_pos e5] at e4
    by_cases h : 44 - epact2 y < 21
    · rw [if_pos h]; omega
    · rw [if_neg h]; omega
  · have e5 : epact y = 24 ∨ (epact y = 25 ∧ 11 < n + 1) := by omega
    rw [if_pos e5] at e4
    by_cases h : 44 - epact2 y < 21
    · rw [if_pos h]; omega
    · rw [if_neg h]; omega

theorem leap_count (y : Int) : (y - 1) / 4 - (y - 1) / 100 + (y - 1) / 400 + lpI y = y / 4 - y / 100 + y / 400 := by
  have ls := lpI_says y
  have a : (y % 4 = 0 ∧ (y - 1) / 4 = y / 4 - 1) ∨ (y % 4 ≠ 0 ∧ (y - 1) / 4 = y / 4) := by omega
  have b : (y % 100 = 0 ∧ (y - 1) / 100 = y / 100 - 1) ∨ (y % 100 ≠ 0 ∧ (y - 1) / 100 = y / 100) := by omega
  have c : (y % 400 = 0 ∧ (y - 1) / 400 = y / 400 - 1) ∨ (y % 400 ≠ 0 ∧ (y - 1) / 400 = y / 400) := by omega
  have d : y % 100 = 0 → y % 4 = 0 := by omega
  have e : y % 400 = 0 → y % 100 = 0 := by omega
  generalize (y - 1) / 4 = x1 at *
  generalize (y - 1) / 100 = x2 at *
  generalize (y - 1) / 400 = x3 at *
  generalize y / 4 = x4 at *
  generalize y / 100 = x5 at *
  generalize y / 400 = x6 at *
  generalize y % 4 = x7 at *
  generalize y % 100 = x8 at *
  generalize y % 400 = x9 at *
  generalize lpI y = x10 at *
  omega

theorem west_law {y c i j m q : Int} (h1 : 1583 ≤ y) (hc : c = y / 100) (hp : pastI y = i + 21) (hi : 0 ≤ i ∧ i ≤ 28) (hj : j = (y + y / 4 + i + 2 - c + c / 4) % 7)
    (hm : m = (i - j + 40) / 44) (hq : q = (3 + m) / 4) : y = (gDate (westN y)).1 ∧ 3 + m = (gDate (westN y)).2.1 ∧ i - j + 28 - 31 * q = (gDate (westN y)).2.2 := by
  refine gDate_of ?_
  have g3 := gjd_says y 3
  have g4 := gjd_says y 4
  have g5 := gjd_says y 5
  have ls := lpI_says y
  have e3 : gjd y 3 = 1721485 + 365 * (y - 1) + (y - 1) / 4 - (y - 1) / 100 + (y - 1) / 400 + lpI y := by omega
  have e4 : gjd y 4 = gjd y 3 + 31 := by omega
  have e5 : gjd y 5 = gjd y 3 + 61 := by omega
  have e6 : (y - 1) / 4 - (y - 1) / 100 + (y - 1) / 400 + lpI y = y / 4 - c + c / 4 := by
    have := leap_count y
    have hc4 : c / 4 = y / 400 := by omega
    rw [hc4, hc]; exact this
  clear g3 g4 g5 ls
  have e7 : gjd y 3 = 1721120 + 365 * y + y / 4 - c + c / 4 := by omega
  clear e3 e6
  have e8 : westN y = gjd y 3 + i + 20 + 1 + (5 - (gjd y 3 + i + 20)) % 7 := by
    unfold westN sun
    rw [hp]
    have : gjd y 3 + (i + 21) - 1 = gjd y 3 + i + 20 := by omega
    rw [this]
  have e9 : westN y = gjd y 3 + (i - j) + 27 := by rw [e8]; omega
  clear e8 hp e7 hc
  have hjb : 0 ≤ j ∧ j ≤ 6 := by omega
  clear hj
  have hmm : m = 0 ∨ m = 1 := by omega
  rcases hmm with h | h
  · subst h
    refine ⟨by omega, by omega, by omega, ?_, fun _ => ?_, fun _ => by omega⟩
    · show westN y = gjd y 3 + _ - 1
      omega
    · show westN y < gjd y 4
      omega
  · subst h
    refine ⟨by omega, by omega, by omega, ?_, fun _ => ?_, fun _ => by omega⟩
    · show westN y = gjd y 4 + _ - 1
      omega
    · show westN y < gjd y 5
      omega
end Mine
end

section
local macro_rules | `(tactic| walk_at "pad0") => `(tactic| skip)
local macro_rules | `(tactic| walk_at "pad1") => `(tactic| skip)
local macro_rules | `(tactic| walk_at "pad2") => `(tactic| skip)
open PySem PySem.W PyProof.Rows
namespace Mine
set_option maxRecDepth 100000
set_option maxHeartbeats 40000000
local macro_rules | `(tactic| walk_at "call ref") => `(tactic| (k_here; k_dflt (refine wpAny_call ?_; (refine' code_def ?k1 ?k2 ?k3 ?k4 ?k5 ?kA ?kF ?kK ?k6 ?k7 ?k8 ?k9 ?kB ?_ ?c2 ?c3 ?c4 ?c5; (case kA => exact rfl); (case kF => exact rfl); (case kK => first | exact rfl | assumption); (case k1 => k_asm); (case k2 => k_asm); (case k3 => k_asm); (case k4 => k_asm); (case k5 => k_asm); (case k6 => k_is); (case k7 => k_is); (case k8 => ktr_room); (case k9 => first | exact BindsTo.of_eq rfl | exact binds_K (by k_in) rfl (by k_is) rfl rfl rfl); (case c5 => decide); (case kB => exact locs rfl); (case c2 => exact rfl); (case c3 => exact rfl); (case c4 => exact rfl); k_whole; intro g' L' h' FG' F' N' B' X' T'; (try dsimp only); (try k_lift B'); (try k_fold)))))
local macro_rules | `(tactic| walk_at "binaryOp Mod int int") => `(tactic| (k_here; (with_reducible show wpAny _ _ (binaryOp Operator.Mod (Value.int _ _) (Value.int _ _)) _ _ _); (refine' r_mod_ii ?hb ?_; (case hb => first | decide | omega)); intro _ _ _ _))
local macro_rules | `(tactic| walk_at "binaryOp Sub float float") => `(tactic| (k_here; (with_reducible show wpAny _ _ (binaryOp Operator.Sub (Value.float _ _) (Value.float _ _)) _ _ _); (refine' r_sub_ff ?hx ?hy ?ha ?hb ?hc ?_; (case hx => first | with_reducible exact rfl | exact k_epoch); (case hy => first | with_reducible exact rfl | exact k_half | exact k_epoch | exact k_1524); (case ha => constructor <;> omega); (case hb => constructor <;> omega); (case hc => constructor <;> omega))))
local macro_rules | `(tactic| walk_at "binaryOp Sub float int") => `(tactic| (k_here; (with_reducible show wpAny _ _ (binaryOp Operator.Sub (Value.float _ _) (Value.int _ _)) _ _ _); (refine' r_sub_fi ?hx ?ha ?hb ?hc ?_; (case hx => first | with_reducible exact rfl | exact k_epoch); (case ha => constructor <;> omega); (case hb => constructor <;> omega); (case hc => constructor <;> omega))))
local macro_rules | `(tactic| walk_at "binaryOp Sub int float") => `(tactic| (k_here; (with_reducible show wpAny _ _ (binaryOp Operator.Sub (Value.int _ _) (Value.float _ _)) _ _ _); (refine' r_sub_if ?hy ?ha ?hb ?hc ?_; (case hy => first | with_reducible exact rfl | exact k_epoch | exact k_1524); (case ha => constructor <;> omega); (case hb => constructor <;> omega); (case hc => constructor <;> omega))))
local macro_rules | `(tactic| walk_at "binaryOp Add float int") => `(tactic| (k_here; (with_reducible show wpAny _ _ (binaryOp Operator.Add (Value.float _ _) (Value.int _ _)) _ _ _); (refine' r_add_fi ?hx ?ha ?hb ?hc ?_; (case hx => first | with_reducible exact rfl | exact k_epoch); (case ha => constructor <;> omega); (case hb => constructor <;> omega); (case hc => constructor <;> omega))))
local macro_rules | `(tactic| walk_at "binaryOp Add int float") => `(tactic| (k_here; (with_reducible show wpAny _ _ (binaryOp Operator.Add (Value.int _ _) (Value.float _ _)) _ _ _); (refine' r_add_if ?hy ?ha ?hb ?hc ?_; (case hy => first | with_reducible exact rfl | exact k_half); (case ha => constructor <;> omega); (case hb => constructor <;> omega); (case hc => constructor <;> omega))))
local macro_rules | `(tactic| walk_at "binaryOp Mult float int") => `(tactic| (k_here; (with_reducible show wpAny _ _ (binaryOp Operator.Mult (Value.float _ _) (Value.int _ _)) _ _ _); first
  | (refine' r_mul_fc (a := 1461) k_36525 ?ha ?hb ?ha0 ?hc ?_; (case ha => constructor <;> omega); (case hb => constructor <;> omega); (case ha0 => decide); (case hc => constructor <;> omega))
  | (refine' r_mul_fi ?hx ?ha ?hb ?hb0 ?hc ?_; (case hx => with_reducible exact rfl); (case ha => constructor <;> omega); (case hb => constructor <;> omega); (case hb0 => omega); (case hc => constructor <;> omega))))
local macro_rules | `(tactic| walk_at "binaryOp Mod float int") => `(tactic| (k_here; (with_reducible show wpAny _ _ (binaryOp Operator.Mod (Value.float _ _) (Value.int _ _)) _ _ _); (refine' r_mod_fi rfl ?hx ?hm ?ha ?hb ?hb0 ?_; (case hx => with_reducible exact rfl); (case hm => omega); (case ha => constructor <;> omega); (case hb => constructor <;> omega); (case hb0 => omega)); intro _ _ _ _))
local macro_rules | `(tactic| walk_at "binaryOp Div float int") => `(tactic| (k_here; (with_reducible show wpAny _ _ (binaryOp Operator.Div (Value.float (q4 _) _) (Value.int _ _)) _ _ _); (refine' r_div_fi rfl ?hx ?hb ?hb0 ?_; (case hx => with_reducible exact rfl); (case hb => constructor <;> omega); (case hb0 => omega))))
local macro_rules | `(tactic| walk_at "binaryOp Div int int") => `(tactic| (k_here; (with_reducible show wpAny _ _ (binaryOp Operator.Div (Value.int _ _) (Value.int _ _)) _ _ _); (refine' r_div_ii rfl ?hb ?ha ?_; (case hb => omega); (case ha => omega))))
local macro_rules | `(tactic| walk_at "compareOp Lt float int") => `(tactic| (k_here; (with_reducible show wpAny _ _ (compareOp CmpOp.Lt (Value.float (q4 _) _) (Value.int _ _)) _ _ _); (refine' r_lt_fi ?hx ?ha ?_; (case hx => with_reducible exact rfl); (case ha => constructor <;> omega))))
local macro_rules | `(tactic| walk_at "call builtin:math.floor") => `(tactic| (k_here; first
  | ((with_reducible show wpAny _ _ (call _ [Value.float (q4 _) _]) _ _ _); (refine' r_floor_q rfl ?hx ?ha ?_; (case hx => with_reducible exact rfl); (case ha => constructor <;> omega)); intro _ _)
  | ((with_reducible show wpAny _ _ (call _ [Value.float (qd _ _) _]) _ _ _); (refine' r_floor_qd rfl ?hb ?hb2 ?hk ?hk2 ?_; (case hb => omega); (case hb2 => omega); (case hk => omega); (case hk2 => omega)); intro _ _)
  | ((with_reducible show wpAny _ _ (call _ [Value.float (Float64.div (q4 _) (Float64.ofInt _)) _]) _ _ _); (refine' r_floor_div rfl ?hm ?ha ?hb ?hb2 ?hk ?hk2 ?_; (case hm => omega); (case ha => constructor <;> omega); (case hb => omega); (case hb2 => omega); (case hk => omega); (case hk2 => omega)); intro _ _)))
local macro_rules | `(tactic| walk_at "call builtin:math.trunc") => `(tactic| (k_here; (with_reducible show wpAny _ _ (call _ [Value.float (qd _ _) _]) _ _ _); first
  | ((refine' r_trunc_qd rfl ?hb ?hb2 ?hk ?hk2 ?h0 ?_; (case hb => omega); (case hb2 => omega); (case hk => omega); (case hk2 => omega); (case h0 => omega)); intro _ _)
  | ((refine' r_trunc_qs rfl ?hb ?hb2 ?hk ?hk2 ?_; (case hb => omega); (case hb2 => omega); (case hk => omega); (case hk2 => omega)); intro _ _ _)))
local macro_rules | `(tactic| walk_at "call type:int") => `(tactic| (k_here; (with_reducible show wpAny _ _ (call _ [Value.float (q4 _) _]) _ _ _); (refine' r_int_q rfl ?hx ?ha ?h0 ?_; (case hx => with_reducible exact rfl); (case ha => constructor <;> omega); (case h0 => omega)); intro _ _))
local macro_rules | `(tactic| walk_at "compareOp In int ref") => `(tactic| (k_here; (with_reducible show wpAny _ _ (compareOp CmpOp.In (Value.int _ _) (Value.ref _)) _ _ _); k_dflt (refine' r_in4 ?F ?X ?l ?i ?_; (case F => k_asm); (case X => k_asm); (case l => k_is); (case i => repeat constructor))))
local macro_rules | `(tactic| walk_at "eval Call") => `(tactic| (k_here; (with_reducible show wpAny _ _ (eval (Expr.Call (Expr.Name _ _) _ [] _) _) _ _ _); k_dflt (refine Call_ ?_)))
variable {w : World} {loose : List Str} {mean : ExcName → Option Value} {mg mb : Str → Option Value}
theorem r_trunc_29 {prog : Program} {w : World} {A : Around} {E : Value → Shared → Prop} {s : Shared} {Q : Value → Shared → Prop} {b : Int} {t : Tok} (hA : A.handled = none) (hb : 0 < b) (hb2 : b ≤ 30) (h : ∀ k : Int, (b = 29 → k = 1) → (b = 30 → k = 0) → Q (.int k s.toks) { s with toks := s.toks + 1 }) :
    wpAny (model prog w) A (call (.builtin "math.trunc") [.float (qd 29 b) t]) Q E s := by
  refine r_trunc_qd hA hb (by omega) (by omega) (by omega) (by omega) fun k hk => h k (fun e => ?_) (fun e => ?_)
  · rw [e] at hk; omega
  · rw [e] at hk; omega
theorem r_trunc_28 {prog : Program} {w : World} {A : Around} {E : Value → Shared → Prop} {s : Shared} {Q : Value → Shared → Prop} {i : Int} {t : Tok} (hA : A.handled = none) (hb : 0 ≤ i) (hb2 : i < 30) (h : (i < 28 → Q (.int 0 s.toks) { s with toks := s.toks + 1 }) ∧ (i = 28 → Q (.int 1 s.toks) { s with toks := s.toks + 1 }) ∧ (i = 29 → Q (.int 1 s.toks) { s with toks := s.toks + 1 })) :
    wpAny (model prog w) A (call (.builtin "math.trunc") [.float (qd i 28) t]) Q E s := by
  refine r_trunc_qd hA (by omega) (by omega) (by omega) (by omega) (by omega) fun k hk => ?_
  by_cases h1 : i < 28
  · have : k = 0 := by omega
    rw [this]; exact h.1 h1
  · have : k = 1 := by omega
    rw [this]
    by_cases h2 : i = 28
    · exact h.2.1 h2
    · exact h.2.2 (by omega)
theorem r_trunc_28a {prog : Program} {w : World} {A : Around} {E : Value → Shared → Prop} {s : Shared} {Q : Value → Shared → Prop} {i : Int} {t : Tok} (hA : A.handled = none) (hb : 0 ≤ i) (hb2 : i < 28) (h : Q (.int 0 s.toks) { s with toks := s.toks + 1 }) :
    wpAny (model prog w) A (call (.builtin "math.trunc") [.float (qd i 28) t]) Q E s :=
  r_trunc_28 hA hb (by omega) ⟨fun _ => h, fun _ => by omega, fun _ => by omega⟩
theorem r_trunc_28b {prog : Program} {w : World} {A : Around} {E : Value → Shared → Prop} {s : Shared} {Q : Value → Shared → Prop} {i : Int} {t : Tok} (hA : A.handled = none) (hb : 28 ≤ i) (hb2 : i < 30) (h : Q (.int 1 s.toks) { s with toks := s.toks + 1 }) :
    wpAny (model prog w) A (call (.builtin "math.trunc") [.float (qd i 28) t]) Q E s :=
  r_trunc_28 hA (by omega) (by omega) ⟨fun _ => by omega, fun _ => h, fun _ => h⟩
theorem r_trunc_lit {prog : Program} {w : World} {A : Around} {E : Value → Shared → Prop} {s : Shared} {Q : Value → Shared → Prop} {a b k : Int} {t : Tok} (hA : A.handled = none) (hb : 0 < b) (hb2 : b ≤ 262144) (ha : 0 ≤ a) (ha2 : a < 17179869180) (hk : k = a / b) (h : Q (.int k s.toks) { s with toks := s.toks + 1 }) :
    wpAny (model prog w) A (call (.builtin "math.trunc") [.float (qd a b) t]) Q E s :=
  r_trunc_qd hA hb hb2 (by omega) (by omega) ha fun k' hk' => by rw [hk', ← hk]; exact h
structure Veil (P : Prop) : Prop where
  out : P
theorem r_sub_mod {prog : Program} {w : World} {A : Around} {E : Value → Shared → Prop} {s : Shared} {Q : Value → Shared → Prop} {a b k : Int} {t u : Tok} (hb : 0 < b) (hk : k = a / b) (h : ∀ v : Int, Veil (v = a % b) → 0 ≤ v → v < b → Q (.int v s.toks) { s with toks := s.toks + 1 }) :
    wpAny (model prog w) A (binaryOp .Sub (.int a t) (.int (b * k) u)) Q E s := by
  refine sub_int ?_
  have e : a - b * k = a % b := by rw [hk]; have := Int.mul_ediv_add_emod a b; omega
  rw [e]
  exact h _ ⟨rfl⟩ (Int.emod_nonneg _ (by omega)) (Int.emod_lt_of_pos _ hb)
theorem r_trunc_25 {prog : Program} {w : World} {A : Around} {E : Value → Shared → Prop} {s : Shared} {Q : Value → Shared → Prop} {c : Int} {t : Tok} (hA : A.handled = none) (h1 : 15 ≤ c) (h2 : c ≤ 600) (h : ∀ k : Int, 0 ≤ k → k ≤ 24 → Veil ((c - 17 < 0 → k = -(-(c - 17) / 25)) ∧ (0 ≤ c - 17 → k = (c - 17) / 25)) → Q (.int k s.toks) { s with toks := s.toks + 1 }) :
    wpAny (model prog w) A (call (.builtin "math.trunc") [.float (qd (c - 17) 25) t]) Q E s := by
  refine r_trunc_qs hA (by omega) (by omega) (by omega) (by omega) fun k ha hb => ?_
  refine h k ?_ ?_ ⟨ha, hb⟩
  · by_cases q : c - 17 < 0
    · have := ha q; omega
    · have := hb (by omega); omega
  · by_cases q : c - 17 < 0
    · have := ha q; omega
    · have := hb (by omega); omega
local macro_rules | `(tactic| walk_at "call builtin:math.trunc") => `(tactic| (k_here; (with_reducible show wpAny _ _ (call _ [Value.float (qd 29 _) _]) _ _ _); (refine' r_trunc_29 rfl ?hb ?hb2 ?_; (case hb => omega); (case hb2 => omega)); intro k' hk1' hk2'; first | (have e9' : k' = 1 := by omega); subst e9' | (have e9' : k' = 0 := by omega); subst e9' | skip))
local macro_rules | `(tactic| walk_at "call builtin:math.trunc") => `(tactic| (k_here; (with_reducible show wpAny _ _ (call _ [Value.float (qd _ 28) _]) _ _ _); first
  | (refine' r_trunc_28a rfl ?hb ?hb2 ?_; (case hb => omega); (case hb2 => omega))
  | (refine' r_trunc_28b rfl ?hb ?hb2 ?_; (case hb => omega); (case hb2 => omega))
  | (refine' r_trunc_28 rfl ?hb ?hb2 ⟨?_, ?_, ?_⟩; (case hb => omega); (case hb2 => omega); all_goals intro _)))
local macro_rules | `(tactic| walk_at "call builtin:math.trunc") => `(tactic| (k_here; (with_reducible show wpAny _ _ (call _ [Value.float (qd _ 25) _]) _ _ _); (refine' r_trunc_25 rfl ?hb ?hb2 ?_; (case hb => omega); (case hb2 => omega)); intro _ _ _ _))
local macro_rules | `(tactic| walk_at "binaryOp Sub int int") => `(tactic| (k_here; (with_reducible show wpAny _ _ (binaryOp Operator.Sub (Value.int _ _) (Value.int (_ * _) _)) _ _ _); (refine' r_sub_mod ?hb ?hk ?_; (case hb => decide); (case hk => with_reducible assumption)); intro v' hv' h0' h1'; (first | ((rename (_ = _ / 30) => e1'; clear e1'); (rename (_ = _ / 3) => e2'; have e3' := Veil.mk e2'; clear e2'); (rename (_ = _ / 4) => e4'; have e5' := Veil.mk e4'; clear e4'))| (rename (_ = _ / 19) => e1'; clear e1')| (rename (_ = _ / 7) => e1'; clear e1'))))
local macro_rules | `(tactic| walk_at "execs cons") => `(tactic| (k_here; k_dflt (refine wpAny_execs_cons ?_); try dsimp only))
theorem west_end {y c n k k8 k7 k6 k5 k4 k3 j m q X : Int} (h1 : 1583 ≤ y) (h2 : y ≤ 59982) (hj : Veil (j = (y + k4 + (c - k8 - k7 + 19 * n + 15 - 30 * k6 - X) + 2 - c + k3) % 7)) (hm : m = (c - k8 - k7 + 19 * n + 15 - 30 * k6 - X - j + 40) / 44) (hq : q = (3 + m) / 4)
    (hc : c = y / 100) (hn : Veil (n = y % 19)) (hk : Veil ((c - 17 < 0 → k = -(-(c - 17) / 25)) ∧ (0 ≤ c - 17 → k = (c - 17) / 25))) (h8 : k8 = c / 4) (h7 : 0 ≤ c - k → k7 = (c - k) / 3) (h6 : k6 = (c - k8 - k7 + 19 * n + 15) / 30)
    (h5 : k5 = (21 - n) / 11) (h4 : k4 = y / 4) (h3 : k3 = c / 4)
    (hX : (c - k8 - k7 + 19 * n + 15 - 30 * k6 < 28 ∧ X = 0) ∨ (c - k8 - k7 + 19 * n + 15 - 30 * k6 = 28 ∧ X = 1 - k5) ∨ (c - k8 - k7 + 19 * n + 15 - 30 * k6 = 29 ∧ X = 1)) :
    y = (gDate (westN y)).1 ∧ 3 + m = (gDate (westN y)).2.1 ∧ c - k8 - k7 + 19 * n + 15 - 30 * k6 - X - j + 28 - 31 * q = (gDate (westN y)).2.2 := by
  have hkk := hk.out
  have hcb : 15 ≤ c ∧ c ≤ 600 := by omega
  have hk0 : 0 ≤ c - k := by
    obtain ⟨ha, hb⟩ := hkk
    by_cases h : c - 17 < 0
    · have := ha h; omega
    · have := hb (by omega); omega
  have h7' := h7 hk0
  have hnn := hn.out
  have hnb : 0 ≤ n ∧ n < 19 := by omega
  have hi0 : c - k8 - k7 + 19 * n + 15 - 30 * k6 = (c - c / 4 - (c - k) / 3 + 19 * n + 15) % 30 := by
    rw [h6, h8, h7']
    generalize c - c / 4 - (c - k) / 3 + 19 * n + 15 = z
    omega
  have hjj := hj.out
  clear hk hn hj h6 h7 h7'
  generalize hz : c - k8 - k7 + 19 * n + 15 - 30 * k6 = i0 at *
  have hib : 0 ≤ i0 ∧ i0 < 30 := by omega
  have hp := moon_law (i := i0 - X) h1 h2 hc hnn hkk hi0 (by omega)
  rw [h4, h3] at hjj
  exact west_law h1 hc hp (by omega) hjj hm hq

theorem c_west0 (y : Int) (t1 : Tok) (h1 : 1583 ≤ y) (h2 : y ≤ 59982) : Claim w loose mean mg mb 115 8 [.int y t1] (Ret3 (gDate (westN y)).1 (gDate (westN y)).2.1 (gDate (westN y)).2.2) := by
  unfold Claim
  k_fill
  intro dp un gd cn cs a ccd cl outer A₀ base h₀ L m news s Q E B F X N T hk hd hu hret
  refine wpAny_call ?_
  k_dflt (refine' code_def ?k1 ?k2 ?k3 ?k4 ?k5 ?kA ?kF ?kK ?k6 ?k7 ?k8 ?k9 ?kB ?_ ?c2 ?c3 ?c4 ?c5; (case kA => exact rfl); (case kF => exact rfl); (case kK => first | exact rfl | assumption); (case k1 => k_asm); (case k2 => k_asm); (case k3 => k_asm); (case k4 => k_asm); (case k5 => k_asm); (case k6 => k_is); (case k7 => k_is); (case k8 => ktr_room); (case k9 => first | exact BindsTo.of_eq rfl | exact binds_K (by k_in) rfl (by k_is) rfl rfl rfl); (case c5 => decide); (case kB => exact locs rfl); (case c2 => exact rfl); (case c3 => exact rfl); (case c4 => exact rfl); k_whole; intro g' L' h' FG' F' N' B' X' T'; (try dsimp only); (try k_lift B'); (try k_fold))
  w_top off
  k_steps
  all_goals (
    have hend := west_end h1 h2 (by with_reducible assumption) (by with_reducible assumption) (by with_reducible assumption) (by with_reducible assumption) (by with_reducible assumption) (by with_reducible assumption) (by with_reducible assumption) (by with_reducible assumption) (by with_reducible assumption) (by with_reducible assumption) (by with_reducible assumption) (by with_reducible assumption) (by omega)
    exact end3h hret hend.1 hend.2.1 hend.2.2 (by k_asm) (by assumption) (fun _ hp => hp) (by assumption))
theorem c_west1 (y : Int) (t1 t2 : Tok) (h1 : 1583 ≤ y) (h2 : y ≤ 59982) : Claim w loose mean mg mb 115 8 [.int y t1, .str (Str.ofString "western") t2] (Ret3 (gDate (westN y)).1 (gDate (westN y)).2.1 (gDate (westN y)).2.2) := by
  unfold Claim
  k_fill
  intro dp un gd cn cs a ccd cl outer A₀ base h₀ L m news s Q E B F X N T hk hd hu hret
  refine wpAny_call ?_
  k_dflt (refine' code_def ?k1 ?k2 ?k3 ?k4 ?k5 ?kA ?kF ?kK ?k6 ?k7 ?k8 ?k9 ?kB ?_ ?c2 ?c3 ?c4 ?c5; (case kA => exact rfl); (case kF => exact rfl); (case kK => first | exact rfl | assumption); (case k1 => k_asm); (case k2 => k_asm); (case k3 => k_asm); (case k4 => k_asm); (case k5 => k_asm); (case k6 => k_is); (case k7 => k_is); (case k8 => ktr_room); (case k9 => first | exact BindsTo.of_eq rfl | exact binds_K (by k_in) rfl (by k_is) rfl rfl rfl); (case c5 => decide); (case kB => exact locs rfl); (case c2 => exact rfl); (case c3 => exact rfl); (case c4 => exact rfl); k_whole; intro g' L' h' FG' F' N' B' X' T'; (try dsimp only); (try k_lift B'); (try k_fold))
  w_top off
  k_steps
  all_goals (
    have hend := west_end h1 h2 (by with_reducible assumption) (by with_reducible assumption) (by with_reducible assumption) (by with_reducible assumption) (by with_reducible assumption) (by with_reducible assumption) (by with_reducible assumption) (by with_reducible assumption) (by with_reducible assumption) (by with_reducible assumption) (by with_reducible assumption) (by with_reducible assumption) (by omega)
    exact end3h hret hend.1 hend.2.1 hend.2.2 (by k_asm) (by assumption) (fun _ hp => hp) (by assumption))
end Mine
end

section
local macro_rules | `(tactic| walk_at "pad0") => `(tactic| skip)
local macro_rules | `(tactic| walk_at "pad1") => `(tactic| skip)
local macro_rules | `(tactic| walk_at "pad2") => `(tactic| skip)
local macro_rules | `(tactic| walk_at "pad3") => `(tactic| skip)
local macro_rules | `(tactic| walk_at "pad4") => `(tactic| skip)
local macro_rules | `(tactic| walk_at "pad5") => `(tactic| skip)
local macro_rules | `(tactic| walk_at "pad6") => `(tactic| skip)
local macro_rules | `(tactic| walk_at "pad7") => `(tactic| skip)
local macro_rules | `(tactic| walk_at "pad8") => `(tactic| skip)
open PySem PySem.W PyProof.Rows
namespace Mine
set_option maxRecDepth 100000
set_option maxHeartbeats 40000000
local macro_rules | `(tactic| walk_at "call ref") => `(tactic| (k_here; k_dflt (refine wpAny_call ?_; (refine' code_def ?k1 ?k2 ?k3 ?k4 ?k5 ?kA ?kF ?kK ?k6 ?k7 ?k8 ?k9 ?kB ?_ ?c2 ?c3 ?c4 ?c5; (case kA => exact rfl); (case kF => exact rfl); (case kK => first | exact rfl | assumption); (case k1 => k_asm); (case k2 => k_asm); (case k3 => k_asm); (case k4 => k_asm); (case k5 => k_asm); (case k6 => k_is); (case k7 => k_is); (case k8 => ktr_room); (case k9 => first | exact BindsTo.of_eq rfl | exact binds_K (by k_in) rfl (by k_is) rfl rfl rfl); (case c5 => decide); (case kB => exact locs rfl); (case c2 => exact rfl); (case c3 => exact rfl); (case c4 => exact rfl); k_whole; intro g' L' h' FG' F' N' B' X' T'; (try dsimp only); (try k_lift B'); (try k_fold)))))
local macro_rules | `(tactic| walk_at "binaryOp Mod int int") => `(tactic| (k_here; (with_reducible show wpAny _ _ (binaryOp Operator.Mod (Value.int _ _) (Value.int _ _)) _ _ _); (refine' r_mod_ii ?hb ?_; (case hb => first | decide | omega)); intro _ _ _ _))
local macro_rules | `(tactic| walk_at "binaryOp Sub float float") => `(tactic| (k_here; (with_reducible show wpAny _ _ (binaryOp Operator.Sub (Value.float _ _) (Value.float _ _)) _ _ _); (refine' r_sub_ff ?hx ?hy ?ha ?hb ?hc ?_; (case hx => first | with_reducible exact rfl | exact k_epoch); (case hy => first | with_reducible exact rfl | exact k_half | exact k_epoch | exact k_1524); (case ha => constructor <;> omega); (case hb => constructor <;> omega); (case hc => constructor <;> omega))))
local macro_rules | `(tactic| walk_at "binaryOp Sub float int") => `(tactic| (k_here; (with_reducible show wpAny _ _ (binaryOp Operator.Sub (Value.float _ _) (Value.int _ _)) _ _ _); (refine' r_sub_fi ?hx ?ha ?hb ?hc ?_; (case hx => first | with_reducible exact rfl | exact k_epoch); (case ha => constructor <;> omega); (case hb => constructor <;> omega); (case hc => constructor <;> omega))))
local macro_rules | `(tactic| walk_at "binaryOp Sub int float") => `(tactic| (k_here; (with_reducible show wpAny _ _ (binaryOp Operator.Sub (Value.int _ _) (Value.float _ _)) _ _ _); (refine' r_sub_if ?hy ?ha ?hb ?hc ?_; (case hy => first | with_reducible exact rfl | exact k_epoch | exact k_1524); (case ha => constructor <;> omega); (case hb => constructor <;> omega); (case hc => constructor <;> omega))))
local macro_rules | `(tactic| walk_at "binaryOp Add float int") => `(tactic| (k_here; (with_reducible show wpAny _ _ (binaryOp Operator.Add (Value.float _ _) (Value.int _ _)) _ _ _); (refine' r_add_fi ?hx ?ha ?hb ?hc ?_; (case hx => first | with_reducible exact rfl | exact k_epoch); (case ha => constructor <;> omega); (case hb => constructor <;> omega); (case hc => constructor <;> omega))))
local macro_rules | `(tactic| walk_at "binaryOp Add int float") => `(tactic| (k_here; (with_reducible show wpAny _ _ (binaryOp Operator.Add (Value.int _ _) (Value.float _ _)) _ _ _); (refine' r_add_if ?hy ?ha ?hb ?hc ?_; (case hy => first | with_reducible exact rfl | exact k_half); (case ha => constructor <;> omega); (case hb => constructor <;> omega); (case hc => constructor <;> omega))))
local macro_rules | `(tactic| walk_at "binaryOp Mult float int") => `(tactic| (k_here; (with_reducible show wpAny _ _ (binaryOp Operator.Mult (Value.float _ _) (Value.int _ _)) _ _ _); first
  | (refine' r_mul_fc (a := 1461) k_36525 ?ha ?hb ?ha0 ?hc ?_; (case ha => constructor <;> omega); (case hb => constructor <;> omega); (case ha0 => decide); (case hc => constructor <;> omega))
  | (refine' r_mul_fi ?hx ?ha ?hb ?hb0 ?hc ?_; (case hx => with_reducible exact rfl); (case ha => constructor <;> omega); (case hb => constructor <;> omega); (case hb0 => omega); (case hc => constructor <;> omega))))
local macro_rules | `(tactic| walk_at "binaryOp Mod float int") => `(tactic| (k_here; (with_reducible show wpAny _ _ (binaryOp Operator.Mod (Value.float _ _) (Value.int _ _)) _ _ _); (refine' r_mod_fi rfl ?hx ?hm ?ha ?hb ?hb0 ?_; (case hx => with_reducible exact rfl); (case hm => omega); (case ha => constructor <;> omega); (case hb => constructor <;> omega); (case hb0 => omega)); intro _ _ _ _))
local macro_rules | `(tactic| walk_at "binaryOp Div float int") => `(tactic| (k_here; (with_reducible show wpAny _ _ (binaryOp Operator.Div (Value.float (q4 _) _) (Value.int _ _)) _ _ _); (refine' r_div_fi rfl ?hx ?hb ?hb0 ?_; (case hx => with_reducible exact rfl); (case hb => constructor <;> omega); (case hb0 => omega))))
local macro_rules | `(tactic| walk_at "binaryOp Div int int") => `(tactic| (k_here; (with_reducible show wpAny _ _ (binaryOp Operator.Div (Value.int _ _) (Value.int _ _)) _ _ _); (refine' r_div_ii rfl ?hb ?ha ?_; (case hb => omega); (case ha => omega))))
local macro_rules | `(tactic| walk_at "compareOp Lt float int") => `(tactic| (k_here; (with_reducible show wpAny _ _ (compareOp CmpOp.Lt (Value.float (q4 _) _) (Value.int _ _)) _ _ _); (refine' r_lt_fi ?hx ?ha ?_; (case hx => with_reducible exact rfl); (case ha => constructor <;> omega))))
local macro_rules | `(tactic| walk_at "call builtin:math.floor") => `(tactic| (k_here; first
  | ((with_reducible show wpAny _ _ (call _ [Value.float (q4 _) _]) _ _ _); (refine' r_floor_q rfl ?hx ?ha ?_; (case hx => with_reducible exact rfl); (case ha => constructor <;> omega)); intro _ _)
  | ((with_reducible show wpAny _ _ (call _ [Value.float (qd _ _) _]) _ _ _); (refine' r_floor_qd rfl ?hb ?hb2 ?hk ?hk2 ?_; (case hb => omega); (case hb2 => omega); (case hk => omega); (case hk2 => omega)); intro _ _)
  | ((with_reducible show wpAny _ _ (call _ [Value.float (Float64.div (q4 _) (Float64.ofInt _)) _]) _ _ _); (refine' r_floor_div rfl ?hm ?ha ?hb ?hb2 ?hk ?hk2 ?_; (case hm => omega); (case ha => constructor <;> omega); (case hb => omega); (case hb2 => omega); (case hk => omega); (case hk2 => omega)); intro _ _)))
local macro_rules | `(tactic| walk_at "call builtin:math.trunc") => `(tactic| (k_here; (with_reducible show wpAny _ _ (call _ [Value.float (qd _ _) _]) _ _ _); first
  | ((refine' r_trunc_qd rfl ?hb ?hb2 ?hk ?hk2 ?h0 ?_; (case hb => omega); (case hb2 => omega); (case hk => omega); (case hk2 => omega); (case h0 => omega)); intro _ _)
  | ((refine' r_trunc_qs rfl ?hb ?hb2 ?hk ?hk2 ?_; (case hb => omega); (case hb2 => omega); (case hk => omega); (case hk2 => omega)); intro _ _ _)))
local macro_rules | `(tactic| walk_at "call type:int") => `(tactic| (k_here; (with_reducible show wpAny _ _ (call _ [Value.float (q4 _) _]) _ _ _); (refine' r_int_q rfl ?hx ?ha ?h0 ?_; (case hx => with_reducible exact rfl); (case ha => constructor <;> omega); (case h0 => omega)); intro _ _))
local macro_rules | `(tactic| walk_at "compareOp In int ref") => `(tactic| (k_here; (with_reducible show wpAny _ _ (compareOp CmpOp.In (Value.int _ _) (Value.ref _)) _ _ _); k_dflt (refine' r_in4 ?F ?X ?l ?i ?_; (case F => k_asm); (case X => k_asm); (case l => k_is); (case i => repeat constructor))))
local macro_rules | `(tactic| walk_at "eval Call") => `(tactic| (k_here; (with_reducible show wpAny _ _ (eval (Expr.Call (Expr.Name _ _) _ [] _) _) _ _ _); k_dflt (refine Call_ ?_)))
variable {w : World} {loose : List Str} {mean : ExcName → Option Value} {mg mb : Str → Option Value}
theorem c_long (y : Int) (t1 : Tok) : Claim w loose mean mg mb 151 1 [.int y t1] (RetB (decide (lpI y = 1))) := by
  unfold Claim
  k_fill
  intro dp un gd cn cs a ccd cl outer A₀ base h₀ L m news s Q E B F X N T hk hd hu hret
  refine wpAny_call ?_
  k_dflt (refine' code_def ?k1 ?k2 ?k3 ?k4 ?k5 ?kA ?kF ?kK ?k6 ?k7 ?k8 ?k9 ?kB ?_ ?c2 ?c3 ?c4 ?c5; (case kA => exact rfl); (case kF => exact rfl); (case kK => first | exact rfl | assumption); (case k1 => k_asm); (case k2 => k_asm); (case k3 => k_asm); (case k4 => k_asm); (case k5 => k_asm); (case k6 => k_is); (case k7 => k_is); (case k8 => ktr_room); (case k9 => first | exact BindsTo.of_eq rfl | exact binds_K (by k_in) rfl (by k_is) rfl rfl rfl); (case c5 => decide); (case kB => exact locs rfl); (case c2 => exact rfl); (case c3 => exact rfl); (case c4 => exact rfl); k_whole; intro g' L' h' FG' F' N' B' X' T'; (try dsimp only); (try k_lift B'); (try k_fold))
  w_top off
  k_steps
  all_goals refine endB hret ?_ (by k_asm) (by assumption) (fun _ hp => hp)
  all_goals (have hL := lpI_says y; refine Bool.eq_iff_iff.mpr ?_; simp only [bne_iff_ne, beq_iff_eq, decide_eq_true_eq]; omega)
theorem unr_end' {h₀ : Heap} {L I : Addr} {it : Obj} {rest : (Str → Option Value) → List (Addr × Obj) → Prop} {s₁ : Shared} {h' : Heap} {tk : Nat} {m' : Str → Option Value} {news' : List (Addr × Obj)} (F : Fr h₀ L h' m') (N : News h₀ L h' ((I, it) :: news')) (hl : ∀ p ∈ news', p.1 < I) (r : rest m' news') :
    UnrEnd h₀ L s₁ I it rest { s₁ with heap := h', toks := tk } := UnrEnd.intro F N news' (fun _ h => h) (fun p hp => Nat.ne_of_lt (hl p hp)) r
local macro_rules | `(tactic| walk_at "UnrEnd") => `(tactic| (k_here; k_dflt (refine unr_end' (by assumption) (by assumption) (by assumption) ?_)))
theorem c_sunday (n : Int) (t1 : Tok) : Claim w loose mean mg mb 172 1 [.int n t1] (RetI (sun n)) := by
  unfold Claim
  k_fill
  intro dp un gd cn cs a ccd cl outer A₀ base h₀ L m news s Q E B F X N T hk hd hu hret
  refine wpAny_call ?_
  k_dflt (refine' code_def ?k1 ?k2 ?k3 ?k4 ?k5 ?kA ?kF ?kK ?k6 ?k7 ?k8 ?k9 ?kB ?_ ?c2 ?c3 ?c4 ?c5; (case kA => exact rfl); (case kF => exact rfl); (case kK => first | exact rfl | assumption); (case k1 => k_asm); (case k2 => k_asm); (case k3 => k_asm); (case k4 => k_asm); (case k5 => k_asm); (case k6 => k_is); (case k7 => k_is); (case k8 => ktr_room); (case k9 => first | exact BindsTo.of_eq rfl | exact binds_K (by k_in) rfl (by k_is) rfl rfl rfl); (case c5 => decide); (case kB => exact locs rfl); (case c2 => exact rfl); (case c3 => exact rfl); (case c4 => exact rfl); k_whole; intro g' L' h' FG' F' N' B' X' T'; (try dsimp only); (try k_lift B'); (try k_fold))
  w_top off
  k_steps
  all_goals (
    refine endI hret ?_ (by k_asm) (by assumption) (fun _ hp => by first | exact hp | exact .tail _ hp)
    unfold sun; omega)
theorem moon_at {r : Int} (h0 : 0 ≤ r) (h1 : r < 19) : ([36, 25, 44, 33, 22, 41, 30, 49, 38, 27, 46, 35, 24, 43, 32, 21, 40, 29, 48] : List Int).getD r.toNat 0 = 21 + (19 * r + 15) % 30 := by
  have h : ∀ k : Fin 19, ([36, 25, 44, 33, 22, 41, 30, 49, 38, 27, 46, 35, 24, 43, 32, 21, 40, 29, 48] : List Int).getD k.val 0 = 21 + (19 * (k.val : Int) + 15) % 30 := by decide
  have := h ⟨r.toNat, by omega⟩
  have e : ((r.toNat : Nat) : Int) = r := by omega
  simp only [e] at this
  exact this
theorem moon_len {r : Int} (h : r < 19) : r < (([36, 25, 44, 33, 22, 41, 30, 49, 38, 27, 46, 35, 24, 43, 32, 21, 40, 29, 48] : List Int).length : Int) := h
theorem moon_fit {r : Int} (h : r < 19) : r < 2 ^ 63 := by omega
theorem moon_ints (a b c d e f g h i j k l m n o p q r s : Tok) : IntsAre [.int 36 a, .int 25 b, .int 44 c, .int 33 d, .int 22 e, .int 41 f, .int 30 g, .int 49 h, .int 38 i, .int 27 j, .int 46 k, .int 35 l, .int 24 m, .int 43 n, .int 32 o, .int 21 p, .int 40 q, .int 29 r, .int 48 s] [36, 25, 44, 33, 22, 41, 30, 49, 38, 27, 46, 35, 24, 43, 32, 21, 40, 29, 48] := by repeat constructor
local macro_rules | `(tactic| walk_at "subscriptTail") => `(tactic| (k_here; (with_reducible show wpAny _ _ (subscriptTail _ _ (Value.ref _) (Value.int _ _)) _ _ _); k_dflt (refine' ksa_sub ?k1 ?k2 ?k3 ?k4 ?k5 ?k6 ?_; (case k1 => with_reducible assumption); (case k2 => exact .head _); (case k3 => exact moon_ints _ _ _ _ _ _ _ _ _ _ _ _ _ _ _ _ _ _ _); (case k4 => with_reducible assumption); (case k5 => exact moon_len (by with_reducible assumption)); (case k6 => exact moon_fit (by with_reducible assumption))); intro _))
theorem c_moon (y : Int) (t1 : Tok) : Claim w loose mean mg mb 193 1 [.int y t1] (RetI (moonI y)) := by
  unfold Claim
  k_fill
  intro dp un gd cn cs a ccd cl outer A₀ base h₀ L m news s Q E B F X N T hk hd hu hret
  refine wpAny_call ?_
  k_dflt (refine' code_def ?k1 ?k2 ?k3 ?k4 ?k5 ?kA ?kF ?kK ?k6 ?k7 ?k8 ?k9 ?kB ?_ ?c2 ?c3 ?c4 ?c5; (case kA => exact rfl); (case kF => exact rfl); (case kK => first | exact rfl | assumption); (case k1 => k_asm); (case k2 => k_asm); (case k3 => k_asm); (case k4 => k_asm); (case k5 => k_asm); (case k6 => k_is); (case k7 => k_is); (case k8 => ktr_room); (case k9 => first | exact BindsTo.of_eq rfl | exact binds_K (by k_in) rfl (by k_is) rfl rfl rfl); (case c5 => decide); (case kB => exact locs rfl); (case c2 => exact rfl); (case c3 => exact rfl); (case c4 => exact rfl); k_whole; intro g' L' h' FG' F' N' B' X' T'; (try dsimp only); (try k_lift B'); (try k_fold))
  w_top off
  k_steps
  all_goals (
    refine endI hret ?_ (by k_asm) (by assumption) (fun _ hp => by first | exact hp | exact .tail _ hp)
    rw [moon_at (by assumption) (by assumption)]
    unfold moonI; subst_vars; rfl)
theorem c_march (y : Int) (t1 : Tok) : Claim w loose mean mg mb 186 1 [.int y t1] (RetI (jmarch y)) := by
  unfold Claim
  k_fill
  intro dp un gd cn cs a ccd cl outer A₀ base h₀ L m news s Q E B F X N T hk hd hu hret
  refine wpAny_call ?_
  k_dflt (refine' code_def ?k1 ?k2 ?k3 ?k4 ?k5 ?kA ?kF ?kK ?k6 ?k7 ?k8 ?k9 ?kB ?_ ?c2 ?c3 ?c4 ?c5; (case kA => exact rfl); (case kF => exact rfl); (case kK => first | exact rfl | assumption); (case k1 => k_asm); (case k2 => k_asm); (case k3 => k_asm); (case k4 => k_asm); (case k5 => k_asm); (case k6 => k_is); (case k7 => k_is); (case k8 => ktr_room); (case k9 => first | exact BindsTo.of_eq rfl | exact binds_K (by k_in) rfl (by k_is) rfl rfl rfl); (case c5 => decide); (case kB => exact locs rfl); (case c2 => exact rfl); (case c3 => exact rfl); (case c4 => exact rfl); k_whole; intro g' L' h' FG' F' N' B' X' T'; (try dsimp only); (try k_lift B'); (try k_fold))
  w_top off
  k_steps
  all_goals (
    refine endI hret ?_ (by k_asm) (by assumption) (fun _ hp => by first | exact hp | exact .tail _ hp)
    rw [Int.fdiv_eq_ediv_of_nonneg _ (by decide), Int.fmod_eq_emod_of_nonneg _ (by decide)]
    unfold jmarch
    first | (rw [if_pos (by omega)]) | (rw [if_neg (by omega)]))
theorem c_jan (y : Int) (t1 : Tok) : Claim w loose mean mg mb 165 1 [.int y t1] (RetI (gjd y 1)) := by
  unfold Claim
  k_fill
  intro dp un gd cn cs a ccd cl outer A₀ base h₀ L m news s Q E B F X N T hk hd hu hret
  refine wpAny_call ?_
  k_dflt (refine' code_def ?k1 ?k2 ?k3 ?k4 ?k5 ?kA ?kF ?kK ?k6 ?k7 ?k8 ?k9 ?kB ?_ ?c2 ?c3 ?c4 ?c5; (case kA => exact rfl); (case kF => exact rfl); (case kK => first | exact rfl | assumption); (case k1 => k_asm); (case k2 => k_asm); (case k3 => k_asm); (case k4 => k_asm); (case k5 => k_asm); (case k6 => k_is); (case k7 => k_is); (case k8 => ktr_room); (case k9 => first | exact BindsTo.of_eq rfl | exact binds_K (by k_in) rfl (by k_is) rfl rfl rfl); (case c5 => decide); (case kB => exact locs rfl); (case c2 => exact rfl); (case c3 => exact rfl); (case c4 => exact rfl); k_whole; intro g' L' h' FG' F' N' B' X' T'; (try dsimp only); (try k_lift B'); (try k_fold))
  w_top off
  k_steps
  all_goals (
    refine endI hret ?_ (by k_asm) (by assumption) (fun _ hp => by first | exact hp | exact .tail _ hp)
    simp only [Int.fdiv_eq_ediv_of_nonneg _ (show (0 : Int) ≤ 400 by decide), Int.fmod_eq_emod_of_nonneg _ (show (0 : Int) ≤ 400 by decide), Int.fdiv_eq_ediv_of_nonneg _ (show (0 : Int) ≤ 4 by decide), Int.fdiv_eq_ediv_of_nonneg _ (show (0 : Int) ≤ 100 by decide)]
    rw [gjd_year]; omega)
end Mine
end

section
open PySem PySem.W PyProof.Rows
namespace Mine
set_option maxRecDepth 100000
set_option maxHeartbeats 40000000
variable {w : World} {loose : List Str} {mean : ExcName → Option Value} {mg mb : Str → Option Value}
/-- the day within its four centuries, and the first year of these -/
def lgR (n : Int) : Int := (n - 1721426) % 146097
def lgY (n : Int) : Int := 400 * ((n - 1721426) / 146097) + 1
def lp1 (n : Int) (L : Nat) (r y : Int) : Prop := ∃ c : Int, (0 ≤ c ∧ c ≤ L) ∧ r = lgR n - 36524 * c ∧ y = lgY n + 100 * c ∧ 0 ≤ r ∧ (r < 36524 ∨ c = L)
def lp2 (n : Int) (L : Nat) (r y : Int) : Prop := ∃ r1 y1 c : Int, lp1 n 3 r1 y1 ∧ (0 ≤ c ∧ c ≤ L) ∧ r = r1 - 1461 * c ∧ y = y1 + 4 * c ∧ 0 ≤ r ∧ (r < 1461 ∨ c = L)
def lp3 (n : Int) (L : Nat) (r y : Int) : Prop := ∃ r1 y1 c : Int, lp2 n 24 r1 y1 ∧ (0 ≤ c ∧ c ≤ L) ∧ r = r1 - 365 * c ∧ y = y1 + c ∧ 0 ≤ r ∧ (r < 365 ∨ c = L)
def lp4 (n y : Int) (pre : List Int) (r mo : Int) : Prop := ∃ r1 : Int, lp3 n 3 r1 y ∧ r = r1 - pre.sum ∧ mo = 1 + (pre.length : Int) ∧ 0 ≤ r
theorem lp1_nil {n r y : Int} (hr : r = lgR n) (hy : y = lgY n) : lp1 n ([] : List Int).length r y := ⟨0, ⟨by omega, by simp⟩, by omega, by omega, by unfold lgR at hr; omega, .inr rfl⟩
theorem lp1_nil' (n : Int) : lp1 n ([] : List Int).length ((n - 1721426).fmod 146097) (400 * (n - 1721426).fdiv 146097 + 1) :=
  lp1_nil (Int.fmod_eq_emod_of_nonneg _ (by decide)) (by rw [Int.fdiv_eq_ediv_of_nonneg _ (by decide)]; rfl)
theorem lp2_nil {n r y a : Int} {k : Nat} (h : lp1 n (rangeKs a k).length r y) (hk : k = 3) : lp2 n ([] : List Int).length r y := by
  rw [rangeKs_length, hk] at h
  have : 0 ≤ r := by obtain ⟨c, _, _, _, h, _⟩ := h; exact h
  exact ⟨r, y, 0, h, ⟨by omega, by simp⟩, by omega, by omega, this, .inr rfl⟩
theorem lp3_nil {n r y a : Int} {k : Nat} (h : lp2 n (rangeKs a k).length r y) (hk : k = 24) : lp3 n ([] : List Int).length r y := by
  rw [rangeKs_length, hk] at h
  have : 0 ≤ r := by obtain ⟨_, _, c, _, _, _, _, h, _⟩ := h; exact h
  exact ⟨r, y, 0, h, ⟨by omega, by simp⟩, by omega, by omega, this, .inr rfl⟩
theorem lp4_nil {n r y a : Int} {k : Nat} (h : lp3 n (rangeKs a k).length r y) (hk : k = 3) : lp4 n y [] r 1 := by
  rw [rangeKs_length, hk] at h
  have : 0 ≤ r := by obtain ⟨_, _, c, _, _, _, _, h, _⟩ := h; exact h
  exact ⟨r, h, by simp, by simp, this⟩
theorem lp1_st {n r y r' y' k : Int} {pre : List Int} (h : lp1 n pre.length r y) (he : (36524 ≤ r ∧ r' = r - 36524 ∧ y' = y + 100) ∨ (r < 36524 ∧ r' = r ∧ y' = y)) : lp1 n (pre ++ [k]).length r' y' := by
  rw [List.length_append, List.length_singleton]
  obtain ⟨c, h1, h2, h3, h4, h5⟩ := h
  rcases he with he | he
  · exact ⟨c + 1, by omega, by omega, by omega, by omega, by omega⟩
  · exact ⟨c, by omega, by omega, by omega, by omega, by omega⟩
theorem lp2_st {n r y r' y' k : Int} {pre : List Int} (h : lp2 n pre.length r y) (he : (1461 ≤ r ∧ r' = r - 1461 ∧ y' = y + 4) ∨ (r < 1461 ∧ r' = r ∧ y' = y)) : lp2 n (pre ++ [k]).length r' y' := by
  rw [List.length_append, List.length_singleton]
  obtain ⟨r1, y1, c, h0, h1, h2, h3, h4, h5⟩ := h
  rcases he with he | he
  · exact ⟨r1, y1, c + 1, h0, by omega, by omega, by omega, by omega, by omega⟩
  · exact ⟨r1, y1, c, h0, by omega, by omega, by omega, by omega, by omega⟩
theorem lp3_st {n r y r' y' k : Int} {pre : List Int} (h : lp3 n pre.length r y) (he : (365 ≤ r ∧ r' = r - 365 ∧ y' = y + 1) ∨ (r < 365 ∧ r' = r ∧ y' = y)) : lp3 n (pre ++ [k]).length r' y' := by
  rw [List.length_append, List.length_singleton]
  obtain ⟨r1, y1, c, h0, h1, h2, h3, h4, h5⟩ := h
  rcases he with he | he
  · exact ⟨r1, y1, c + 1, h0, by omega, by omega, by omega, by omega, by omega⟩
  · exact ⟨r1, y1, c, h0, by omega, by omega, by omega, by omega, by omega⟩
theorem lp4_st {n y r mo x : Int} {pre : List Int} (h : lp4 n y pre r mo) (he : x ≤ r) : lp4 n y (pre ++ [x]) (r - x) (mo + 1) := by
  obtain ⟨r1, h0, h1, h2, h3⟩ := h
  refine ⟨r1, h0, ?_, ?_, by omega⟩
  · rw [List.sum_append]; simp only [List.sum_cons, List.sum_nil]; omega
  · rw [List.length_append, List.length_singleton]; omega
/-- the sizes of the twelve months -/
def szI (lp : Int) : List Int := [31, 28 + lp, 31, 30, 31, 30, 31, 31, 30, 31, 30, 31]
theorem sz_at {lp : Int} {pre post : List Int} {x : Int} (hl : lp = 0 ∨ lp = 1) (h : szI lp = pre ++ x :: post) : pre.length < 12 ∧ pre.sum = (367 * ((1 + pre.length : Nat) : Int) - 362) / 12 + (if 1 + pre.length ≤ 2 then 0 else lp - 2) ∧ (pre.length < 11 → pre.sum + x = (367 * ((2 + pre.length : Nat) : Int) - 362) / 12 + (if 2 + pre.length ≤ 2 then 0 else lp - 2)) ∧ (pre.length = 11 → pre.sum + x = 365 + lp) := by
  have e1 : pre = (szI lp).take pre.length := by rw [h]; simp
  have e2 : pre.length < 12 := by
    have := congrArg List.length h
    simp [szI] at this; omega
  have e3 : (szI lp)[pre.length]? = some x := by rw [h]; simp
  generalize pre.length = k at *
  subst e1
  have hk : k = 0 ∨ k = 1 ∨ k = 2 ∨ k = 3 ∨ k = 4 ∨ k = 5 ∨ k = 6 ∨ k = 7 ∨ k = 8 ∨ k = 9 ∨ k = 10 ∨ k = 11 := by omega
  clear h
  rcases hl with rfl | rfl <;> rcases hk with rfl | rfl | rfl | rfl | rfl | rfl | rfl | rfl | rfl | rfl | rfl | rfl <;> (injection e3 with e3; subst e3; decide)
theorem lg_year {n y r : Int} (h : lp3 n 3 r y) : r = n - gjd y 1 ∧ 0 ≤ r ∧ r < 365 + lpI y := by
  obtain ⟨r1, y1, c, ⟨r2, y2, d, ⟨e, a1, a2, a3, a4, a5⟩, b1, b2, b3, b4, b5⟩, c1, c2, c3, c4, c5⟩ := h
  have a := gjd_year y
  have hq : ∃ q, lgY n = 400 * q + 1 ∧ n - 1721426 = 146097 * q + lgR n ∧ 0 ≤ lgR n ∧ lgR n < 146097 := ⟨(n - 1721426) / 146097, rfl, by unfold lgR; omega, by unfold lgR; omega, by unfold lgR; omega⟩
  obtain ⟨q, q1, q2, q3, q4⟩ := hq
  generalize lgR n = R at *
  generalize lgY n = Y at *
  have e3 : e ≤ 3 ∧ d ≤ 24 ∧ c ≤ 3 := by omega
  have y0 : y - 1 = 400 * q + 100 * e + 4 * d + c := by omega
  have d1 : (y - 1) / 4 = 100 * q + 25 * e + d := by omega
  have d2 : (y - 1) / 100 = 4 * q + e := by omega
  have d3 : (y - 1) / 400 = q := by omega
  rw [d1, d2, d3] at a
  refine ⟨by omega, c4, ?_⟩
  have b := lpI_says y
  have f4 : y % 4 = (c + 1) % 4 := by omega
  have f100 : y % 100 = (4 * d + c + 1) % 100 := by omega
  have f400 : y % 400 = (100 * e + 4 * d + c + 1) % 400 := by omega
  rw [f4, f100, f400] at b
  have g : r < 365 ∨ (c = 3 ∧ r ≤ 365) := by omega
  rcases g with g | ⟨g, g2⟩
  · omega
  · subst g
    by_cases h2 : r < 365
    · omega
    · have : d < 24 ∨ e = 3 := by omega
      omega
theorem lg_end {n y r mo x : Int} {pre post : List Int} (h : lp4 n y pre r mo) (hs : szI (lpI y) = pre ++ x :: post) (hr : r < x) : y = (gDate n).1 ∧ mo = (gDate n).2.1 ∧ r + 1 = (gDate n).2.2 := by
  obtain ⟨r1, h0, h1, h2, h3⟩ := h
  obtain ⟨g1, g2, g3⟩ := lg_year h0
  obtain ⟨s1, s2, s3, s4⟩ := sz_at (by have := lpI_bound y; omega) hs
  refine gDate_of ?_
  have a := gjd_says y mo
  have b := gjd_says y (mo + 1)
  have y1 := gjd_year y
  have y2 := gjd_year (y + 1)
  have ls := lpI_says y
  have lb := lpI_bound y
  generalize pre.sum = S at *
  generalize pre.length = k at *
  clear hs
  have c1 : gjd y mo = gjd y 1 + S := by
    rw [s2, y1]; unfold gjd; subst h2
    by_cases h5 : 1 + k ≤ 2
    · rw [if_pos h5, if_pos (by omega)]; omega
    · rw [if_neg h5, if_neg (by omega)]; omega
  have c2 : k < 11 → gjd y (mo + 1) = gjd y 1 + S + x := by
    intro h6
    rw [Int.add_assoc, s3 h6, y1]; unfold gjd; subst h2
    by_cases h5 : 2 + k ≤ 2
    · omega
    · rw [if_neg h5, if_neg (by omega)]; omega
  have c3 : gjd (y + 1) 1 = gjd y 1 + 365 + lpI y := by
    have := leap_count y
    have e : y + 1 - 1 = y := by omega
    rw [y2, y1, e]; clear a b y1 y2 ls lb s1 s2 s3 s4 c1 c2 g1 g2 g3; omega
  clear a b y1 y2 ls s2 s3
  exact ⟨by omega, by omega, by omega, by omega, fun h7 => by have := c2 (by omega); omega, fun h7 => by have := s4 (by omega); omega⟩
theorem lg_none {n y r mo : Int} (h : lp4 n y (szI (lpI y)) r mo) : False := by
  obtain ⟨r1, h0, h1, h2, h3⟩ := h
  obtain ⟨g1, g2, g3⟩ := lg_year h0
  have : (szI (lpI y)).sum = 365 + lpI y := by unfold szI; simp only [List.sum_cons, List.sum_nil]; omega
  omega
theorem sz29 {y : Int} (h : lpI y = 1) : szI (lpI y) = [31, 29, 31, 30, 31, 30, 31, 31, 30, 31, 30, 31] := by unfold szI; rw [h]; rfl
theorem sz28 {y : Int} (h : ¬ lpI y = 1) : szI (lpI y) = [31, 28, 31, 30, 31, 30, 31, 31, 30, 31, 30, 31] := by
  have : lpI y = 0 := by have := lpI_bound y; omega
  unfold szI; rw [this]; rfl
theorem lg_b29 {n y r mo x : Int} {pre post : List Int} (hs : [31, 29, 31, 30, 31, 30, 31, 31, 30, 31, 30, 31] = pre ++ x :: post) (h : lp4 n y pre r mo) (hl : lpI y = 1) (hr : r < x) : y = (gDate n).1 ∧ mo = (gDate n).2.1 ∧ r + 1 = (gDate n).2.2 :=
  lg_end h (by rw [sz29 hl]; exact hs) hr
theorem lg_b28 {n y r mo x : Int} {pre post : List Int} (hs : [31, 28, 31, 30, 31, 30, 31, 31, 30, 31, 30, 31] = pre ++ x :: post) (h : lp4 n y pre r mo) (hl : ¬ lpI y = 1) (hr : r < x) : y = (gDate n).1 ∧ mo = (gDate n).2.1 ∧ r + 1 = (gDate n).2.2 :=
  lg_end h (by rw [sz28 hl]; exact hs) hr
theorem lg_x29 {n y r mo : Int} (h : lp4 n y [31, 29, 31, 30, 31, 30, 31, 31, 30, 31, 30, 31] r mo) (hl : lpI y = 1) : False :=
  lg_none (n := n) (y := y) (r := r) (mo := mo) (by rw [sz29 hl]; exact h)
theorem lg_x28 {n y r mo : Int} (h : lp4 n y [31, 28, 31, 30, 31, 30, 31, 31, 30, 31, 30, 31] r mo) (hl : ¬ lpI y = 1) : False :=
  lg_none (n := n) (y := y) (r := r) (mo := mo) (by rw [sz28 hl]; exact h)
end Mine
end

section
local macro_rules | `(tactic| walk_at "pad0") => `(tactic| skip)
local macro_rules | `(tactic| walk_at "pad1") => `(tactic| skip)
local macro_rules | `(tactic| walk_at "pad2") => `(tactic| skip)
local macro_rules | `(tactic| walk_at "pad3") => `(tactic| skip)
local macro_rules | `(tactic| walk_at "pad4") => `(tactic| skip)
local macro_rules | `(tactic| walk_at "pad5") => `(tactic| skip)
local macro_rules | `(tactic| walk_at "pad6") => `(tactic| skip)
local macro_rules | `(tactic| walk_at "pad7") => `(tactic| skip)
open PySem PySem.W PyProof.Rows
namespace Mine
set_option maxRecDepth 100000
set_option maxHeartbeats 40000000
local macro_rules | `(tactic| walk_at "call ref") => `(tactic| (k_here; k_dflt (refine wpAny_call ?_; (refine' code_def ?k1 ?k2 ?k3 ?k4 ?k5 ?kA ?kF ?kK ?k6 ?k7 ?k8 ?k9 ?kB ?_ ?c2 ?c3 ?c4 ?c5; (case kA => exact rfl); (case kF => exact rfl); (case kK => first | exact rfl | assumption); (case k1 => k_asm); (case k2 => k_asm); (case k3 => k_asm); (case k4 => k_asm); (case k5 => k_asm); (case k6 => k_is); (case k7 => k_is); (case k8 => ktr_room); (case k9 => first | exact BindsTo.of_eq rfl | exact binds_K (by k_in) rfl (by k_is) rfl rfl rfl); (case c5 => decide); (case kB => exact locs rfl); (case c2 => exact rfl); (case c3 => exact rfl); (case c4 => exact rfl); k_whole; intro g' L' h' FG' F' N' B' X' T'; (try dsimp only); (try k_lift B'); (try k_fold)))))
local macro_rules | `(tactic| walk_at "binaryOp Mod int int") => `(tactic| (k_here; (with_reducible show wpAny _ _ (binaryOp Operator.Mod (Value.int _ _) (Value.int _ _)) _ _ _); (refine' r_mod_ii ?hb ?_; (case hb => first | decide | omega)); intro _ _ _ _))
local macro_rules | `(tactic| walk_at "binaryOp Sub float float") => `(tactic| (k_here; (with_reducible show wpAny _ _ (binaryOp Operator.Sub (Value.float _ _) (Value.float _ _)) _ _ _); (refine' r_sub_ff ?hx ?hy ?ha ?hb ?hc ?_; (case hx => first | with_reducible exact rfl | exact k_epoch); (case hy => first | with_reducible exact rfl | exact k_half | exact k_epoch | exact k_1524); (case ha => constructor <;> omega); (case hb => constructor <;> omega); (case hc => constructor <;> omega))))
local macro_rules | `(tactic| walk_at "binaryOp Sub float int") => `(tactic| (k_here; (with_reducible show wpAny _ _ (binaryOp Operator.Sub (Value.float _ _) (Value.int _ _)) _ _ _); (refine' r_sub_fi ?hx ?ha ?hb ?hc ?_; (case hx => first | with_reducible exact rfl | exact k_epoch); (case ha => constructor <;> omega); (case hb => constructor <;> omega); (case hc => constructor <;> omega))))
local macro_rules | `(tactic| walk_at "binaryOp Sub int float") => `(tactic| (k_here; (with_reducible show wpAny _ _ (binaryOp Operator.Sub (Value.int _ _) (Value.float _ _)) _ _ _); (refine' r_sub_if ?hy ?ha ?hb ?hc ?_; (case hy => first | with_reducible exact rfl | exact k_epoch | exact k_1524); (case ha => constructor <;> omega); (case hb => constructor <;> omega); (case hc => constructor <;> omega))))
local macro_rules | `(tactic| walk_at "binaryOp Add float int") => `(tactic| (k_here; (with_reducible show wpAny _ _ (binaryOp Operator.Add (Value.float _ _) (Value.int _ _)) _ _ _); (refine' r_add_fi ?hx ?ha ?hb ?hc ?_; (case hx => first | with_reducible exact rfl | exact k_epoch); (case ha => constructor <;> omega); (case hb => constructor <;> omega); (case hc => constructor <;> omega))))
local macro_rules | `(tactic| walk_at "binaryOp Add int float") => `(tactic| (k_here; (with_reducible show wpAny _ _ (binaryOp Operator.Add (Value.int _ _) (Value.float _ _)) _ _ _); (refine' r_add_if ?hy ?ha ?hb ?hc ?_; (case hy => first | with_reducible exact rfl | exact k_half); (case ha => constructor <;> omega); (case hb => constructor <;> omega); (case hc => constructor <;> omega))))
local macro_rules | `(tactic| walk_at "binaryOp Mult float int") => `(tactic| (k_here; (with_reducible show wpAny _ _ (binaryOp Operator.Mult (Value.float _ _) (Value.int _ _)) _ _ _); first
  | (refine' r_mul_fc (a := 1461) k_36525 ?ha ?hb ?ha0 ?hc ?_; (case ha => constructor <;> omega); (case hb => constructor <;> omega); (case ha0 => decide); (case hc => constructor <;> omega))
  | (refine' r_mul_fi ?hx ?ha ?hb ?hb0 ?hc ?_; (case hx => with_reducible exact rfl); (case ha => constructor <;> omega); (case hb => constructor <;> omega); (case hb0 => omega); (case hc => constructor <;> omega))))
local macro_rules | `(tactic| walk_at "binaryOp Mod float int") => `(tactic| (k_here; (with_reducible show wpAny _ _ (binaryOp Operator.Mod (Value.float _ _) (Value.int _ _)) _ _ _); (refine' r_mod_fi rfl ?hx ?hm ?ha ?hb ?hb0 ?_; (case hx => with_reducible exact rfl); (case hm => omega); (case ha => constructor <;> omega); (case hb => constructor <;> omega); (case hb0 => omega)); intro _ _ _ _))
local macro_rules | `(tactic| walk_at "binaryOp Div float int") => `(tactic| (k_here; (with_reducible show wpAny _ _ (binaryOp Operator.Div (Value.float (q4 _) _) (Value.int _ _)) _ _ _); (refine' r_div_fi rfl ?hx ?hb ?hb0 ?_; (case hx => with_reducible exact rfl); (case hb => constructor <;> omega); (case hb0 => omega))))
local macro_rules | `(tactic| walk_at "binaryOp Div int int") => `(tactic| (k_here; (with_reducible show wpAny _ _ (binaryOp Operator.Div (Value.int _ _) (Value.int _ _)) _ _ _); (refine' r_div_ii rfl ?hb ?ha ?_; (case hb => omega); (case ha => omega))))
local macro_rules | `(tactic| walk_at "compareOp Lt float int") => `(tactic| (k_here; (with_reducible show wpAny _ _ (compareOp CmpOp.Lt (Value.float (q4 _) _) (Value.int _ _)) _ _ _); (refine' r_lt_fi ?hx ?ha ?_; (case hx => with_reducible exact rfl); (case ha => constructor <;> omega))))
local macro_rules | `(tactic| walk_at "call builtin:math.floor") => `(tactic| (k_here; first
  | ((with_reducible show wpAny _ _ (call _ [Value.float (q4 _) _]) _ _ _); (refine' r_floor_q rfl ?hx ?ha ?_; (case hx => with_reducible exact rfl); (case ha => constructor <;> omega)); intro _ _)
  | ((with_reducible show wpAny _ _ (call _ [Value.float (qd _ _) _]) _ _ _); (refine' r_floor_qd rfl ?hb ?hb2 ?hk ?hk2 ?_; (case hb => omega); (case hb2 => omega); (case hk => omega); (case hk2 => omega)); intro _ _)
  | ((with_reducible show wpAny _ _ (call _ [Value.float (Float64.div (q4 _) (Float64.ofInt _)) _]) _ _ _); (refine' r_floor_div rfl ?hm ?ha ?hb ?hb2 ?hk ?hk2 ?_; (case hm => omega); (case ha => constructor <;> omega); (case hb => omega); (case hb2 => omega); (case hk => omega); (case hk2 => omega)); intro _ _)))
local macro_rules | `(tactic| walk_at "call builtin:math.trunc") => `(tactic| (k_here; (with_reducible show wpAny _ _ (call _ [Value.float (qd _ _) _]) _ _ _); first
  | ((refine' r_trunc_qd rfl ?hb ?hb2 ?hk ?hk2 ?h0 ?_; (case hb => omega); (case hb2 => omega); (case hk => omega); (case hk2 => omega); (case h0 => omega)); intro _ _)
  | ((refine' r_trunc_qs rfl ?hb ?hb2 ?hk ?hk2 ?_; (case hb => omega); (case hb2 => omega); (case hk => omega); (case hk2 => omega)); intro _ _ _)))
local macro_rules | `(tactic| walk_at "call type:int") => `(tactic| (k_here; (with_reducible show wpAny _ _ (call _ [Value.float (q4 _) _]) _ _ _); (refine' r_int_q rfl ?hx ?ha ?h0 ?_; (case hx => with_reducible exact rfl); (case ha => constructor <;> omega); (case h0 => omega)); intro _ _))
local macro_rules | `(tactic| walk_at "compareOp In int ref") => `(tactic| (k_here; (with_reducible show wpAny _ _ (compareOp CmpOp.In (Value.int _ _) (Value.ref _)) _ _ _); k_dflt (refine' r_in4 ?F ?X ?l ?i ?_; (case F => k_asm); (case X => k_asm); (case l => k_is); (case i => repeat constructor))))
local macro_rules | `(tactic| walk_at "eval Call") => `(tactic| (k_here; (with_reducible show wpAny _ _ (eval (Expr.Call (Expr.Name _ _) _ [] _) _) _ _ _); k_dflt (refine Call_ ?_)))
variable {w : World} {loose : List Str} {mean : ExcName → Option Value} {mg mb : Str → Option Value}
local macro_rules | `(tactic| walk_at "call ref") => `(tactic| (k_here; (with_reducible show wpAny _ _ (call (Value.ref 151) _) _ _ _); k_dflt (refine' r_use (c_long _ _ ) ?k1 ?k2 ?k3 ?k4 ?k5 ?kK ?kd ?ku ?_; (case k1 => k_asm); (case k2 => k_asm); (case k3 => k_asm); (case k4 => k_asm); (case k5 => k_asm); (case kK => first | exact rfl | assumption); (case kd => ktr_room); (case ku => ktr_units)); intro h9 tk9 F9 N9; (try dsimp only); (try k_fold)))
local macro_rules | `(tactic| walk_at "execs cons") => `(tactic| (k_here; k_dflt (refine wpAny_execs_cons ?_); try dsimp only))
local macro_rules | `(tactic| walk_at "exec For Name Call cons nil") => `(tactic| (k_here; (rename Fr _ _ _ _ => lF'); (with_unfolding_all refine' For_invVF lF' ?k1 ?k2 ?_; (case k1 => exact rfl); (case k2 => exact rfl); k_whole)))
theorem first_ints {h₀ h : Heap} {L l : Addr} {vs : List Value} {c : Nat} {rest : List (Addr × Obj)} {ns : List Int} (_ : News h₀ L h ((l, listOf vs.toArray c) :: rest)) (hi : IntsAre vs ns) : IntsAre vs ns := hi
theorem ints29 (a b c d e f g h i j k l : Tok) : IntsAre [.int 31 a, .int 29 b, .int 31 c, .int 30 d, .int 31 e, .int 30 f, .int 31 g, .int 31 h, .int 30 i, .int 31 j, .int 30 k, .int 31 l] [31, 29, 31, 30, 31, 30, 31, 31, 30, 31, 30, 31] := by repeat constructor
theorem ints28 (a b c d e f g h i j k l : Tok) : IntsAre [.int 31 a, .int 28 b, .int 31 c, .int 30 d, .int 31 e, .int 30 f, .int 31 g, .int 31 h, .int 30 i, .int 31 j, .int 30 k, .int 31 l] [31, 28, 31, 30, 31, 30, 31, 31, 30, 31, 30, 31] := by repeat constructor
local macro_rules | `(tactic| walk_at "InvEndN") => `(tactic| (k_here; (rename News _ _ _ _ => nE'); k_dflt (refine' kst_end ⟨_, _, _, _⟩ ?F nE' ?hn ?ho ?ha ?hf ?hk ?hr ?hp; (case F => assumption); (case hn => (intro p hp; first | exact List.mem_append_left _ hp | exact List.Mem.tail _ (List.mem_append_left _ hp) | exact List.Mem.tail _ (List.Mem.tail _ (List.mem_append_left _ hp)) | (simp only [List.mem_cons, List.mem_append] at hp ⊢; rcases hp with hp | hp | hp <;> simp only [hp, true_or, or_true]))); (case ho => (intro p hp; first | exact List.mem_append_right _ hp | exact List.Mem.tail _ (List.mem_append_right _ hp) | exact List.Mem.tail _ (List.Mem.tail _ (List.mem_append_right _ hp)))); (case ha => rfl); (case hf => kst_facts); (case hk => kst_all); (case hr => kst_same); (case hp => (dsimp only; first | exact lp1_st (by with_reducible assumption) (by omega) | exact lp2_st (by with_reducible assumption) (by omega) | exact lp3_st (by with_reducible assumption) (by omega) | exact lp4_st (by with_reducible assumption) (by omega))))))
theorem lg_lt {D a b : Addr} {l r : List (Addr × Obj)} (h : a < D ∧ b < D ∧ AllLt D (l ++ r)) : AllLt D l := allLt_of fun p hp => kst_ltOf h.2.2 p (List.mem_append_left _ hp)
theorem c_lgreg (n : Int) (t1 : Tok) : Claim w loose mean mg mb 144 3 [.int n t1] (Ret3 (gDate n).1 (gDate n).2.1 (gDate n).2.2) := by
  unfold Claim
  k_fill
  intro dp un gd cn cs a ccd cl outer A₀ base h₀ L m news s Q E B F X N T hk hd hu hret
  refine wpAny_call ?_
  k_dflt (refine' code_def ?k1 ?k2 ?k3 ?k4 ?k5 ?kA ?kF ?kK ?k6 ?k7 ?k8 ?k9 ?kB ?_ ?c2 ?c3 ?c4 ?c5; (case kA => exact rfl); (case kF => exact rfl); (case kK => first | exact rfl | assumption); (case k1 => k_asm); (case k2 => k_asm); (case k3 => k_asm); (case k4 => k_asm); (case k5 => k_asm); (case k6 => k_is); (case k7 => k_is); (case k8 => ktr_room); (case k9 => first | exact BindsTo.of_eq rfl | exact binds_K (by k_in) rfl (by k_is) rfl rfl rfl); (case c5 => decide); (case kB => exact locs rfl); (case c2 => exact rfl); (case c3 => exact rfl); (case c4 => exact rfl); k_whole; intro g' L' h' FG' F' N' B' X' T'; (try dsimp only); (try k_lift B'); (try k_fold))
  k_with "state" => (first | exact lp1_nil' _ | exact lp2_nil (by with_reducible assumption) (by with_unfolding_all rfl) | exact lp3_nil (by with_reducible assumption) (by with_unfolding_all rfl) | exact lp4_nil (by with_reducible assumption) (by with_unfolding_all rfl))
  k_with "pyIter ref" => first | k_state_short (fun pre r y => lp1 n pre.length r y) "rest" "year" | k_state_short (fun pre r y => lp2 n pre.length r y) "rest" "year" | k_state_short (fun pre r y => lp3 n pre.length r y) "rest" "year" | ((rename News _ _ _ _ => nI'); (have hI9 := first_ints nI' (by first | exact ints29 _ _ _ _ _ _ _ _ _ _ _ _ | exact ints28 _ _ _ _ _ _ _ _ _ _ _ _)); k_state_given ["year"] (fun y pre r mo => lp4 n y pre r mo) "rest" "month")
  w_top off
  k_steps
  all_goals (first
    | exact (lg_x29 (by with_reducible assumption) (by with_reducible assumption)).elim
    | exact (lg_x28 (by with_reducible assumption) (by with_reducible assumption)).elim
    | (have hend := lg_b29 (by with_reducible assumption) (by with_reducible assumption) (by with_reducible assumption) (by with_reducible assumption)
       exact end3 hret hend.1 hend.2.1 hend.2.2 (by k_asm) ⟨by assumption, .head _⟩ (fun _ hp => .tail _ (.tail _ (.tail _ (List.mem_append_left _ hp)))) (lg_lt (by assumption)))
    | (have hend := lg_b28 (by with_reducible assumption) (by with_reducible assumption) (by with_reducible assumption) (by with_reducible assumption)
       exact end3 hret hend.1 hend.2.1 hend.2.2 (by k_asm) ⟨by assumption, .head _⟩ (fun _ hp => .tail _ (.tail _ (.tail _ (List.mem_append_left _ hp)))) (lg_lt (by assumption))))
end Mine
end

section
local macro_rules | `(tactic| walk_at "pad0") => `(tactic| skip)
local macro_rules | `(tactic| walk_at "pad1") => `(tactic| skip)
local macro_rules | `(tactic| walk_at "pad2") => `(tactic| skip)
local macro_rules | `(tactic| walk_at "pad3") => `(tactic| skip)
local macro_rules | `(tactic| walk_at "pad4") => `(tactic| skip)
local macro_rules | `(tactic| walk_at "pad5") => `(tactic| skip)
open PySem PySem.W PyProof.Rows
namespace Mine
set_option maxRecDepth 100000
set_option maxHeartbeats 40000000
local macro_rules | `(tactic| walk_at "call ref") => `(tactic| (k_here; k_dflt (refine wpAny_call ?_; (refine' code_def ?k1 ?k2 ?k3 ?k4 ?k5 ?kA ?kF ?kK ?k6 ?k7 ?k8 ?k9 ?kB ?_ ?c2 ?c3 ?c4 ?c5; (case kA => exact rfl); (case kF => exact rfl); (case kK => first | exact rfl | assumption); (case k1 => k_asm); (case k2 => k_asm); (case k3 => k_asm); (case k4 => k_asm); (case k5 => k_asm); (case k6 => k_is); (case k7 => k_is); (case k8 => ktr_room); (case k9 => first | exact BindsTo.of_eq rfl | exact binds_K (by k_in) rfl (by k_is) rfl rfl rfl); (case c5 => decide); (case kB => exact locs rfl); (case c2 => exact rfl); (case c3 => exact rfl); (case c4 => exact rfl); k_whole; intro g' L' h' FG' F' N' B' X' T'; (try dsimp only); (try k_lift B'); (try k_fold)))))
local macro_rules | `(tactic| walk_at "binaryOp Mod int int") => `(tactic| (k_here; (with_reducible show wpAny _ _ (binaryOp Operator.Mod (Value.int _ _) (Value.int _ _)) _ _ _); (refine' r_mod_ii ?hb ?_; (case hb => first | decide | omega)); intro _ _ _ _))
local macro_rules | `(tactic| walk_at "binaryOp Sub float float") => `(tactic| (k_here; (with_reducible show wpAny _ _ (binaryOp Operator.Sub (Value.float _ _) (Value.float _ _)) _ _ _); (refine' r_sub_ff ?hx ?hy ?ha ?hb ?hc ?_; (case hx => first | with_reducible exact rfl | exact k_epoch); (case hy => first | with_reducible exact rfl | exact k_half | exact k_epoch | exact k_1524); (case ha => constructor <;> omega); (case hb => constructor <;> omega); (case hc => constructor <;> omega))))
local macro_rules | `(tactic| walk_at "binaryOp Sub float int") => `(tactic| (k_here; (with_reducible show wpAny _ _ (binaryOp Operator.Sub (Value.float _ _) (Value.int _ _)) _ _ _); (refine' r_sub_fi ?hx ?ha ?hb ?hc ?_; (case hx => first | with_reducible exact rfl | exact k_epoch); (case ha => constructor <;> omega); (case hb => constructor <;> omega); (case hc => constructor <;> omega))))
local macro_rules | `(tactic| walk_at "binaryOp Sub int float") => `(tactic| (k_here; (with_reducible show wpAny _ _ (binaryOp Operator.Sub (Value.int _ _) (Value.float _ _)) _ _ _); (refine' r_sub_if ?hy ?ha ?hb ?hc ?_; (case hy => first | with_reducible exact rfl | exact k_epoch | exact k_1524); (case ha => constructor <;> omega); (case hb => constructor <;> omega); (case hc => constructor <;> omega))))
local macro_rules | `(tactic| walk_at "binaryOp Add float int") => `(tactic| (k_here; (with_reducible show wpAny _ _ (binaryOp Operator.Add (Value.float _ _) (Value.int _ _)) _ _ _); (refine' r_add_fi ?hx ?ha ?hb ?hc ?_; (case hx => first | with_reducible exact rfl | exact k_epoch); (case ha => constructor <;> omega); (case hb => constructor <;> omega); (case hc => constructor <;> omega))))
local macro_rules | `(tactic| walk_at "binaryOp Add int float") => `(tactic| (k_here; (with_reducible show wpAny _ _ (binaryOp Operator.Add (Value.int _ _) (Value.float _ _)) _ _ _); (refine' r_add_if ?hy ?ha ?hb ?hc ?_; (case hy => first | with_reducible exact rfl | exact k_half); (case ha => constructor <;> omega); (case hb => constructor <;> omega); (case hc => constructor <;> omega))))
local macro_rules | `(tactic| walk_at "binaryOp Mult float int") => `(tactic| (k_here; (with_reducible show wpAny _ _ (binaryOp Operator.Mult (Value.float _ _) (Value.int _ _)) _ _ _); first
  | (refine' r_mul_fc (a := 1461) k_36525 ?ha ?hb ?ha0 ?hc ?_; (case ha => constructor <;> omega); (case hb => constructor <;> omega); (case ha0 => decide); (case hc => constructor <;> omega))
  | (refine' r_mul_fi ?hx ?ha ?hb ?hb0 ?hc ?_; (case hx => with_reducible exact rfl); (case ha => constructor <;> omega); (case hb => constructor <;> omega); (case hb0 => omega); (case hc => constructor <;> omega))))
local macro_rules | `(tactic| walk_at "binaryOp Mod float int") => `(tactic| (k_here; (with_reducible show wpAny _ _ (binaryOp Operator.Mod (Value.float _ _) (Value.int _ _)) _ _ _); (refine' r_mod_fi rfl ?hx ?hm ?ha ?hb ?hb0 ?_; (case hx => with_reducible exact rfl); (case hm => omega); (case ha => constructor <;> omega); (case hb => constructor <;> omega); (case hb0 => omega)); intro _ _ _ _))
local macro_rules | `(tactic| walk_at "binaryOp Div float int") => `(tactic| (k_here; (with_reducible show wpAny _ _ (binaryOp Operator.Div (Value.float (q4 _) _) (Value.int _ _)) _ _ _); (refine' r_div_fi rfl ?hx ?hb ?hb0 ?_; (case hx => with_reducible exact rfl); (case hb => constructor <;> omega); (case hb0 => omega))))
local macro_rules | `(tactic| walk_at "binaryOp Div int int") => `(tactic| (k_here; (with_reducible show wpAny _ _ (binaryOp Operator.Div (Value.int _ _) (Value.int _ _)) _ _ _); (refine' r_div_ii rfl ?hb ?ha ?_; (case hb => omega); (case ha => omega))))
local macro_rules | `(tactic| walk_at "compareOp Lt float int") => `(tactic| (k_here; (with_reducible show wpAny _ _ (compareOp CmpOp.Lt (Value.float (q4 _) _) (Value.int _ _)) _ _ _); (refine' r_lt_fi ?hx ?ha ?_; (case hx => with_reducible exact rfl); (case ha => constructor <;> omega))))
local macro_rules | `(tactic| walk_at "call builtin:math.floor") => `(tactic| (k_here; first
  | ((with_reducible show wpAny _ _ (call _ [Value.float (q4 _) _]) _ _ _); (refine' r_floor_q rfl ?hx ?ha ?_; (case hx => with_reducible exact rfl); (case ha => constructor <;> omega)); intro _ _)
  | ((with_reducible show wpAny _ _ (call _ [Value.float (qd _ _) _]) _ _ _); (refine' r_floor_qd rfl ?hb ?hb2 ?hk ?hk2 ?_; (case hb => omega); (case hb2 => omega); (case hk => omega); (case hk2 => omega)); intro _ _)
  | ((with_reducible show wpAny _ _ (call _ [Value.float (Float64.div (q4 _) (Float64.ofInt _)) _]) _ _ _); (refine' r_floor_div rfl ?hm ?ha ?hb ?hb2 ?hk ?hk2 ?_; (case hm => omega); (case ha => constructor <;> omega); (case hb => omega); (case hb2 => omega); (case hk => omega); (case hk2 => omega)); intro _ _)))
local macro_rules | `(tactic| walk_at "call builtin:math.trunc") => `(tactic| (k_here; (with_reducible show wpAny _ _ (call _ [Value.float (qd _ _) _]) _ _ _); first
  | ((refine' r_trunc_qd rfl ?hb ?hb2 ?hk ?hk2 ?h0 ?_; (case hb => omega); (case hb2 => omega); (case hk => omega); (case hk2 => omega); (case h0 => omega)); intro _ _)
  | ((refine' r_trunc_qs rfl ?hb ?hb2 ?hk ?hk2 ?_; (case hb => omega); (case hb2 => omega); (case hk => omega); (case hk2 => omega)); intro _ _ _)))
local macro_rules | `(tactic| walk_at "call type:int") => `(tactic| (k_here; (with_reducible show wpAny _ _ (call _ [Value.float (q4 _) _]) _ _ _); (refine' r_int_q rfl ?hx ?ha ?h0 ?_; (case hx => with_reducible exact rfl); (case ha => constructor <;> omega); (case h0 => omega)); intro _ _))
local macro_rules | `(tactic| walk_at "compareOp In int ref") => `(tactic| (k_here; (with_reducible show wpAny _ _ (compareOp CmpOp.In (Value.int _ _) (Value.ref _)) _ _ _); k_dflt (refine' r_in4 ?F ?X ?l ?i ?_; (case F => k_asm); (case X => k_asm); (case l => k_is); (case i => repeat constructor))))
local macro_rules | `(tactic| walk_at "eval Call") => `(tactic| (k_here; (with_reducible show wpAny _ _ (eval (Expr.Call (Expr.Name _ _) _ [] _) _) _ _ _); k_dflt (refine Call_ ?_)))
variable {w : World} {loose : List Str} {mean : ExcName → Option Value} {mg mb : Str → Option Value}
local macro_rules | `(tactic| walk_at "call ref") => `(tactic| (k_here; (with_reducible show wpAny _ _ (call (Value.ref 165) _) _ _ _); k_dflt (refine' r_use (c_jan _ _ ) ?k1 ?k2 ?k3 ?k4 ?k5 ?kK ?kd ?ku ?_; (case k1 => k_asm); (case k2 => k_asm); (case k3 => k_asm); (case k4 => k_asm); (case k5 => k_asm); (case kK => first | exact rfl | assumption); (case kd => ktr_room); (case ku => ktr_units)); intro t9 h9 tk9 F9 N9; (try dsimp only); (try k_fold)))
local macro_rules | `(tactic| walk_at "call ref") => `(tactic| (k_here; (with_reducible show wpAny _ _ (call (Value.ref 151) _) _ _ _); k_dflt (refine' r_use (c_long _ _ ) ?k1 ?k2 ?k3 ?k4 ?k5 ?kK ?kd ?ku ?_; (case k1 => k_asm); (case k2 => k_asm); (case k3 => k_asm); (case k4 => k_asm); (case k5 => k_asm); (case kK => first | exact rfl | assumption); (case kd => ktr_room); (case ku => ktr_units)); intro h9 tk9 F9 N9; (try dsimp only); (try k_fold)))
local macro_rules | `(tactic| walk_at "call ref") => `(tactic| (k_here; (with_reducible show wpAny _ _ (call (Value.ref 172) _) _ _ _); k_dflt (refine' r_use (c_sunday _ _ ) ?k1 ?k2 ?k3 ?k4 ?k5 ?kK ?kd ?ku ?_; (case k1 => k_asm); (case k2 => k_asm); (case k3 => k_asm); (case k4 => k_asm); (case k5 => k_asm); (case kK => first | exact rfl | assumption); (case kd => ktr_room); (case ku => ktr_units)); intro t9 h9 tk9 F9 N9; (try dsimp only); (try k_fold)))
local macro_rules | `(tactic| walk_at "call ref") => `(tactic| (k_here; (with_reducible show wpAny _ _ (call (Value.ref 144) _) _ _ _); k_dflt (refine' r_use (c_lgreg _ _ ) ?k1 ?k2 ?k3 ?k4 ?k5 ?kK ?kd ?ku ?_; (case k1 => k_asm); (case k2 => k_asm); (case k3 => k_asm); (case k4 => k_asm); (case k5 => k_asm); (case kK => first | exact rfl | assumption); (case kd => ktr_room); (case ku => ktr_units)); intro D9 s1 s2 s3 c9 h9 tk9 F9 N9 l9; (try simp only [AllLt, and_true] at l9); (try dsimp only); (try k_fold)))
theorem r_in8 {prog : Program} {w : World} {A : Around} {E : Value → Shared → Prop} {s : Shared} {Q : Value → Shared → Prop} {x : Int} {u : Tok} {t : Addr} {items : Array Value} (ht : IsTup s.heap t items) (hi : IntsAre items.toList [0, 3, 6, 9, 12, 15, 18, 21])
    (h : Q (.bool (decide (0 ≤ x ∧ x ≤ 21 ∧ x % 3 = 0))) s) : wpAny (model prog w) A (compareOp .In (.int x u) (.ref t)) Q E s := by
  refine in_tuple_ints ht hi ?_
  have e : ([0, 3, 6, 9, 12, 15, 18, 21].any (· == x)) = decide (0 ≤ x ∧ x ≤ 21 ∧ x % 3 = 0) := by
    refine Bool.eq_iff_iff.mpr ?_
    simp only [List.any_cons, List.any_nil, Bool.or_eq_true, beq_iff_eq, decide_eq_true_eq, Bool.or_false]
    omega
  rw [e]; exact h
local macro_rules | `(tactic| walk_at "compareOp In int ref") => `(tactic| (k_here; k_dflt (refine r_in8 (News.isTup (by assumption) (.head _)) (by repeat constructor) ?_)))
theorem ep_cut : ∀ r : Fin 25, (8 * (r.val : Int) + 157) / 25 = (8 * (r.val : Int) + 149) / 25 + (if r.val ≤ 21 ∧ r.val % 3 = 0 then 1 else 0) := by decide
theorem ep_q2 {H r : Int} (h : r = (H + 1 - 18) % 25) : (0 ≤ r ∧ r ≤ 21 ∧ r % 3 = 0 → (8 * (H + 1) + 13) / 25 = (8 * H + 13) / 25 + 1) ∧ (¬ (0 ≤ r ∧ r ≤ 21 ∧ r % 3 = 0) → (8 * (H + 1) + 13) / 25 = (8 * H + 13) / 25) := by
  have hr : 0 ≤ r ∧ r < 25 := by omega
  have hm : ∃ m, H + 1 - 18 = 25 * m + r := ⟨(H + 1 - 18) / 25, by omega⟩
  obtain ⟨m, hm⟩ := hm
  have e1 : (8 * (H + 1) + 13) / 25 = 8 * m + (8 * r + 157) / 25 := by omega
  have e2 : (8 * H + 13) / 25 = 8 * m + (8 * r + 149) / 25 := by omega
  have hc := ep_cut ⟨r.toNat, by omega⟩
  have e3 : ((r.toNat : Nat) : Int) = r := by omega
  simp only [e3] at hc
  rw [e1, e2, hc]
  constructor
  · intro q
    rw [if_pos (by omega)]; omega
  · intro q
    rw [if_neg (by omega)]; omega
theorem ep_q1 {l r : Int} (h : r = (17 + l) % 4) : (r ≠ 0 → (16 + (l + 1)) / 4 = (16 + l) / 4) ∧ (r = 0 → (16 + (l + 1)) / 4 = (16 + l) / 4 + 1) := by omega
theorem epact_st {L : Nat} {kN e0 e e' r4 r25 : Int} (kEq : kN = 17 + (L : Int)) (kInv : e = e0 - (16 + (L : Int) - (16 + (L : Int)) / 4 - 12) + ((8 * (16 + (L : Int)) + 13) / 25 - 5)) (h4 : r4 = kN % 4) (h25 : r25 = (kN - 18) % 25)
    (he : (r4 ≠ 0 ∧ (0 ≤ r25 ∧ r25 ≤ 21 ∧ r25 % 3 = 0) ∧ e' = e) ∨ (r4 ≠ 0 ∧ ¬ (0 ≤ r25 ∧ r25 ≤ 21 ∧ r25 % 3 = 0) ∧ e' = e - 1) ∨ (r4 = 0 ∧ (0 ≤ r25 ∧ r25 ≤ 21 ∧ r25 % 3 = 0) ∧ e' = e + 1) ∨ (r4 = 0 ∧ ¬ (0 ≤ r25 ∧ r25 ≤ 21 ∧ r25 % 3 = 0) ∧ e' = e)) :
    e' = e0 - (16 + ((L + (0 + 1) : Nat) : Int) - (16 + ((L + (0 + 1) : Nat) : Int)) / 4 - 12) + ((8 * (16 + ((L + (0 + 1) : Nat) : Int)) + 13) / 25 - 5) := by
  have e1 : ((L + (0 + 1) : Nat) : Int) = (L : Int) + 1 := by omega
  rw [e1]
  generalize (L : Int) = l at *
  have q2 := ep_q2 (H := 16 + l) (r := r25) (by rw [h25, kEq]; congr 1; omega)
  have q1 := ep_q1 (l := l) (r := r4) (by rw [h4, kEq])
  have e2 : 8 * (16 + (l + 1)) + 13 = 8 * (16 + l + 1) + 13 := by omega
  rw [e2]
  clear h4 h25 e1 e2 kEq
  generalize (8 * (16 + l + 1) + 13) / 25 = x1 at *
  generalize (8 * (16 + l) + 13) / 25 = x2 at *
  generalize (16 + (l + 1)) / 4 = x3 at *
  generalize (16 + l) / 4 = x4 at *
  rcases he with ⟨a, b, c⟩ | ⟨a, b, c⟩ | ⟨a, b, c⟩ | ⟨a, b, c⟩
  · have := q1.1 a; have := q2.1 b; omega
  · have := q1.1 a; have := q2.2 b; omega
  · have := q1.2 a; have := q2.1 b; omega
  · have := q1.2 a; have := q2.2 b; omega
local macro_rules | `(tactic| walk_at "execs cons") => `(tactic| (k_here; k_dflt (refine wpAny_execs_cons ?_); try dsimp only))
local macro_rules | `(tactic| walk_at "InvEndN") => `(tactic| (k_here; (rename News _ _ _ _ => nE'); k_dflt (refine' kst_end ⟨_, _⟩ ?F nE' ?hn ?ho ?ha ?hf ?hk ?hr ?hp; (case F => assumption); (case hn => (intro p hp; first | exact List.mem_append_left _ hp | exact List.Mem.tail _ (List.mem_append_left _ hp))); (case ho => (intro p hp; first | exact List.mem_append_right _ hp | exact List.Mem.tail _ (List.mem_append_right _ hp))); (case ha => rfl); (case hf => kst_facts); (case hk => kst_all); (case hr => kst_same); (case hp => (dsimp only; (simp only [List.length_append, List.length_cons, List.length_nil]); exact epact_st (by with_reducible assumption) (by with_reducible assumption) (by with_reducible assumption) (by with_reducible assumption) (by omega))))))
theorem west_ep {y g e r : Int} (hi : e = 1 + 11 * (g + 1 - 1) - (16 + ((rangeKs 17 (y.fdiv 100 + 1 - 17).toNat).length : Int) - (16 + ((rangeKs 17 (y.fdiv 100 + 1 - 17).toNat).length : Int)) / 4 - 12) + ((8 * (16 + ((rangeKs 17 (y.fdiv 100 + 1 - 17).toNat).length : Int)) + 13) / 25 - 5)) (hr : r = e % 30) (hg : g = y % 19) (h1 : 1583 ≤ y) : r = epact y := by
  rw [rangeKs_length, Int.fdiv_eq_ediv_of_nonneg _ (by decide)] at hi
  unfold epact
  rw [← hg, hr, hi]
  have hH : 15 ≤ y / 100 := by omega
  generalize y / 100 = H at *
  clear hi hr hg h1
  have : H = 15 ∨ 16 ≤ H := by omega
  rcases this with rfl | h
  · simp
  · have e1 : 16 + (((H + 1 - 17).toNat : Nat) : Int) = H := by omega
    rw [e1]; congr 1; omega
theorem gjd_march (y : Int) : gjd y 3 = gjd y 1 + 59 + lpI y := by
  have a := gjd_says y 3
  have b := gjd_year y
  omega
theorem west_arg {y g r X : Int} (hr : r = epact y) (hg : g = y % 19) (hX : ∀ e2, ((r = 24 ∨ (r = 25 ∧ 11 < g + 1)) → e2 = r + 1) → (¬ (r = 24 ∨ (r = 25 ∧ 11 < g + 1)) → e2 = r) → (44 - e2 < 21 ∧ X = gjd y 1 + 59 + lpI y + (74 - e2) - 1) ∨ (¬ 44 - e2 < 21 ∧ X = gjd y 1 + 59 + lpI y + (44 - e2) - 1)) : sun X = westN y := by
  have e4 : epact2 y = if epact y = 24 ∨ (epact y = 25 ∧ 11 < y % 19 + 1) then epact y + 1 else epact y := rfl
  rw [← hr, ← hg] at e4
  have := hX (epact2 y) (fun h => by rw [e4, if_pos h]) (fun h => by rw [e4, if_neg h])
  unfold westN pastI
  rw [gjd_march]
  congr 1
  rcases this with ⟨h, h2⟩ | ⟨h, h2⟩
  · rw [if_pos h]; omega
  · rw [if_neg h]; omega
theorem lg_tup {s : Shared} {Q : Value → Shared → Prop} {h₀ h' : Heap} {L D : Addr} {m : Str → Option Value} {news rest : List (Addr × Obj)} {tk' : Nat} {N M : Int} {t1 t2 t3 : Tok} {c : Nat} (hret : Ret3 (gDate M).1 (gDate M).2.1 (gDate M).2.2 h₀ L m news s Q) (F : Fr h₀ L h' m)
    (hN : News h₀ L h' ((D, ({ cls := .type "tuple", data := .seq #[.int (gDate N).1 t1, .int (gDate N).2.1 t2, .int (gDate N).2.2 t3] c } : Obj)) :: rest)) (hs : ∀ p ∈ news, p ∈ rest) (hl : AllLt D news) (e : N = M) : Q (.ref D) { s with heap := h', toks := tk' } := by
  subst e
  exact end3 hret rfl rfl rfl F ⟨hN, .head _⟩ (fun p hp => .tail _ (hs p hp)) hl
theorem c_western (y : Int) (t1 : Tok) (h1 : 1583 ≤ y) (h2 : y ≤ 59982) : Claim w loose mean mg mb 179 4 [.int y t1] (Ret3 (gDate (westN y)).1 (gDate (westN y)).2.1 (gDate (westN y)).2.2) := by
  unfold Claim
  k_fill
  intro dp un gd cn cs a ccd cl outer A₀ base h₀ L m news s Q E B F X N T hk hd hu hret
  k_with_none
  refine wpAny_call ?_
  k_dflt (refine' code_def ?k1 ?k2 ?k3 ?k4 ?k5 ?kA ?kF ?kK ?k6 ?k7 ?k8 ?k9 ?kB ?_ ?c2 ?c3 ?c4 ?c5; (case kA => exact rfl); (case kF => exact rfl); (case kK => first | exact rfl | assumption); (case k1 => k_asm); (case k2 => k_asm); (case k3 => k_asm); (case k4 => k_asm); (case k5 => k_asm); (case k6 => k_is); (case k7 => k_is); (case k8 => ktr_room); (case k9 => first | exact BindsTo.of_eq rfl | exact binds_K (by k_in) rfl (by k_is) rfl rfl rfl); (case c5 => decide); (case kB => exact locs rfl); (case c2 => exact rfl); (case c3 => exact rfl); (case c4 => exact rfl); k_whole; intro g' L' h' FG' F' N' B' X' T'; (try dsimp only); (try k_lift B'); (try k_fold))
  k_with "pyIter ref" => k_state_given ["epact!"] (fun e0 pre e => e = e0 - ((16 + pre.length) - (16 + pre.length) / 4 - 12) + ((8 * (16 + pre.length) + 13) / 25 - 5)) "epact"
  w_top off
  k_steps
  all_goals (
    have hlb := lpI_bound y
    have hep := west_ep (by with_reducible assumption) (by with_reducible assumption) (by with_reducible assumption) h1
    refine lg_tup hret (by k_asm) (by with_reducible assumption) (fun _ hp => .tail _ (.tail _ hp)) (And.right (And.right (by assumption))) ?_
    refine west_arg hep (by with_reducible assumption) fun e2 q1 q2 => ?_
    omega)
end Mine
end

section
local macro_rules | `(tactic| walk_at "pad0") => `(tactic| skip)
local macro_rules | `(tactic| walk_at "pad1") => `(tactic| skip)
local macro_rules | `(tactic| walk_at "pad2") => `(tactic| skip)
local macro_rules | `(tactic| walk_at "pad3") => `(tactic| skip)
local macro_rules | `(tactic| walk_at "pad4") => `(tactic| skip)
local macro_rules | `(tactic| walk_at "pad5") => `(tactic| skip)
local macro_rules | `(tactic| walk_at "pad6") => `(tactic| skip)
local macro_rules | `(tactic| walk_at "pad7") => `(tactic| skip)
local macro_rules | `(tactic| walk_at "pad8") => `(tactic| skip)
open PySem PySem.W PyProof.Rows
namespace Mine
set_option maxRecDepth 100000
set_option maxHeartbeats 40000000
local macro_rules | `(tactic| walk_at "call ref") => `(tactic| (k_here; k_dflt (refine wpAny_call ?_; (refine' code_def ?k1 ?k2 ?k3 ?k4 ?k5 ?kA ?kF ?kK ?k6 ?k7 ?k8 ?k9 ?kB ?_ ?c2 ?c3 ?c4 ?c5; (case kA => exact rfl); (case kF => exact rfl); (case kK => first | exact rfl | assumption); (case k1 => k_asm); (case k2 => k_asm); (case k3 => k_asm); (case k4 => k_asm); (case k5 => k_asm); (case k6 => k_is); (case k7 => k_is); (case k8 => ktr_room); (case k9 => first | exact BindsTo.of_eq rfl | exact binds_K (by k_in) rfl (by k_is) rfl rfl rfl); (case c5 => decide); (case kB => exact locs rfl); (case c2 => exact rfl); (case c3 => exact rfl); (case c4 => exact rfl); k_whole; intro g' L' h' FG' F' N' B' X' T'; (try dsimp only); (try k_lift B'); (try k_fold)))))
local macro_rules | `(tactic| walk_at "binaryOp Mod int int") => `(tactic| (k_here; (with_reducible show wpAny _ _ (binaryOp Operator.Mod (Value.int _ _) (Value.int _ _)) _ _ _); (refine' r_mod_ii ?hb ?_; (case hb => first | decide | omega)); intro _ _ _ _))
local macro_rules | `(tactic| walk_at "binaryOp Sub float float") => `(tactic| (k_here; (with_reducible show wpAny _ _ (binaryOp Operator.Sub (Value.float _ _) (Value.float _ _)) _ _ _); (refine' r_sub_ff ?hx ?hy ?ha ?hb ?hc ?_; (case hx => first | with_reducible exact rfl | exact k_epoch); (case hy => first | with_reducible exact rfl | exact k_half | exact k_epoch | exact k_1524); (case ha => constructor <;> omega); (case hb => constructor <;> omega); (case hc => constructor <;> omega))))
local macro_rules | `(tactic| walk_at "binaryOp Sub float int") => `(tactic| (k_here; (with_reducible show wpAny _ _ (binaryOp Operator.Sub (Value.float _ _) (Value.int _ _)) _ _ _); (refine' r_sub_fi ?hx ?ha ?hb ?hc ?_; (case hx => first | with_reducible exact rfl | exact k_epoch); (case ha => constructor <;> omega); (case hb => constructor <;> omega); (case hc => constructor <;> omega))))
local macro_rules | `(tactic| walk_at "binaryOp Sub int float") => `(tactic| (k_here; (with_reducible show wpAny _ _ (binaryOp Operator.Sub (Value.int _ _) (Value.float _ _)) _ _ _); (refine' r_sub_if ?hy ?ha ?hb ?hc ?_; (case hy => first | with_reducible exact rfl | exact k_epoch | exact k_1524); (case ha => constructor <;> omega); (case hb => constructor <;> omega); (case hc => constructor <;> omega))))
local macro_rules | `(tactic| walk_at "binaryOp Add float int") => `(tactic| (k_here; (with_reducible show wpAny _ _ (binaryOp Operator.Add (Value.float _ _) (Value.int _ _)) _ _ _); (refine' r_add_fi ?hx ?ha ?hb ?hc ?_; (case hx => first | with_reducible exact rfl | exact k_epoch); (case ha => constructor <;> omega); (case hb => constructor <;> omega); (case hc => constructor <;> omega))))
local macro_rules | `(tactic| walk_at "binaryOp Add int float") => `(tactic| (k_here; (with_reducible show wpAny _ _ (binaryOp Operator.Add (Value.int _ _) (Value.float _ _)) _ _ _); (refine' r_add_if ?hy ?ha ?hb ?hc ?_; (case hy => first | with_reducible exact rfl | exact k_half); (case ha => constructor <;> omega); (case hb => constructor <;> omega); (case hc => constructor <;> omega))))
local macro_rules | `(tactic| walk_at "binaryOp Mult float int") => `(tactic| (k_here; (with_reducible show wpAny _ _ (binaryOp Operator.Mult (Value.float _ _) (Value.int _ _)) _ _ _); first
  | (refine' r_mul_fc (a := 1461) k_36525 ?ha ?hb ?ha0 ?hc ?_; (case ha => constructor <;> omega); (case hb => constructor <;> omega); (case ha0 => decide); (case hc => constructor <;> omega))
  | (refine' r_mul_fi ?hx ?ha ?hb ?hb0 ?hc ?_; (case hx => with_reducible exact rfl); (case ha => constructor <;> omega); (case hb => constructor <;> omega); (case hb0 => omega); (case hc => constructor <;> omega))))
local macro_rules | `(tactic| walk_at "binaryOp Mod float int") => `(tactic| (k_here; (with_reducible show wpAny _ _ (binaryOp Operator.Mod (Value.float _ _) (Value.int _ _)) _ _ _); (refine' r_mod_fi rfl ?hx ?hm ?ha ?hb ?hb0 ?_; (case hx => with_reducible exact rfl); (case hm => omega); (case ha => constructor <;> omega); (case hb => constructor <;> omega); (case hb0 => omega)); intro _ _ _ _))
local macro_rules | `(tactic| walk_at "binaryOp Div float int") => `(tactic| (k_here; (with_reducible show wpAny _ _ (binaryOp Operator.Div (Value.float (q4 _) _) (Value.int _ _)) _ _ _); (refine' r_div_fi rfl ?hx ?hb ?hb0 ?_; (case hx => with_reducible exact rfl); (case hb => constructor <;> omega); (case hb0 => omega))))
local macro_rules | `(tactic| walk_at "binaryOp Div int int") => `(tactic| (k_here; (with_reducible show wpAny _ _ (binaryOp Operator.Div (Value.int _ _) (Value.int _ _)) _ _ _); (refine' r_div_ii rfl ?hb ?ha ?_; (case hb => omega); (case ha => omega))))
local macro_rules | `(tactic| walk_at "compareOp Lt float int") => `(tactic| (k_here; (with_reducible show wpAny _ _ (compareOp CmpOp.Lt (Value.float (q4 _) _) (Value.int _ _)) _ _ _); (refine' r_lt_fi ?hx ?ha ?_; (case hx => with_reducible exact rfl); (case ha => constructor <;> omega))))
local macro_rules | `(tactic| walk_at "call builtin:math.floor") => `(tactic| (k_here; first
  | ((with_reducible show wpAny _ _ (call _ [Value.float (q4 _) _]) _ _ _); (refine' r_floor_q rfl ?hx ?ha ?_; (case hx => with_reducible exact rfl); (case ha => constructor <;> omega)); intro _ _)
  | ((with_reducible show wpAny _ _ (call _ [Value.float (qd _ _) _]) _ _ _); (refine' r_floor_qd rfl ?hb ?hb2 ?hk ?hk2 ?_; (case hb => omega); (case hb2 => omega); (case hk => omega); (case hk2 => omega)); intro _ _)
  | ((with_reducible show wpAny _ _ (call _ [Value.float (Float64.div (q4 _) (Float64.ofInt _)) _]) _ _ _); (refine' r_floor_div rfl ?hm ?ha ?hb ?hb2 ?hk ?hk2 ?_; (case hm => omega); (case ha => constructor <;> omega); (case hb => omega); (case hb2 => omega); (case hk => omega); (case hk2 => omega)); intro _ _)))
local macro_rules | `(tactic| walk_at "call builtin:math.trunc") => `(tactic| (k_here; (with_reducible show wpAny _ _ (call _ [Value.float (qd _ _) _]) _ _ _); first
  | ((refine' r_trunc_qd rfl ?hb ?hb2 ?hk ?hk2 ?h0 ?_; (case hb => omega); (case hb2 => omega); (case hk => omega); (case hk2 => omega); (case h0 => omega)); intro _ _)
  | ((refine' r_trunc_qs rfl ?hb ?hb2 ?hk ?hk2 ?_; (case hb => omega); (case hb2 => omega); (case hk => omega); (case hk2 => omega)); intro _ _ _)))
local macro_rules | `(tactic| walk_at "call type:int") => `(tactic| (k_here; (with_reducible show wpAny _ _ (call _ [Value.float (q4 _) _]) _ _ _); (refine' r_int_q rfl ?hx ?ha ?h0 ?_; (case hx => with_reducible exact rfl); (case ha => constructor <;> omega); (case h0 => omega)); intro _ _))
local macro_rules | `(tactic| walk_at "compareOp In int ref") => `(tactic| (k_here; (with_reducible show wpAny _ _ (compareOp CmpOp.In (Value.int _ _) (Value.ref _)) _ _ _); k_dflt (refine' r_in4 ?F ?X ?l ?i ?_; (case F => k_asm); (case X => k_asm); (case l => k_is); (case i => repeat constructor))))
local macro_rules | `(tactic| walk_at "eval Call") => `(tactic| (k_here; (with_reducible show wpAny _ _ (eval (Expr.Call (Expr.Name _ _) _ [] _) _) _ _ _); k_dflt (refine Call_ ?_)))
variable {w : World} {loose : List Str} {mean : ExcName → Option Value} {mg mb : Str → Option Value}
local macro_rules | `(tactic| walk_at "call ref") => `(tactic| (k_here; (with_reducible show wpAny _ _ (call (Value.ref 186) _) _ _ _); k_dflt (refine' r_use (c_march _ _ ) ?k1 ?k2 ?k3 ?k4 ?k5 ?kK ?kd ?ku ?_; (case k1 => k_asm); (case k2 => k_asm); (case k3 => k_asm); (case k4 => k_asm); (case k5 => k_asm); (case kK => first | exact rfl | assumption); (case kd => ktr_room); (case ku => ktr_units)); intro t9 h9 tk9 F9 N9; (try dsimp only); (try k_fold)))
local macro_rules | `(tactic| walk_at "call ref") => `(tactic| (k_here; (with_reducible show wpAny _ _ (call (Value.ref 193) _) _ _ _); k_dflt (refine' r_use (c_moon _ _ ) ?k1 ?k2 ?k3 ?k4 ?k5 ?kK ?kd ?ku ?_; (case k1 => k_asm); (case k2 => k_asm); (case k3 => k_asm); (case k4 => k_asm); (case k5 => k_asm); (case kK => first | exact rfl | assumption); (case kd => ktr_room); (case ku => ktr_units)); intro t9 h9 tk9 F9 N9; (try dsimp only); (try k_fold)))
local macro_rules | `(tactic| walk_at "call ref") => `(tactic| (k_here; (with_reducible show wpAny _ _ (call (Value.ref 172) _) _ _ _); k_dflt (refine' r_use (c_sunday _ _ ) ?k1 ?k2 ?k3 ?k4 ?k5 ?kK ?kd ?ku ?_; (case k1 => k_asm); (case k2 => k_asm); (case k3 => k_asm); (case k4 => k_asm); (case k5 => k_asm); (case kK => first | exact rfl | assumption); (case kd => ktr_room); (case ku => ktr_units)); intro t9 h9 tk9 F9 N9; (try dsimp only); (try k_fold)))
local macro_rules | `(tactic| walk_at "call ref") => `(tactic| (k_here; (with_reducible show wpAny _ _ (call (Value.ref 144) _) _ _ _); k_dflt (refine' r_use (c_lgreg _ _ ) ?k1 ?k2 ?k3 ?k4 ?k5 ?kK ?kd ?ku ?_; (case k1 => k_asm); (case k2 => k_asm); (case k3 => k_asm); (case k4 => k_asm); (case k5 => k_asm); (case kK => first | exact rfl | assumption); (case kd => ktr_room); (case ku => ktr_units)); intro D9 s1 s2 s3 c9 h9 tk9 F9 N9 l9; (try simp only [AllLt, and_true] at l9); (try dsimp only); (try k_fold)))
local macro_rules | `(tactic| walk_at "execs cons") => `(tactic| (k_here; k_dflt (refine wpAny_execs_cons ?_); try dsimp only))
theorem c_old (y l : Int) (t1 t2 : Tok) : Claim w loose mean mg mb 200 4 [.int y t1, .int l t2] (Ret3 (gDate (oldN y l)).1 (gDate (oldN y l)).2.1 (gDate (oldN y l)).2.2) := by
  unfold Claim
  k_fill
  intro dp un gd cn cs a ccd cl outer A₀ base h₀ L m news s Q E B F X N T hk hd hu hret
  k_with_none
  refine wpAny_call ?_
  k_dflt (refine' code_def ?k1 ?k2 ?k3 ?k4 ?k5 ?kA ?kF ?kK ?k6 ?k7 ?k8 ?k9 ?kB ?_ ?c2 ?c3 ?c4 ?c5; (case kA => exact rfl); (case kF => exact rfl); (case kK => first | exact rfl | assumption); (case k1 => k_asm); (case k2 => k_asm); (case k3 => k_asm); (case k4 => k_asm); (case k5 => k_asm); (case k6 => k_is); (case k7 => k_is); (case k8 => ktr_room); (case k9 => first | exact BindsTo.of_eq rfl | exact binds_K (by k_in) rfl (by k_is) rfl rfl rfl); (case c5 => decide); (case kB => exact locs rfl); (case c2 => exact rfl); (case c3 => exact rfl); (case c4 => exact rfl); k_whole; intro g' L' h' FG' F' N' B' X' T'; (try dsimp only); (try k_lift B'); (try k_fold))
  w_top off
  k_steps
  all_goals (refine lg_tup hret (by k_asm) (by with_reducible assumption) (fun _ hp => hp) (by first | with_reducible assumption | exact allLt_of (by assumption)) ?_; rfl)
end Mine
end

section
local macro_rules | `(tactic| walk_at "pad0") => `(tactic| skip)
open PySem PySem.W PyProof.Rows
namespace Mine
set_option maxRecDepth 100000
set_option maxHeartbeats 40000000
/-- what a call of _law_refused from the law's own frame tells -/
abbrev ClaimR (w : World) (loose : List Str) (mean : ExcName → Option Value) (mg mb : Str → Option Value) (vs : List Value) : Prop :=
  ∀ (cn : Str) (cs : Scope) (a : Addr) (ccd : Value) (h₀ : Heap) (L : Addr) (m : Str → Option Value) (news : List (Addr × Obj)) (s : Shared) (Q E : Value → Shared → Prop),
    Below callerA h₀ [] h₀ → Fr h₀ L s.heap m → (hd.heap_39 w.params).In h₀ → News h₀ L s.heap news → Top hd.view_39 loose mean mg mb h₀ → cs.kind = .function → RetB true h₀ L m news s Q →
      wpAny (model PySem.Challenge.rw_ad5040_01.row.prog w) (callerA.deeper (envOf cn cs L a ccd)) (call (.ref 207) vs) Q E s
variable {w : World} {loose : List Str} {mean : ExcName → Option Value} {mg mb : Str → Option Value}
theorem c_ref1 (y : Int) (t1 t2 : Tok) : ClaimR w loose mean mg mb [.int y t1, .str (Str.ofString "Western") t2] := by
  unfold ClaimR
  k_fill
  intro cn cs a ccd h₀ L m news s Q E B F X N T hk hret
  k_with_none
  refine wpAny_call ?_
  k_dflt (refine' code_defS0 ?k1 ?k2 ?k3 ?k4 ?k5 ?kA ?k6 ?k7 ?k8 ?k9 ?kB ?_ ?cK ?c2 ?c3 ?c4 ?c5; (case kA => exact rfl); (case k2 => k_asm); (case k1 => k_asm); (case k3 => k_asm); (case k4 => k_asm); (case k5 => k_asm); (case k6 => k_is); (case k7 => k_is); (case k8 => k_room); (case k9 => first | exact binds_K (by k_in) rfl (by k_is) rfl rfl rfl | exact BindsTo.of_eq rfl); (case kB => exact locs rfl); (case cK => assumption); (case c2 => exact rfl); (case c3 => exact rfl); (case c4 => exact rfl); (case c5 => decide); k_whole; intro g' L' h' FG' F' N' B' X' T' D'; (try dsimp only); (try k_lift B'); (try k_fold))
  w_top off
  k_steps
  all_goals exact endB hret rfl (by k_asm) (by assumption) (fun _ hp => hp)
theorem c_ref2 (y : Int) (t1 t2 : Tok) : ClaimR w loose mean mg mb [.int y t1, .str (Str.ofString "julian") t2] := by
  unfold ClaimR
  k_fill
  intro cn cs a ccd h₀ L m news s Q E B F X N T hk hret
  k_with_none
  refine wpAny_call ?_
  k_dflt (refine' code_defS0 ?k1 ?k2 ?k3 ?k4 ?k5 ?kA ?k6 ?k7 ?k8 ?k9 ?kB ?_ ?cK ?c2 ?c3 ?c4 ?c5; (case kA => exact rfl); (case k2 => k_asm); (case k1 => k_asm); (case k3 => k_asm); (case k4 => k_asm); (case k5 => k_asm); (case k6 => k_is); (case k7 => k_is); (case k8 => k_room); (case k9 => first | exact binds_K (by k_in) rfl (by k_is) rfl rfl rfl | exact BindsTo.of_eq rfl); (case kB => exact locs rfl); (case cK => assumption); (case c2 => exact rfl); (case c3 => exact rfl); (case c4 => exact rfl); (case c5 => decide); k_whole; intro g' L' h' FG' F' N' B' X' T' D'; (try dsimp only); (try k_lift B'); (try k_fold))
  w_top off
  k_steps
  all_goals exact endB hret rfl (by k_asm) (by assumption) (fun _ hp => hp)
theorem c_ref3 (y : Int) (t1 t2 : Tok) : ClaimR w loose mean mg mb [.int y t1, .str (Str.ofString "x") t2] := by
  unfold ClaimR
  k_fill
  intro cn cs a ccd h₀ L m news s Q E B F X N T hk hret
  k_with_none
  refine wpAny_call ?_
  k_dflt (refine' code_defS0 ?k1 ?k2 ?k3 ?k4 ?k5 ?kA ?k6 ?k7 ?k8 ?k9 ?kB ?_ ?cK ?c2 ?c3 ?c4 ?c5; (case kA => exact rfl); (case k2 => k_asm); (case k1 => k_asm); (case k3 => k_asm); (case k4 => k_asm); (case k5 => k_asm); (case k6 => k_is); (case k7 => k_is); (case k8 => k_room); (case k9 => first | exact binds_K (by k_in) rfl (by k_is) rfl rfl rfl | exact BindsTo.of_eq rfl); (case kB => exact locs rfl); (case cK => assumption); (case c2 => exact rfl); (case c3 => exact rfl); (case c4 => exact rfl); (case c5 => decide); k_whole; intro g' L' h' FG' F' N' B' X' T' D'; (try dsimp only); (try k_lift B'); (try k_fold))
  w_top off
  k_steps
  all_goals exact endB hret rfl (by k_asm) (by assumption) (fun _ hp => hp)
theorem c_ref4 (y : Int) (t1 t2 : Tok) : ClaimR w loose mean mg mb [.int y t1, .str (Str.ofString "orthodox ") t2] := by
  unfold ClaimR
  k_fill
  intro cn cs a ccd h₀ L m news s Q E B F X N T hk hret
  k_with_none
  refine wpAny_call ?_
  k_dflt (refine' code_defS0 ?k1 ?k2 ?k3 ?k4 ?k5 ?kA ?k6 ?k7 ?k8 ?k9 ?kB ?_ ?cK ?c2 ?c3 ?c4 ?c5; (case kA => exact rfl); (case k2 => k_asm); (case k1 => k_asm); (case k3 => k_asm); (case k4 => k_asm); (case k5 => k_asm); (case k6 => k_is); (case k7 => k_is); (case k8 => k_room); (case k9 => first | exact binds_K (by k_in) rfl (by k_is) rfl rfl rfl | exact BindsTo.of_eq rfl); (case kB => exact locs rfl); (case cK => assumption); (case c2 => exact rfl); (case c3 => exact rfl); (case c4 => exact rfl); (case c5 => decide); k_whole; intro g' L' h' FG' F' N' B' X' T' D'; (try dsimp only); (try k_lift B'); (try k_fold))
  w_top off
  k_steps
  all_goals exact endB hret rfl (by k_asm) (by assumption) (fun _ hp => hp)
theorem c_ref5 (y : Int) (t1 t2 : Tok) : ClaimR w loose mean mg mb [.int y t1, .str (Str.ofString "Eastern") t2] := by
  unfold ClaimR
  k_fill
  intro cn cs a ccd h₀ L m news s Q E B F X N T hk hret
  k_with_none
  refine wpAny_call ?_
  k_dflt (refine' code_defS0 ?k1 ?k2 ?k3 ?k4 ?k5 ?kA ?k6 ?k7 ?k8 ?k9 ?kB ?_ ?cK ?c2 ?c3 ?c4 ?c5; (case kA => exact rfl); (case k2 => k_asm); (case k1 => k_asm); (case k3 => k_asm); (case k4 => k_asm); (case k5 => k_asm); (case k6 => k_is); (case k7 => k_is); (case k8 => k_room); (case k9 => first | exact binds_K (by k_in) rfl (by k_is) rfl rfl rfl | exact BindsTo.of_eq rfl); (case kB => exact locs rfl); (case cK => assumption); (case c2 => exact rfl); (case c3 => exact rfl); (case c4 => exact rfl); (case c5 => decide); k_whole; intro g' L' h' FG' F' N' B' X' T' D'; (try dsimp only); (try k_lift B'); (try k_fold))
  w_top off
  k_steps
  all_goals exact endB hret rfl (by k_asm) (by assumption) (fun _ hp => hp)
theorem c_ref6 (y : Int) (t1 t2 : Tok) : ClaimR w loose mean mg mb [.int y t1, .str (Str.ofString "Orthodox") t2] := by
  unfold ClaimR
  k_fill
  intro cn cs a ccd h₀ L m news s Q E B F X N T hk hret
  k_with_none
  refine wpAny_call ?_
  k_dflt (refine' code_defS0 ?k1 ?k2 ?k3 ?k4 ?k5 ?kA ?k6 ?k7 ?k8 ?k9 ?kB ?_ ?cK ?c2 ?c3 ?c4 ?c5; (case kA => exact rfl); (case k2 => k_asm); (case k1 => k_asm); (case k3 => k_asm); (case k4 => k_asm); (case k5 => k_asm); (case k6 => k_is); (case k7 => k_is); (case k8 => k_room); (case k9 => first | exact binds_K (by k_in) rfl (by k_is) rfl rfl rfl | exact BindsTo.of_eq rfl); (case kB => exact locs rfl); (case cK => assumption); (case c2 => exact rfl); (case c3 => exact rfl); (case c4 => exact rfl); (case c5 => decide); k_whole; intro g' L' h' FG' F' N' B' X' T' D'; (try dsimp only); (try k_lift B'); (try k_fold))
  w_top off
  k_steps
  all_goals exact endB hret rfl (by k_asm) (by assumption) (fun _ hp => hp)
end Mine
end

section
open PySem PySem.W PyProof.Rows
namespace Mine
set_option maxRecDepth 100000
set_option maxHeartbeats 40000000
variable {w : World} {loose : List Str} {mean : ExcName → Option Value} {mg mb : Str → Option Value}
theorem fm_lo (x : Int) : 1583 ≤ 1583 + x.fmod 58400 := by rw [Int.fmod_eq_emod_of_nonneg _ (by decide)]; omega
theorem fm_hi (x : Int) : 1583 + x.fmod 58400 ≤ 59982 := by rw [Int.fmod_eq_emod_of_nonneg _ (by decide)]; omega
theorem fm2_lo (x : Int) : -200000 ≤ x.fmod 1000000000 := by rw [Int.fmod_eq_emod_of_nonneg _ (by decide)]; omega
theorem fm2_hi (x : Int) : x.fmod 1000000000 ≤ 1000000000 := by rw [Int.fmod_eq_emod_of_nonneg _ (by decide)]; omega
theorem r_useR {w : World} {loose : List Str} {mean : ExcName → Option Value} {mg mb : Str → Option Value} {vs : List Value} (C : ClaimR w loose mean mg mb vs)
    {cn : Str} {cs : Scope} {a : Addr} {ccd : Value} {h₀ : Heap} {L : Addr} {m : Str → Option Value} {news : List (Addr × Obj)} {s : Shared} {Q E : Value → Shared → Prop}
    (B : Below callerA h₀ [] h₀) (F : Fr h₀ L s.heap m) (X : (hd.heap_39 w.params).In h₀) (N : News h₀ L s.heap news) (T : Top hd.view_39 loose mean mg mb h₀) (hk : cs.kind = .function) (hr : RetB true h₀ L m news s Q) :
    wpAny (model PySem.Challenge.rw_ad5040_01.row.prog w) (callerA.deeper (envOf cn cs L a ccd)) (call (.ref 207) vs) Q E s :=
  C _ _ _ _ _ _ _ _ _ _ _ B F X N T hk hr
def JoinI (P : Int → Prop) (s : Shared) (v : Value) (s' : Shared) : Prop := ∃ V t tk, v = .int V t ∧ P V ∧ s' = { s with toks := tk }
theorem join_i {M : Model} {A : Around} {t : Sem Value} {Q E : Value → Shared → Prop} {s : Shared} (P : Int → Prop) (h1 : wpAny M A t (JoinI P s) E s) (h2 : ∀ V t tk, P V → Q (.int V t) { s with toks := tk }) : wpAny M A t Q E s :=
  wpAny_mono h1 (fun v s' h => by obtain ⟨V, t, tk, rfl, hP, rfl⟩ := h; exact h2 V t tk hP) fun _ _ x => x
theorem join_end {P : Int → Prop} {s : Shared} {V : Int} {t : Tok} {tk : Nat} (h : P V) : JoinI P s (.int V t) { s with toks := tk } := ⟨V, t, tk, rfl, h, rfl⟩
def YearIs (_ : Int) : Prop := True
theorem join_l {M : Model} {A : Around} {t : Sem Value} {Q E : Value → Shared → Prop} {s : Shared} {y : Int} (_ : YearIs y) (h1 : wpAny M A t (JoinI (fun V => V = if y % 19 = 0 then 1 else 0) s) E s) (h2 : ∀ t tk, Q (.int (if y % 19 = 0 then 1 else 0) t) { s with toks := tk }) : wpAny M A t Q E s :=
  join_i _ h1 (fun V t tk h => by subst h; exact h2 t tk)
theorem yl_p {y : Int} (h : y.fmod 19 = 0) : (1 : Int) = if y % 19 = 0 then 1 else 0 := by
  rw [Int.fmod_eq_emod_of_nonneg _ (by decide)] at h; rw [if_pos h]
theorem yl_n {y : Int} (h : y.fmod 19 ≠ 0) : (0 : Int) = if y % 19 = 0 then 1 else 0 := by
  rw [Int.fmod_eq_emod_of_nonneg _ (by decide)] at h; rw [if_neg h]
theorem y1_a {x : Int} (h0 : 0 ≤ x) (h1 : x < 20000) : 0 ≤ x ∧ x ≤ 58399 := by omega
theorem y1_b (x : Int) : 0 ≤ x.fmod 58400 ∧ x.fmod 58400 ≤ 58399 := by rw [Int.fmod_eq_emod_of_nonneg _ (by decide)]; omega
theorem y2_a {x : Int} (h0 : -100000 < x) (h1 : x < 100000) : YearIs (2000 + x) ∧ -200000 ≤ 2000 + x ∧ 2000 + x ≤ 1000000000 := ⟨True.intro, by omega, by omega⟩
theorem y2_c (x : Int) : YearIs (x.fmod (10 ^ Int.toNat 9)) ∧ -200000 ≤ x.fmod (10 ^ Int.toNat 9) ∧ x.fmod (10 ^ Int.toNat 9) ≤ 1000000000 := by
  have e : (10 : Int) ^ Int.toNat 9 = 1000000000 := by decide
  rw [e, Int.fmod_eq_emod_of_nonneg _ (by decide)]; exact ⟨True.intro, by omega, by omega⟩
theorem y2_b (x : Int) : YearIs (x.fmod 1000000000) ∧ -200000 ≤ x.fmod 1000000000 ∧ x.fmod 1000000000 ≤ 1000000000 := by rw [Int.fmod_eq_emod_of_nonneg _ (by decide)]; exact ⟨True.intro, by omega, by omega⟩
local macro_rules | `(tactic| walk_at "eval IfExp") => `(tactic| (k_here; (fail_if_success (with_reducible show wpAny _ _ _ (JoinI _ _) _ _)); (with_reducible show wpAny _ _ (eval (Expr.IfExp _ _ (Expr.BinOp _ Operator.Mod (Expr.Constant (Const.int 58400) _ _) _) _) _) _ _ _); k_dflt (refine' join_i (fun V => 0 ≤ V ∧ V ≤ 58399) ?kw ?_; (case kw => ((repeat' (first | walk1 | (dsimp only; walk1))); (all_goals ((try dsimp only); refine join_end ?_; (try dsimp only); with_reducible first | exact y1_b _ | exact y1_a (by assumption) (by assumption))))); intro V9 t9 tk9 hV9; obtain ⟨hl9, hu9⟩ := hV9)))
local macro_rules | `(tactic| walk_at "eval IfExp") => `(tactic| (k_here; (fail_if_success (with_reducible show wpAny _ _ _ (JoinI _ _) _ _)); (with_reducible show wpAny _ _ (eval (Expr.IfExp _ (Expr.BinOp (Expr.Constant (Const.int 2000) _ _) _ _ _) _ _) _) _ _ _); k_dflt (refine' join_i (fun V => YearIs V ∧ -200000 ≤ V ∧ V ≤ 1000000000) ?kw ?_; (case kw => ((repeat' (first | walk1 | (dsimp only; walk1))); (all_goals ((try dsimp only); refine join_end ?_; (try dsimp only); with_reducible first | exact y2_c _ | exact y2_b _ | exact y2_a (by assumption) (by assumption))))); intro V9 t9 tk9 hV9; obtain ⟨hY9, hl9, hu9⟩ := hV9)))
local macro_rules | `(tactic| walk_at "eval IfExp") => `(tactic| (k_here; (fail_if_success (with_reducible show wpAny _ _ _ (JoinI _ _) _ _)); (with_reducible show wpAny _ _ (eval (Expr.IfExp _ (Expr.Constant (Const.int 1) _ _) (Expr.Constant (Const.int 0) _ _) _) _) _ _ _); k_dflt (refine' join_l (by with_reducible assumption) ?kw ?_; (case kw => ((repeat' (first | walk1 | (dsimp only; walk1))); (all_goals ((try dsimp only); refine join_end ?_; (try dsimp only); with_reducible first | exact yl_p (by assumption) | exact yl_n (by assumption))))); intro t9 tk9)))
local macro_rules | `(tactic| walk_at "call ref") => `(tactic| (k_here; (with_reducible show wpAny _ _ (call (Value.ref 179) _) _ _ _); k_dflt (refine' r_use (c_western _ _ ?p0 ?p1) ?k1 ?k2 ?k3 ?k4 ?k5 ?kK ?kd ?ku ?_; (case k1 => k_asm); (case k2 => k_asm); (case k3 => k_asm); (case k4 => k_asm); (case k5 => k_asm); (case p0 => omega); (case p1 => omega); (case kK => first | exact rfl | assumption); (case kd => ktr_room); (case ku => ktr_units)); intro D9 s1 s2 s3 c9 h9 tk9 F9 N9 l9; (try simp only [AllLt, and_true] at l9); (try dsimp only); (try k_fold)))
local macro_rules | `(tactic| walk_at "call ref") => `(tactic| (k_here; (with_reducible show wpAny _ _ (call (Value.ref 200) _) _ _ _); k_dflt (refine' r_use (c_old _ _ _ _ ) ?k1 ?k2 ?k3 ?k4 ?k5 ?kK ?kd ?ku ?_; (case k1 => k_asm); (case k2 => k_asm); (case k3 => k_asm); (case k4 => k_asm); (case k5 => k_asm); (case kK => first | exact rfl | assumption); (case kd => ktr_room); (case ku => ktr_units)); intro D9 s1 s2 s3 c9 h9 tk9 F9 N9 l9; (try simp only [AllLt, and_true] at l9); (try dsimp only); (try k_fold)))
local macro_rules | `(tactic| walk_at "call ref") => `(tactic| (k_here; (with_reducible show wpAny _ _ (call (Value.ref 115) [Value.int _ _]) _ _ _); k_dflt (refine' r_use (c_west0 _ _ ?p0 ?p1) ?k1 ?k2 ?k3 ?k4 ?k5 ?kK ?kd ?ku ?_; (case k1 => k_asm); (case k2 => k_asm); (case k3 => k_asm); (case k4 => k_asm); (case k5 => k_asm); (case p0 => omega); (case p1 => omega); (case kK => first | exact rfl | assumption); (case kd => ktr_room); (case ku => ktr_units)); intro D9 s1 s2 s3 c9 h9 tk9 F9 N9 l9; (try simp only [AllLt, and_true] at l9); (try dsimp only); (try k_fold)))
local macro_rules | `(tactic| walk_at "call ref") => `(tactic| (k_here; (with_reducible show wpAny _ _ (call (Value.ref 115) [Value.int _ _, Value.str (Str.ofString "western") _]) _ _ _); k_dflt (refine' r_use (c_west1 _ _ _ ?p0 ?p1) ?k1 ?k2 ?k3 ?k4 ?k5 ?kK ?kd ?ku ?_; (case k1 => k_asm); (case k2 => k_asm); (case k3 => k_asm); (case k4 => k_asm); (case k5 => k_asm); (case p0 => omega); (case p1 => omega); (case kK => first | exact rfl | assumption); (case kd => ktr_room); (case ku => ktr_units)); intro D9 s1 s2 s3 c9 h9 tk9 F9 N9 l9; (try simp only [AllLt, and_true] at l9); (try dsimp only); (try k_fold)))
local macro_rules | `(tactic| walk_at "call ref") => `(tactic| (k_here; (with_reducible show wpAny _ _ (call (Value.ref 115) [Value.int _ _, Value.str (Str.ofString "orthodox") _]) _ _ _); k_dflt (refine' r_use (c_orth _ _ _ ?p0 ?p1) ?k1 ?k2 ?k3 ?k4 ?k5 ?kK ?kd ?ku ?_; (case k1 => k_asm); (case k2 => k_asm); (case k3 => k_asm); (case k4 => k_asm); (case k5 => k_asm); (case p0 => omega); (case p1 => omega); (case kK => first | exact rfl | assumption); (case kd => ktr_room); (case ku => ktr_units)); intro D9 s1 s2 s3 c9 h9 tk9 F9 N9 l9; (try simp only [AllLt, and_true] at l9); (try dsimp only); (try k_fold)))
local macro_rules | `(tactic| walk_at "call ref") => `(tactic| (k_here; (with_reducible show wpAny _ _ (call (Value.ref 115) [Value.int _ _, Value.str (Str.ofString "eastern") _]) _ _ _); k_dflt (refine' r_use (c_east _ _ _ ?p0 ?p1) ?k1 ?k2 ?k3 ?k4 ?k5 ?kK ?kd ?ku ?_; (case k1 => k_asm); (case k2 => k_asm); (case k3 => k_asm); (case k4 => k_asm); (case k5 => k_asm); (case p0 => omega); (case p1 => omega); (case kK => first | exact rfl | assumption); (case kd => ktr_room); (case ku => ktr_units)); intro D9 s1 s2 s3 c9 h9 tk9 F9 N9 l9; (try simp only [AllLt, and_true] at l9); (try dsimp only); (try k_fold)))
local macro_rules | `(tactic| walk_at "call ref") => `(tactic| (k_here; (with_reducible show wpAny _ _ (call (Value.ref 207) [Value.int _ _, Value.str (Str.ofString "Western") _]) _ _ _); k_dflt (refine' r_useR (c_ref1 _ _ _) ?k1 ?k2 ?k3 ?k4 ?k5 ?kK ?_; (case k1 => k_asm); (case k2 => k_asm); (case k3 => k_asm); (case k4 => k_asm); (case k5 => k_asm); (case kK => first | exact rfl | assumption)); intro h9 tk9 F9 N9; (try dsimp only); (try k_fold)))
local macro_rules | `(tactic| walk_at "call ref") => `(tactic| (k_here; (with_reducible show wpAny _ _ (call (Value.ref 207) [Value.int _ _, Value.str (Str.ofString "julian") _]) _ _ _); k_dflt (refine' r_useR (c_ref2 _ _ _) ?k1 ?k2 ?k3 ?k4 ?k5 ?kK ?_; (case k1 => k_asm); (case k2 => k_asm); (case k3 => k_asm); (case k4 => k_asm); (case k5 => k_asm); (case kK => first | exact rfl | assumption)); intro h9 tk9 F9 N9; (try dsimp only); (try k_fold)))
local macro_rules | `(tactic| walk_at "call ref") => `(tactic| (k_here; (with_reducible show wpAny _ _ (call (Value.ref 207) [Value.int _ _, Value.str (Str.ofString "x") _]) _ _ _); k_dflt (refine' r_useR (c_ref3 _ _ _) ?k1 ?k2 ?k3 ?k4 ?k5 ?kK ?_; (case k1 => k_asm); (case k2 => k_asm); (case k3 => k_asm); (case k4 => k_asm); (case k5 => k_asm); (case kK => first | exact rfl | assumption)); intro h9 tk9 F9 N9; (try dsimp only); (try k_fold)))
local macro_rules | `(tactic| walk_at "call ref") => `(tactic| (k_here; (with_reducible show wpAny _ _ (call (Value.ref 207) [Value.int _ _, Value.str (Str.ofString "orthodox ") _]) _ _ _); k_dflt (refine' r_useR (c_ref4 _ _ _) ?k1 ?k2 ?k3 ?k4 ?k5 ?kK ?_; (case k1 => k_asm); (case k2 => k_asm); (case k3 => k_asm); (case k4 => k_asm); (case k5 => k_asm); (case kK => first | exact rfl | assumption)); intro h9 tk9 F9 N9; (try dsimp only); (try k_fold)))
local macro_rules | `(tactic| walk_at "call ref") => `(tactic| (k_here; (with_reducible show wpAny _ _ (call (Value.ref 207) [Value.int _ _, Value.str (Str.ofString "Eastern") _]) _ _ _); k_dflt (refine' r_useR (c_ref5 _ _ _) ?k1 ?k2 ?k3 ?k4 ?k5 ?kK ?_; (case k1 => k_asm); (case k2 => k_asm); (case k3 => k_asm); (case k4 => k_asm); (case k5 => k_asm); (case kK => first | exact rfl | assumption)); intro h9 tk9 F9 N9; (try dsimp only); (try k_fold)))
local macro_rules | `(tactic| walk_at "call ref") => `(tactic| (k_here; (with_reducible show wpAny _ _ (call (Value.ref 207) [Value.int _ _, Value.str (Str.ofString "Orthodox") _]) _ _ _); k_dflt (refine' r_useR (c_ref6 _ _ _) ?k1 ?k2 ?k3 ?k4 ?k5 ?kK ?_; (case k1 => k_asm); (case k2 => k_asm); (case k3 => k_asm); (case k4 => k_asm); (case k5 => k_asm); (case kK => first | exact rfl | assumption)); intro h9 tk9 F9 N9; (try dsimp only); (try k_fold)))
theorem lw : PySem.Challenge.rw_ad5040_01.Holds := hd (by
  k_with_none
  k_go0
  (all_goals try k_fold)
  w_top off
  k_steps)
end Mine
end

theorem PySem.Challenge.cw_ad5040_01_holds : PySem.Challenge.rw_ad5040_01.Holds := by
  exact Mine.lw
