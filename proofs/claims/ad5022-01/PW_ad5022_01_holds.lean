import PyProof.Rows.All
import Wide.All
import OpenK.AllK
import Wide.FinOn
import PySem.Challenge.RW_ad5022_01
set_option Elab.async false
set_option maxRecDepth 100000
set_option maxHeartbeats 8000000
namespace Mine
open PySem PySem.W PyProof.Rows
open_top hd for PySem.Challenge.rw_ad5022_01
end Mine
set_option exponentiation.threshold 3000
section
open PySem PySem.Float64
namespace Mine

/-- the float n/2 -/
def H (n : Int) : UInt64 := ofFrac (decide (n < 0)) n.natAbs 2

theorem pow_up (a : Nat) (h0 : 0 < a) (ha : a < 2 ^ 53) : ∃ j, j ≤ 52 ∧ 2 ^ 52 ≤ a * 2 ^ j ∧ a * 2 ^ j < 2 ^ 53 := by
  have hl : a.log2 < 53 := (Nat.log2_lt (by omega)).mpr ha
  have h1 : 2 ^ a.log2 ≤ a := Nat.log2_self_le (by omega)
  have h2 : a < 2 ^ (a.log2 + 1) := Nat.lt_log2_self
  refine ⟨52 - a.log2, by omega, ?_, ?_⟩
  · have := Nat.mul_le_mul_right (2 ^ (52 - a.log2)) h1
    rw [← Nat.pow_add] at this
    have e : a.log2 + (52 - a.log2) = 52 := by omega
    rwa [e] at this
  · have := Nat.mul_lt_mul_of_pos_right h2 (Nat.two_pow_pos (52 - a.log2))
    rw [← Nat.pow_add] at this
    have e : a.log2 + 1 + (52 - a.log2) = 53 := by omega
    rwa [e] at this

theorem exactV (a k : Nat) (ha : a < 2 ^ 53) (hk : 53 ≤ k) : ∃ t, V t = a * 2 ^ k := by
  rcases Nat.eq_zero_or_pos a with rfl | h0
  · exact ⟨0, by rw [V_zero]; simp⟩
  · obtain ⟨j, hj, h1, h2⟩ := pow_up a h0 ha
    refine ⟨(k - j) * 2 ^ 52 + a * 2 ^ j, ?_⟩
    rw [V_at (by omega) (.inl h1), Nat.mul_assoc, ← Nat.pow_add]
    congr 2
    omega

theorem V_inj {t t' : Nat} (h : V t = V t') : t = t' := by
  rcases Nat.lt_trichotomy t t' with h1 | h1 | h1
  · have := V_lt h1; omega
  · exact h1
  · have := V_lt h1; omega

theorem big_lt (W : Nat) (h : W < 2 ^ 53 * 2 ^ 1100) : ¬ (1 * ((2 ^ 54 - 1) * 2 ^ 2045) ≤ 2 * W) := by
  have e : (2 : Nat) ^ 2045 = 2 ^ 945 * 2 ^ 1100 := by rw [← Nat.pow_add]
  rw [e]
  have h2 : 2 ^ 53 * 2 ^ 1100 ≤ (2 ^ 53 - 1) * (2 ^ 945 * 2 ^ 1100) := by
    rw [← Nat.mul_assoc]
    exact Nat.mul_le_mul_right _ (by decide +kernel)
  have h3 : (2 ^ 54 - 1) * (2 ^ 945 * 2 ^ 1100) = 2 * ((2 ^ 53 - 1) * (2 ^ 945 * 2 ^ 1100)) + 1 * (2 ^ 945 * 2 ^ 1100) := by
    rw [← Nat.mul_assoc 2, ← Nat.add_mul]
  rw [h3]
  have h4 : 0 < (2 : Nat) ^ 945 * 2 ^ 1100 := Nat.mul_pos (Nat.two_pow_pos _) (Nat.two_pow_pos _)
  generalize (2 : Nat) ^ 945 * 2 ^ 1100 = Z at *
  generalize (2 : Nat) ^ 1100 = Y at *
  omega

/-- a Right with an exact value is determined -/
theorem right_exact {r : UInt64} {neg : Bool} {W t : Nat} (hr : Right r neg W 1) (hW : W = V t) (hlt : W < 2 ^ 53 * 2 ^ 1100) : r = pack neg t ∧ t < infMag := by
  obtain ⟨u, hu, hle, hov, hn⟩ := hr
  have h1 : u < infMag := by
    rcases Nat.lt_or_ge u infMag with h | h
    · exact h
    · exact absurd (hov.mp (by omega)) (big_lt W hlt)
  have h2 := (hn h1 t).1
  rw [hW] at h2
  have h3 : V u = V t := by
    unfold dist at h2
    omega
  have h4 := V_inj h3
  subst h4
  exact ⟨hu, h1⟩

theorem half_lt {n : Nat} (h : n < 2 ^ 53) : n * 2 ^ 1073 < 2 ^ 53 * 2 ^ 1100 := by
  have h1 : n * 2 ^ 1073 < 2 ^ 53 * 2 ^ 1073 := Nat.mul_lt_mul_of_pos_right h (Nat.two_pow_pos _)
  have h2 : (2 : Nat) ^ 53 * 2 ^ 1073 ≤ 2 ^ 53 * 2 ^ 1100 := Nat.mul_le_mul_left _ (Nat.pow_le_pow_right (by decide) (by decide))
  exact Nat.lt_of_lt_of_le h1 h2

theorem H_right0 (n : Int) : Right (H n) (decide (n < 0)) (n.natAbs * 2 ^ 1073) 1 := by
  unfold H
  refine ofFrac_right (by decide) ?_ (by decide)
  rw [show (2 : Nat) ^ 1074 = 2 * 2 ^ 1073 by rw [← Nat.pow_succ']]
  generalize (2 : Nat) ^ 1073 = Z
  rw [Nat.mul_one]
  ac_rfl

theorem H_unique {r : UInt64} {n : Int} (hn : n.natAbs < 2 ^ 53) (hr : Right r (decide (n < 0)) (n.natAbs * 2 ^ 1073) 1) : r = H n := by
  obtain ⟨t, ht⟩ := exactV n.natAbs 1073 hn (by decide)
  rw [(right_exact hr ht.symm (half_lt hn)).1, (right_exact (H_right0 n) ht.symm (half_lt hn)).1]

theorem H_dec {n : Int} (hn : n.natAbs < 2 ^ 53) : ∃ m e, decode (H n) = .fin (decide (n < 0)) m e ∧ m * 2 ^ (e + 1074).toNat = n.natAbs * 2 ^ 1073 := by
  obtain ⟨t, ht⟩ := exactV n.natAbs 1073 hn (by decide)
  have := right_exact (H_right0 n) ht.symm (half_lt hn)
  obtain ⟨m, e, h1, h2⟩ := decode_pack (decide (n < 0)) this.2
  exact ⟨m, e, by rw [this.1]; exact h1, by rw [h2, ht]⟩

theorem sgn_int (n : Int) (K : Nat) : sgn (decide (n < 0)) (n.natAbs * K) = n * K := by
  unfold sgn
  by_cases h : n < 0
  · rw [if_pos (by simpa using h), Int.natCast_mul, ← Int.neg_mul]
    congr 1
    omega
  · rw [if_neg (by simpa using h), Int.natCast_mul]
    congr 1
    omega

theorem val_H {n : Int} (hn : n.natAbs < 2 ^ 53) : val (H n) = n * ((2 ^ 1073 : Nat) : Int) := by
  obtain ⟨m, e, h1, h2⟩ := H_dec hn
  rw [val_eq h1, h2, sgn_int]

theorem ofInt_H {n : Int} (hn : n.natAbs < 2 ^ 52) : ofInt n = H (2 * n) := by
  refine H_unique (by omega) ?_
  have h := ofInt_right n
  have e1 : decide (2 * n < 0) = decide (n < 0) := by
    congr 1
    exact propext ⟨fun _ => by omega, fun _ => by omega⟩
  have e2 : (2 * n).natAbs * 2 ^ 1073 = n.natAbs * 2 ^ 1074 := by
    rw [Int.natAbs_mul, show (2 : Nat) ^ 1074 = 2 * 2 ^ 1073 by rw [← Nat.pow_succ']]
    generalize (2 : Nat) ^ 1073 = Z
    show 2 * n.natAbs * Z = n.natAbs * (2 * Z)
    ac_rfl
  rw [e1, e2]
  exact h

theorem natAbs_mul_pos (a : Int) (K : Nat) : (a * (K : Int)).natAbs = a.natAbs * K := by
  rw [Int.natAbs_mul, Int.natAbs_natCast]
theorem neg_iff (a : Int) (K : Nat) (hK : 0 < K) : decide (a * (K : Int) < 0) = decide (a < 0) := by
  congr 1
  refine propext ⟨fun h => ?_, fun h => ?_⟩
  · rcases Int.lt_or_le a 0 with h1 | h1
    · exact h1
    · have := Int.mul_nonneg h1 (Int.natCast_nonneg K); omega
  · exact Int.mul_neg_of_neg_of_pos h (by omega)

theorem zero_H : zero false = H 0 := by decide +kernel

theorem add_H {a b : Int} (ha : a.natAbs < 2 ^ 52) (hb : b.natAbs < 2 ^ 52) : add (H a) (H b) = H (a + b) := by
  obtain ⟨m, e, h1, _⟩ := H_dec (n := a) (by omega)
  obtain ⟨k, f, h2, _⟩ := H_dec (n := b) (by omega)
  have h := add_right h1 h2
  rw [val_H (by omega), val_H (by omega), ← Int.add_mul] at h
  by_cases h0 : a + b = 0
  · rw [h0] at h
    rw [h.1 (by simp), h0, ← zero_H]
    congr 1
    rw [Bool.and_eq_false_iff]
    simp only [decide_eq_false_iff_not]
    omega
  · have hK : 0 < (2 : Nat) ^ 1073 := Nat.two_pow_pos _
    have h3 := h.2 (Int.mul_ne_zero h0 (by omega))
    rw [natAbs_mul_pos, neg_iff _ _ hK] at h3
    exact H_unique (by omega) h3

theorem sub_H {a b : Int} (ha : a.natAbs < 2 ^ 52) (hb : b.natAbs < 2 ^ 52) : sub (H a) (H b) = H (a - b) := by
  obtain ⟨m, e, h1, _⟩ := H_dec (n := a) (by omega)
  obtain ⟨k, f, h2, _⟩ := H_dec (n := b) (by omega)
  have h := sub_right h1 h2
  rw [val_H (by omega), val_H (by omega), ← Int.sub_mul] at h
  by_cases h0 : a - b = 0
  · rw [h0] at h
    rw [h.1 (by simp), h0, ← zero_H]
    congr 1
    rw [Bool.and_eq_false_iff]
    simp only [decide_eq_false_iff_not, Bool.not_eq_false', decide_eq_true_eq]
    omega
  · have hK : 0 < (2 : Nat) ^ 1073 := Nat.two_pow_pos _
    have h3 := h.2 (Int.mul_ne_zero h0 (by omega))
    rw [natAbs_mul_pos, neg_iff _ _ hK] at h3
    exact H_unique (by omega) h3

theorem right_scale {r : UInt64} {neg : Bool} {W D : Nat} (hD : 0 < D) (hr : Right r neg (D * W) D) : Right r neg W 1 := by
  obtain ⟨t, h1, h2, h3, h4⟩ := hr
  refine ⟨t, h1, h2, ?_, fun h t' => ?_⟩
  · rw [h3]
    have e : 2 * (D * W) = D * (2 * W) := by ac_rfl
    rw [e, Nat.one_mul]
    exact ⟨fun h => Nat.le_of_mul_le_mul_left h hD, fun h => Nat.mul_le_mul_left _ h⟩
  · have h5 := h4 h t'
    rw [dist_mul, dist_mul] at h5
    simp only [Nat.one_mul]
    exact ⟨Nat.le_of_mul_le_mul_left h5.1 hD, fun a b => h5.2 a (by rw [b])⟩

theorem mul_H {a b : Int} (hb : 0 < b) (hb2 : b.natAbs < 2 ^ 52) (ha : a.natAbs < 2 ^ 53) (hab : (a * b).natAbs < 2 ^ 53) : mul (H a) (H (2 * b)) = H (a * b) := by
  obtain ⟨m, e, h1, _⟩ := H_dec (n := a) (by omega)
  obtain ⟨k, f, h2, _⟩ := H_dec (n := 2 * b) (by omega)
  have h := mul_right h1 h2
  rw [val_H (by omega), val_H (by omega), natAbs_mul_pos, natAbs_mul_pos] at h
  have e1 : (decide (a < 0) != decide (2 * b < 0)) = decide (a * b < 0) := by
    have : decide (2 * b < 0) = false := by simp only [decide_eq_false_iff_not]; omega
    rw [this, Bool.bne_false]
    congr 1
    refine propext ⟨fun q => ?_, fun q => ?_⟩
    · exact Int.mul_neg_of_neg_of_pos q hb
    · rcases Int.lt_or_le a 0 with h3 | h3
      · omega
      · have := Int.mul_nonneg h3 (Int.le_of_lt hb); omega
  rw [e1] at h
  refine H_unique hab (right_scale (Nat.two_pow_pos 1074) ?_)
  have e2 : a.natAbs * 2 ^ 1073 * ((2 * b).natAbs * 2 ^ 1073) = 2 ^ 1074 * ((a * b).natAbs * 2 ^ 1073) := by
    rw [show (2 : Nat) ^ 1074 = 2 * 2 ^ 1073 by rw [← Nat.pow_succ']]
    simp only [Int.natAbs_mul]
    generalize (2 : Nat) ^ 1073 = Z
    show a.natAbs * Z * (2 * b.natAbs * Z) = 2 * Z * (a.natAbs * b.natAbs * Z)
    ac_rfl
  rw [← e2]
  exact h

theorem cmp_scale (p q K : Int) (hK : 0 < K) : compare (p * K) (q * K) = compare p q := by
  rcases Int.lt_trichotomy p q with h | h | h
  · rw [Int.compare_eq_lt.mpr h, Int.compare_eq_lt.mpr (Int.mul_lt_mul_of_pos_right h hK)]
  · subst h; simp
  · rw [Int.compare_eq_gt.mpr h, Int.compare_eq_gt.mpr (Int.mul_lt_mul_of_pos_right h hK)]

theorem cmp_H {a b : Int} (ha : a.natAbs < 2 ^ 53) (hb : b.natAbs < 2 ^ 53) : cmp (H a) (H b) = some (compare a b) := by
  obtain ⟨m, e, h1, _⟩ := H_dec ha
  obtain ⟨k, f, h2, _⟩ := H_dec hb
  rw [cmp_right h1 h2, val_H ha, val_H hb, cmp_scale _ _ _ (Int.natCast_pos.mpr (Nat.two_pow_pos _))]

theorem cmpInt_H {a n : Int} (ha : a.natAbs < 2 ^ 53) : cmpInt (H a) n = some (compare a (2 * n)) := by
  obtain ⟨m, e, h1, _⟩ := H_dec ha
  rw [cmpInt_right h1, val_H ha]
  have e2 : n * (2 : Int) ^ 1074 = 2 * n * ((2 ^ 1073 : Nat) : Int) := by
    rw [show (2 : Int) ^ 1074 = 2 * 2 ^ 1073 by rw [← Int.pow_succ'], show ((2 ^ 1073 : Nat) : Int) = (2 : Int) ^ 1073 by simp]
    generalize (2 : Int) ^ 1073 = Z
    ac_rfl
  rw [e2, cmp_scale _ _ _ (Int.natCast_pos.mpr (Nat.two_pow_pos _))]

theorem fin_H {a : Int} (ha : a.natAbs < 2 ^ 53) : isFinite (H a) = true := by
  obtain ⟨m, e, h1, _⟩ := H_dec ha
  unfold isFinite
  rw [h1]


theorem floor_val {x : UInt64} {a : Bool} {m : Nat} {e : Int} (hx : decode x = .fin a m e) : floorOf a m e = val x / ((2 ^ 1074 : Nat) : Int) := by
  have he := decode_ge hx
  rw [val_eq hx, sgn_mul]
  unfold floorOf
  by_cases h : e ≥ 0
  · rw [if_pos h]
    have e1 : (e + 1074).toNat = e.toNat + 1074 := by omega
    rw [e1, Nat.pow_add, Int.natCast_mul, ← Int.mul_assoc, Int.mul_ediv_cancel _ (by have := Nat.two_pow_pos 1074; omega)]
    simp
  · rw [if_neg h, Int.fdiv_eq_ediv_of_nonneg _ (by exact Int.le_of_lt (Int.pow_pos (by decide)))]
    have e1 : (1074 : Nat) = (-e).toNat + (e + 1074).toNat := by omega
    rw [show (2 : Nat) ^ 1074 = 2 ^ (-e).toNat * 2 ^ (e + 1074).toNat by rw [← Nat.pow_add, ← e1]]
    rw [Int.natCast_mul, Int.mul_ediv_mul_of_pos_left _ _ (by have := Nat.two_pow_pos (e + 1074).toNat; omega)]
    simp

theorem floor_H {n : Int} (hn : n.natAbs < 2 ^ 53) : PySem.Flt.toInt floorOf (H n) = n / 2 := by
  obtain ⟨m, e, h1, _⟩ := H_dec hn
  rw [PySem.Flt.toInt_fin h1, floor_val h1, val_H hn, show (2 : Nat) ^ 1074 = 2 * 2 ^ 1073 by rw [← Nat.pow_succ'], Int.natCast_mul,
    Int.mul_ediv_mul_of_pos_left _ _ (by have := Nat.two_pow_pos 1073; omega)]
  rfl

theorem neg_decode_H {n : Int} (hn : n.natAbs < 2 ^ 53) {m : Nat} {e : Int} (h : decode (H n) = .fin true m e) : floorOf false m e = (-n) / 2 := by
  have h1 := neg_decode h
  have h2 := floor_val h1
  have h3 := neg_val h
  rw [h3, val_H hn, ← Int.neg_mul, show (2 : Nat) ^ 1074 = 2 * 2 ^ 1073 by rw [← Nat.pow_succ'], Int.natCast_mul,
    Int.mul_ediv_mul_of_pos_left _ _ (by have := Nat.two_pow_pos 1073; omega)] at h2
  exact h2

theorem trunc_H {n : Int} (hn : n.natAbs < 2 ^ 53) : PySem.Flt.toInt truncOf (H n) = if n < 0 then -((-n) / 2) else n / 2 := by
  obtain ⟨m, e, h1, _⟩ := H_dec hn
  rw [PySem.Flt.toInt_fin h1]
  have hf := floor_H hn
  rw [PySem.Flt.toInt_fin h1] at hf
  unfold truncOf
  by_cases h : n < 0
  · rw [if_pos (by simpa using h)]
    unfold ceilOf
    have e1 : decide (n < 0) = true := by simpa using h
    rw [e1] at h1 ⊢
    rw [show (!true) = false from rfl, neg_decode_H hn h1, if_pos h]
  · rw [if_neg (by simpa using h), hf, if_neg h]

/-- the core: a rounded quotient lies on the same side of every whole number -/
theorem near_core {aK BQ RK CK BU K bV : Nat} (hA : aK = BQ + RK) (hR : RK + K ≤ CK) (hU : 2 * BU ≤ K) (hK : 0 < K) (hB : 0 < BU)
    (h1 : dist aK bV ≤ dist aK BQ) (h2 : dist aK bV ≤ dist aK (BQ + CK)) (h3 : dist aK bV ≤ dist aK (BQ + CK - BU)) (h4 : dist aK bV ≤ dist aK (BQ + BU)) :
    BQ ≤ bV ∧ bV < BQ + CK ∧ (RK = 0 → bV = BQ) ∧ (K ≤ RK → BQ < bV) := by
  unfold dist at *
  refine ⟨by omega, by omega, fun _ => by omega, fun _ => by omega⟩

theorem dist_scale {W D a b K v : Nat} (hW : W * b = a * K * D) : b * dist W (D * v) = D * dist (a * K) (b * v) := by
  rw [← dist_mul, ← dist_mul, Nat.mul_comm b W, hW]
  congr 1
  · ac_rfl
  · ac_rfl

theorem right_near {r : UInt64} {neg : Bool} {W D a b : Nat} (hr : Right r neg W D) (hD : 0 < D) (hb : 0 < b) (hW : W * b = a * 2 ^ 1074 * D) (hb26 : b ≤ 2 ^ 27) (hq : a / b < 2 ^ 25) :
    ∃ t, r = pack neg t ∧ t < infMag ∧ a / b * 2 ^ 1074 ≤ V t ∧ V t < (a / b + 1) * 2 ^ 1074 ∧ (a % b = 0 → V t = a / b * 2 ^ 1074) ∧ (a % b ≠ 0 → a / b * 2 ^ 1074 < V t) := by
  obtain ⟨t, h1, h2, h3, h4⟩ := hr
  have hdm := Nat.div_add_mod a b
  have hml := Nat.mod_lt a hb
  generalize hqq : a / b = q at *
  generalize hrr : a % b = rm at *
  have hov : t < infMag := by
    rcases Nat.lt_or_ge t infMag with h | h
    · exact h
    · exfalso
      have h5 := h3.mp (by omega)
      have h6 : b * (D * ((2 ^ 54 - 1) * 2 ^ 2045)) ≤ b * (2 * W) := Nat.mul_le_mul_left _ h5
      have h7 : b * (2 * W) = D * (2 * (a * 2 ^ 1074)) := by
        rw [show b * (2 * W) = 2 * (W * b) by ac_rfl, hW]; ac_rfl
      rw [h7, show b * (D * ((2 ^ 54 - 1) * 2 ^ 2045)) = D * (b * ((2 ^ 54 - 1) * 2 ^ 2045)) by ac_rfl] at h6
      have h8 := Nat.le_of_mul_le_mul_left h6 hD
      have h9 : a < b * 2 ^ 26 := by
        have : b * q ≤ b * (2 ^ 25 - 1) := Nat.mul_le_mul_left _ (by omega)
        omega
      have h10 : a * 2 ^ 1074 < b * 2 ^ 26 * 2 ^ 1074 := Nat.mul_lt_mul_of_pos_right h9 (Nat.two_pow_pos _)
      have h11 : 2 ^ 26 * 2 ^ 1074 * 2 ≤ (2 ^ 54 - 1) * 2 ^ 2045 := by decide +kernel
      have h12 : b * (2 ^ 26 * 2 ^ 1074 * 2) ≤ b * ((2 ^ 54 - 1) * 2 ^ 2045) := Nat.mul_le_mul_left _ h11
      have h13 : b * (2 ^ 26 * 2 ^ 1074 * 2) = 2 * (b * 2 ^ 26 * 2 ^ 1074) := by
        generalize (2 : Nat) ^ 1074 = Z
        generalize (2 : Nat) ^ 26 = Y
        ac_rfl
      rw [h13] at h12
      have key : ∀ Z1 Z2 Z3 : Nat, Z2 ≤ 2 * Z3 → Z3 < Z1 → 2 * Z1 ≤ Z2 → False := by omega
      exact key _ _ _ h8 h10 h12
  refine ⟨t, h1, hov, ?_⟩
  have hn : ∀ t', dist (a * 2 ^ 1074) (b * V t) ≤ dist (a * 2 ^ 1074) (b * V t') := by
    intro t'
    have h5 := Nat.mul_le_mul_left b (h4 hov t').1
    rw [dist_scale hW, dist_scale hW] at h5
    exact Nat.le_of_mul_le_mul_left h5 hD
  have eK : (2 : Nat) ^ 1074 = 2 ^ 28 * 2 ^ 1046 := by rw [← Nat.pow_add]
  obtain ⟨t1, e1⟩ := exactV q 1074 (by omega) (by decide)
  obtain ⟨t2, e2⟩ := exactV (q + 1) 1074 (by omega) (by decide)
  obtain ⟨t3, e3⟩ := exactV ((q + 1) * 2 ^ 28 - 1) 1046 (by omega) (by decide)
  obtain ⟨t4, e4⟩ := exactV (q * 2 ^ 28 + 1) 1046 (by omega) (by decide)
  have g1 := hn t1
  have g2 := hn t2
  have g3 := hn t3
  have g4 := hn t4
  rw [e1] at g1
  rw [e2] at g2
  rw [e3] at g3
  rw [e4] at g4
  have hU0 : 0 < (2 : Nat) ^ 1046 := Nat.two_pow_pos _
  have p2 : b * ((q + 1) * 2 ^ 1074) = b * (q * 2 ^ 1074) + b * 2 ^ 1074 := by
    rw [Nat.add_mul, Nat.mul_add, Nat.one_mul]
  have p3 : b * (((q + 1) * 2 ^ 28 - 1) * 2 ^ 1046) = b * (q * 2 ^ 1074) + b * 2 ^ 1074 - b * 2 ^ 1046 := by
    rw [← p2, Nat.sub_mul, Nat.mul_sub, Nat.one_mul, eK, Nat.mul_assoc]
  have p4 : b * ((q * 2 ^ 28 + 1) * 2 ^ 1046) = b * (q * 2 ^ 1074) + b * 2 ^ 1046 := by
    rw [Nat.add_mul, Nat.mul_add, Nat.one_mul, eK, Nat.mul_assoc q]
  rw [p2] at g2
  rw [p3] at g3
  rw [p4] at g4
  have hA : a * 2 ^ 1074 = b * (q * 2 ^ 1074) + rm * 2 ^ 1074 := by
    rw [← hdm, Nat.add_mul, Nat.mul_assoc]
  have hR : rm * 2 ^ 1074 + 2 ^ 1074 ≤ b * 2 ^ 1074 := by
    rw [← Nat.succ_mul]
    exact Nat.mul_le_mul_right _ hml
  have hU : 2 * (b * 2 ^ 1046) ≤ 2 ^ 1074 := by
    rw [eK]
    have := Nat.mul_le_mul_right (2 ^ 1046) hb26
    generalize (2 : Nat) ^ 1046 = Z at *
    omega
  have hK : 0 < (2 : Nat) ^ 1074 := Nat.two_pow_pos _
  obtain ⟨c1, c2, c3, c4⟩ := near_core hA hR hU hK (Nat.mul_pos hb hU0) g1 g2 g3 g4
  refine ⟨Nat.le_of_mul_le_mul_left c1 hb, ?_, fun h => ?_, fun h => ?_⟩
  · rw [← p2] at c2
    exact Nat.lt_of_mul_lt_mul_left c2
  · exact Nat.eq_of_mul_eq_mul_left hb (c3 (by rw [h, Nat.zero_mul]))
  · refine Nat.lt_of_mul_lt_mul_left (c4 ?_)
    have : 1 * 2 ^ 1074 ≤ rm * 2 ^ 1074 := Nat.mul_le_mul_right _ (by omega)
    rwa [Nat.one_mul] at this

theorem floor_right {r : UInt64} {W D b : Nat} {a : Int} (hr : Right r (decide (a < 0)) W D) (hD : 0 < D) (hb : 0 < b) (hW : W * b = a.natAbs * 2 ^ 1074 * D) (hb26 : b ≤ 2 ^ 27) (hq : a.natAbs / b < 2 ^ 25) :
    isFinite r = true ∧ PySem.Flt.toInt floorOf r = a / (b : Int) := by
  obtain ⟨t, h1, h2, h3, h4, h5, h6⟩ := right_near hr hD hb hW hb26 hq
  obtain ⟨m, e, hd, _⟩ := decode_pack (decide (a < 0)) h2
  have hdm := Nat.div_add_mod a.natAbs b
  have hml := Nat.mod_lt a.natAbs hb
  rw [h1]
  refine ⟨by unfold isFinite; rw [hd], ?_⟩
  rw [PySem.Flt.toInt_fin hd, floor_val hd, val_pack _ h2]
  have hKp : 0 < (2 : Nat) ^ 1074 := Nat.two_pow_pos _
  generalize (2 : Nat) ^ 1074 = K at *
  have hbpos : (0 : Int) < b := by omega
  have hKpos : (0 : Int) < K := by omega
  generalize hqq : a.natAbs / b = q at *
  by_cases h : a < 0
  · have e1 : decide (a < 0) = true := by simpa using h
    rw [e1]
    show (-(V t : Int)) / (K : Int) = a / b
    by_cases hz : a.natAbs % b = 0
    · rw [h5 hz]
      have e2 : a = -((q : Int) * b) := by
        have : (a.natAbs : Int) = b * q := by rw [← Int.natCast_mul, ← hdm, hz]; omega
        rw [Int.mul_comm] at this
        omega
      rw [e2, Int.natCast_mul, ← Int.neg_mul, ← Int.neg_mul, Int.mul_ediv_cancel _ (by omega), Int.mul_ediv_cancel _ (by omega)]
    · have h7 := h6 hz
      have g1 : (-(V t : Int)) / (K : Int) = -(q : Int) - 1 := by
        rw [Int.ediv_eq_iff_of_pos hKpos]
        have : ((q + 1) * K : Nat) = q * K + K := by rw [Nat.add_mul, Nat.one_mul]
        have e3 : (-(q : Int) - 1) * (K : Int) = -((q * K : Nat) : Int) - K := by
          rw [Int.sub_mul, Int.one_mul, Int.natCast_mul, Int.neg_mul]
        rw [e3]
        generalize q * K = z at *
        omega
      have g2 : a / (b : Int) = -(q : Int) - 1 := by
        rw [Int.ediv_eq_iff_of_pos hbpos]
        have e3 : (-(q : Int) - 1) * (b : Int) = -((b * q : Nat) : Int) - b := by
          rw [Int.sub_mul, Int.one_mul, Int.natCast_mul, Int.neg_mul, Int.mul_comm (b : Int)]
        rw [e3]
        generalize b * q = z at *
        omega
      rw [g1, g2]
  · have e1 : decide (a < 0) = false := by simpa using h
    rw [e1]
    show ((V t : Int)) / (K : Int) = a / b
    have g1 : ((V t : Int)) / (K : Int) = (q : Int) := by
      rw [Int.ediv_eq_iff_of_pos hKpos]
      have : ((q + 1) * K : Nat) = q * K + K := by rw [Nat.add_mul, Nat.one_mul]
      have e3 : (q : Int) * (K : Int) = ((q * K : Nat) : Int) := by rw [Int.natCast_mul]
      rw [e3]
      generalize q * K = z at *
      omega
    have g2 : a / (b : Int) = (q : Int) := by
      rw [Int.ediv_eq_iff_of_pos hbpos]
      have e3 : (q : Int) * (b : Int) = ((b * q : Nat) : Int) := by rw [Int.natCast_mul, Int.mul_comm]
      rw [e3]
      generalize b * q = z at *
      omega
    rw [g1, g2]


theorem floor_ii {a b : Int} (hb : 0 < b) (hb2 : b ≤ 2 ^ 27) (hq : a.natAbs < 2 ^ 25 * b.natAbs) :
    isFinite (ofFrac (decide (a < 0) != decide (b < 0)) a.natAbs b.natAbs) = true ∧ PySem.Flt.toInt floorOf (ofFrac (decide (a < 0) != decide (b < 0)) a.natAbs b.natAbs) = a / b := by
  have e : decide (b < 0) = false := by simp only [decide_eq_false_iff_not]; omega
  rw [e, Bool.bne_false]
  have hr : Right (ofFrac (decide (a < 0)) a.natAbs b.natAbs) (decide (a < 0)) (a.natAbs * 2 ^ 1074) b.natAbs := ofFrac_right (by omega) rfl (by omega)
  have h := floor_right (b := b.natAbs) hr (by omega) (by omega) rfl (by omega) ((Nat.div_lt_iff_lt_mul (by omega)).mpr hq)
  rw [show ((b.natAbs : Nat) : Int) = b by omega] at h
  exact h

theorem floor_fi {a n : Int} (ha : a.natAbs < 2 ^ 53) (hb : 0 < n) (hb2 : n ≤ 2 ^ 26) (hq : a.natAbs < 2 ^ 25 * (2 * n).natAbs) :
    isFinite (div (H a) (ofInt n)) = true ∧ PySem.Flt.toInt floorOf (div (H a) (ofInt n)) = a / (2 * n) := by
  rw [ofInt_H (n := n) (by omega)]
  obtain ⟨m, e, h1, _⟩ := H_dec ha
  obtain ⟨k, f, h2, h3⟩ := H_dec (n := 2 * n) (by omega)
  have hk : k ≠ 0 := by
    intro h0
    rw [h0, Nat.zero_mul] at h3
    have := Nat.mul_pos (show 0 < (2 * n).natAbs by omega) (Nat.two_pow_pos 1073)
    omega
  have hr := div_right h1 h2 hk
  have e1 : decide (2 * n < 0) = false := by simp only [decide_eq_false_iff_not]; omega
  rw [e1, Bool.bne_false, val_H ha, val_H (by omega), natAbs_mul_pos, natAbs_mul_pos] at hr
  have h := floor_right (b := (2 * n).natAbs) hr (Nat.mul_pos (by omega) (Nat.two_pow_pos _)) (by omega) (by
    generalize (2 : Nat) ^ 1073 = Z
    generalize (2 : Nat) ^ 1074 = Y
    ac_rfl) (by omega) ((Nat.div_lt_iff_lt_mul (by omega)).mpr hq)
  rw [show (((2 * n).natAbs : Nat) : Int) = 2 * n by omega] at h
  exact h

theorem floor_ff {a n : Int} (ha : a.natAbs < 2 ^ 53) (hb : 0 < n) (hb2 : n ≤ 2 ^ 27) (hq : a.natAbs < 2 ^ 25 * n.natAbs) :
    isFinite (div (H a) (H n)) = true ∧ PySem.Flt.toInt floorOf (div (H a) (H n)) = a / n := by
  obtain ⟨m, e, h1, _⟩ := H_dec ha
  obtain ⟨k, f, h2, h3⟩ := H_dec (n := n) (by omega)
  have hk : k ≠ 0 := by
    intro h0
    rw [h0, Nat.zero_mul] at h3
    have := Nat.mul_pos (show 0 < n.natAbs by omega) (Nat.two_pow_pos 1073)
    omega
  have hr := div_right h1 h2 hk
  have e1 : decide (n < 0) = false := by simp only [decide_eq_false_iff_not]; omega
  rw [e1, Bool.bne_false, val_H ha, val_H (by omega), natAbs_mul_pos, natAbs_mul_pos] at hr
  have h := floor_right (b := n.natAbs) hr (Nat.mul_pos (by omega) (Nat.two_pow_pos _)) (by omega) (by
    generalize (2 : Nat) ^ 1073 = Z
    generalize (2 : Nat) ^ 1074 = Y
    ac_rfl) (by omega) ((Nat.div_lt_iff_lt_mul (by omega)).mpr hq)
  rw [show ((n.natAbs : Nat) : Int) = n by omega] at h
  exact h

theorem H_zero_iff {a : Int} (ha : a.natAbs < 2 ^ 53) : isZero (H a) = decide (a = 0) := by
  obtain ⟨m, e, h1, h2⟩ := H_dec ha
  unfold isZero
  rw [h1]
  by_cases h : a = 0
  · rw [h] at h2
    have : m = 0 := by
      rcases Nat.eq_zero_or_pos m with h3 | h3
      · exact h3
      · have := Nat.mul_pos h3 (Nat.two_pow_pos (e + 1074).toNat)
        simp at h2
        omega
    subst this
    simp [h]
  · have : m ≠ 0 := by
      intro h3
      rw [h3, Nat.zero_mul] at h2
      have := Nat.mul_pos (show 0 < a.natAbs by omega) (Nat.two_pow_pos 1073)
      omega
    obtain ⟨j, rfl⟩ : ∃ j, m = j + 1 := ⟨m - 1, by omega⟩
    simp [h]

theorem sign_H {a : Int} (ha : a.natAbs < 2 ^ 53) (h0 : 0 ≤ a) : signBit (H a) = false := by
  obtain ⟨t, ht⟩ := exactV a.natAbs 1073 ha (by decide)
  have h := right_exact (H_right0 a) ht.symm (half_lt ha)
  rw [h.1]
  have hi : infMag = 2047 * 2 ^ 52 := rfl
  have e : decide (a < 0) = false := by simp only [decide_eq_false_iff_not]; omega
  rw [e]
  unfold signBit
  rw [pack_toNat _ (by have := h.2; omega)]
  have := h.2
  simp
  omega

theorem mod_H {k n : Int} (hk : (2 * k).natAbs < 2 ^ 52) (hn : 0 < n) (hn2 : n < 2 ^ 50) : (divmod (H (2 * k)) (ofInt n)).2 = H (2 * (k % n)) := by
  rw [ofInt_H (n := n) (by omega)]
  obtain ⟨m, e, h1, g1⟩ := H_dec (n := 2 * k) (by omega)
  obtain ⟨j, f, h2, g2⟩ := H_dec (n := 2 * n) (by omega)
  have he := decode_ge h1
  have hf := decode_ge h2
  have hj : j ≠ 0 := by
    intro h0
    rw [h0, Nat.zero_mul] at g2
    have := Nat.mul_pos (show 0 < (2 * n).natAbs by omega) (Nat.two_pow_pos 1073)
    omega
  have hfm : fmod (H (2 * k)) (H (2 * n)) = ofBin (decide (2 * k < 0)) ((m * 2 ^ (e - min e f).toNat) % (j * 2 ^ (f - min e f).toNat)) (min e f) := by
    unfold fmod
    rw [h1, h2]
    simp only
    rw [if_neg (by simpa using hj)]
    rfl
  have hv : (m * 2 ^ (e - min e f).toNat) % (j * 2 ^ (f - min e f).toNat) * 2 ^ (min e f + 1074).toNat = (k.natAbs % n.natAbs) * 2 ^ 1074 := by
    rw [← Nat.mul_mod_mul_right, Nat.mul_assoc, Nat.mul_assoc, ← Nat.pow_add, ← Nat.pow_add,
      show (e - min e f).toNat + (min e f + 1074).toNat = (e + 1074).toNat by omega, show (f - min e f).toNat + (min e f + 1074).toNat = (f + 1074).toNat by omega, g1, g2,
      Int.natAbs_mul, Int.natAbs_mul, show (2 : Nat) ^ 1074 = 2 * 2 ^ 1073 by rw [← Nat.pow_succ']]
    generalize (2 : Nat) ^ 1073 = Z
    show 2 * k.natAbs * Z % (2 * n.natAbs * Z) = k.natAbs % n.natAbs * (2 * Z)
    rw [show 2 * k.natAbs * Z = k.natAbs * (2 * Z) by ac_rfl, show 2 * n.natAbs * Z = n.natAbs * (2 * Z) by ac_rfl, Nat.mul_mod_mul_right]
  have hR := ofBin_right (neg := decide (2 * k < 0)) (M := (m * 2 ^ (e - min e f).toNat) % (j * 2 ^ (f - min e f).toNat)) (g := min e f) (by omega)
  rw [hv, ← hfm] at hR
  have hlt := Nat.mod_lt k.natAbs (show n.natAbs > 0 by omega)
  have hle := Nat.mod_le k.natAbs n.natAbs
  have hsplit := Nat.div_add_mod k.natAbs n.natAbs
  have hcop : copysign (zero false) (H (2 * n)) = H 0 := by
    unfold copysign
    rw [sign_H (by omega) (by omega)]
    decide +kernel
  have hltn : lt (H (2 * n)) (zero false) = false := by
    rw [zero_H]
    unfold lt
    rw [cmp_H (by omega) (by decide)]
    rw [Int.compare_eq_gt.mpr (by omega)]
    rfl
  generalize hfm2 : fmod (H (2 * k)) (H (2 * n)) = fm at hR
  have hdiv2 : (divmod (H (2 * k)) (H (2 * n))).2 = if isZero fm then copysign (zero false) (H (2 * n)) else if lt (H (2 * n)) (zero false) != lt fm (zero false) then add fm (H (2 * n)) else fm := by
    unfold divmod
    simp only [hfm2]
    split
    · rfl
    · split <;> rfl
  rw [hdiv2, hcop, hltn]
  clear hdiv2 hfm hfm2 hcop hltn hv
  have key : ∀ x : Nat, x % n.natAbs * 2 ^ 1074 = (2 * ((x % n.natAbs : Nat) : Int)).natAbs * 2 ^ 1073 := by
    intro x
    rw [Int.natAbs_mul, Int.natAbs_natCast, show (2 : Nat) ^ 1074 = 2 * 2 ^ 1073 by rw [← Nat.pow_succ']]
    generalize (2 : Nat) ^ 1073 = Z
    show x % n.natAbs * (2 * Z) = 2 * (x % n.natAbs) * Z
    ac_rfl
  rw [key] at hR
  generalize hrr : k.natAbs % n.natAbs = r at *
  by_cases hneg : 2 * k < 0
  · have e1 : decide (2 * k < 0) = true := by simpa using hneg
    rw [e1] at hR
    by_cases hr0 : r = 0
    · subst hr0
      have hz : isZero fm = true := by
        have h3 := right_exact (t := 0) hR (by rw [V_zero]; simp) (by have := Nat.two_pow_pos 1100; simp)
        rw [h3.1]
        decide +kernel
      rw [if_pos hz]
      have : k % n = 0 := by
        have h4 : n.natAbs ∣ k.natAbs := Nat.dvd_of_mod_eq_zero hrr
        exact Int.emod_eq_zero_of_dvd (Int.natAbs_dvd_natAbs.mp h4)
      rw [this]
      rfl
    · have hfme : fm = H (-(2 * (r : Int))) := by
        refine H_unique (by omega) ?_
        have e2 : decide (-(2 * (r : Int)) < 0) = true := by simp only [decide_eq_true_eq]; omega
        rw [e2, Int.natAbs_neg]
        exact hR
      rw [hfme, H_zero_iff (by omega), if_neg (by simp; omega)]
      have hl : lt (H (-(2 * (r : Int)))) (zero false) = true := by
        rw [zero_H]
        unfold lt
        rw [cmp_H (by omega) (by decide), Int.compare_eq_lt.mpr (by omega)]
        rfl
      rw [hl, if_pos (by rfl), add_H (by omega) (by omega)]
      have : k % n = n - r := by
        have e3 : k = n * (-(↑(k.natAbs / n.natAbs) + 1)) + (n - r) := by
          have e4 : (k.natAbs : Int) = n * ↑(k.natAbs / n.natAbs) + r := by
            have e5 : (n.natAbs : Int) = n := by omega
            rw [← e5, ← Int.natCast_mul, ← Int.natCast_add]
            simp only [Int.natAbs_natCast]
            rw [← hrr, Nat.div_add_mod]
          rw [Int.mul_neg, Int.mul_add, Int.mul_one]
          omega
        rw [e3, Int.mul_add_emod_self_left]
        exact Int.emod_eq_of_lt (by omega) (by omega)
      rw [this]
      congr 1
      omega
  · have e1 : decide (2 * k < 0) = false := by simpa using hneg
    rw [e1] at hR
    have hfme : fm = H (2 * (r : Int)) := by
      refine H_unique (by omega) ?_
      have e2 : decide (2 * (r : Int) < 0) = false := by simp only [decide_eq_false_iff_not]; omega
      rw [e2]
      exact hR
    have hkn : k % n = r := by
      rw [← hrr]
      have e4 : k = (k.natAbs : Int) := by omega
      have e5 : n = (n.natAbs : Int) := by omega
      rw [Int.natCast_emod, ← e4, ← e5]
    rw [hfme, H_zero_iff (by omega), hkn]
    by_cases hr0 : r = 0
    · rw [if_pos (by simp [hr0]), hr0]
      rfl
    · rw [if_neg (by simp; omega)]
      have hl : lt (H (2 * (r : Int))) (zero false) = false := by
        rw [zero_H]
        unfold lt
        rw [cmp_H (by omega) (by decide), Int.compare_eq_gt.mpr (by omega)]
        rfl
      rw [hl, if_neg (by decide)]

theorem month_off : ∀ (m : Fin 13) (l : Fin 3) (d : Fin 32), 0 < m.val → 0 < d.val → (m.val ≤ 2 → l.val = 0) → (2 < m.val → l.val ≠ 0) →
    isFinite (add (add (ofFrac (decide ((367 * (m.val : Int) - 362) < 0) != decide ((12 : Int) < 0)) (367 * (m.val : Int) - 362).natAbs (12 : Int).natAbs) (ofInt (-(l.val : Int)))) (ofInt (d.val : Int))) = true ∧
    PySem.Flt.toInt floorOf (add (add (ofFrac (decide ((367 * (m.val : Int) - 362) < 0) != decide ((12 : Int) < 0)) (367 * (m.val : Int) - 362).natAbs (12 : Int).natAbs) (ofInt (-(l.val : Int)))) (ofInt (d.val : Int))) = (367 * (m.val : Int) - 362) / 12 - l.val + d.val := by
  decide +kernel

end Mine
end
namespace Mine
open PySem PySem.W PyProof.Rows PySem.Calls PySem.Spec PySem.Flt

theorem epoch_g : (4700144277945057280 : UInt64) = H 3442851 := by decide +kernel
theorem epoch_h : (4689722129631936512 : UInt64) = H 695991 := by decide +kernel
theorem half_f : (4602678819172646912 : UInt64) = H 1 := by decide +kernel
theorem mean_n : (4681505006791163904 : UInt64) = H 196992 := by decide +kernel
theorem mean_n2 : (4681505006791163904 : UInt64) = H (2 * 98496) := by decide +kernel
theorem mean_d : (4720097339732131840 : UInt64) = H 71950702 := by decide +kernel

theorem fits_of {n : Int} (h : n.natAbs < 2 ^ 52) : n.natAbs < 2 ^ 1023 := Nat.lt_of_lt_of_le h (Nat.pow_le_pow_right (by decide) (by decide))
theorem not_over {n : Int} (h : n.natAbs < 2 ^ 52) : ¬ Over n := by
  intro h2
  have h3 : (2 : Nat) ^ 52 ≤ 2 ^ 1024 - 2 ^ 970 := by decide +kernel
  exact absurd (Nat.le_trans h3 h2) (by omega)
theorem nn_of {x : UInt64} (h : Float64.isFinite x = true) : ¬ Float64.isNaN x = true ∧ ¬ Float64.isInf x = true := by
  unfold Float64.isFinite at h
  unfold Float64.isNaN Float64.isInf
  split at h <;> simp_all

/-- a half cut towards nought -/
def tr (a : Int) : Int := if a < 0 then -((-a) / 2) else a / 2
theorem tr_bd (a : Int) : 2 * tr a ≤ a + 1 ∧ a - 1 ≤ 2 * tr a := by
  unfold tr
  split <;> omega
theorem tr_odd {a : Int} (h0 : 0 ≤ a) (h2 : a % 2 = 1) : 2 * tr a + 1 = a := by
  unfold tr
  split <;> omega

section
variable {prog : Program} {w : World} {A : Around} {E : Value → Shared → Prop} {s : Shared} {t u : Tok} {Q : Value → Shared → Prop} {x y : UInt64} {a b n : Int}

theorem hAdd_fi (hx : x = H a) (ha : a.natAbs < 2 ^ 51) (hn : n.natAbs < 2 ^ 50) (h : ∀ (tv : Tok) (tk : Nat), Q (.float (H (a + 2 * n)) tv) { s with toks := tk }) :
    wpAny (model prog w) A (binaryOp .Add (.float x t) (.int n u)) Q E s := by
  subst hx
  refine add_fi_fits (fits_of (by omega)) ?_
  rw [ofInt_H (by omega), add_H (by omega) (by omega)]
  exact h _ _
theorem hIadd_fi (hh : A.handled = none) (hx : x = H a) (ha : a.natAbs < 2 ^ 51) (hn : n.natAbs < 2 ^ 50) (h : ∀ (tv : Tok) (tk : Nat), Q (.float (H (a + 2 * n)) tv) { s with toks := tk }) :
    wpAny (model prog w) A (inplaceOp .Add (.float x t) (.int n u)) Q E s := by
  subst hx
  refine iadd_fi hh (fun q => absurd q (not_over (by omega))) fun _ => ?_
  rw [ofInt_H (by omega), add_H (by omega) (by omega)]
  exact h _ _
theorem hAdd_if (hx : x = H a) (ha : a.natAbs < 2 ^ 51) (hn : n.natAbs < 2 ^ 50) (h : ∀ (tv : Tok) (tk : Nat), Q (.float (H (2 * n + a)) tv) { s with toks := tk }) :
    wpAny (model prog w) A (binaryOp .Add (.int n u) (.float x t)) Q E s := by
  subst hx
  refine add_if_fits (fits_of (by omega)) ?_
  rw [ofInt_H (by omega), add_H (by omega) (by omega)]
  exact h _ _
theorem hAdd_ff (hx : x = H a) (hy : y = H b) (ha : a.natAbs < 2 ^ 51) (hb : b.natAbs < 2 ^ 51) (h : ∀ (tv : Tok) (tk : Nat), Q (.float (H (a + b)) tv) { s with toks := tk }) :
    wpAny (model prog w) A (binaryOp .Add (.float x t) (.float y u)) Q E s := by
  subst hx hy
  refine add_float ?_
  rw [add_H (by omega) (by omega)]
  exact h _ _
theorem hSub_fi (hx : x = H a) (ha : a.natAbs < 2 ^ 51) (hn : n.natAbs < 2 ^ 50) (h : ∀ (tv : Tok) (tk : Nat), Q (.float (H (a - 2 * n)) tv) { s with toks := tk }) :
    wpAny (model prog w) A (binaryOp .Sub (.float x t) (.int n u)) Q E s := by
  subst hx
  refine sub_fi_fits (fits_of (by omega)) ?_
  rw [ofInt_H (by omega), sub_H (by omega) (by omega)]
  exact h _ _
theorem hSub_ff (hx : x = H a) (hy : y = H b) (ha : a.natAbs < 2 ^ 51) (hb : b.natAbs < 2 ^ 51) (h : ∀ (tv : Tok) (tk : Nat), Q (.float (H (a - b)) tv) { s with toks := tk }) :
    wpAny (model prog w) A (binaryOp .Sub (.float x t) (.float y u)) Q E s := by
  subst hx hy
  refine sub_float ?_
  rw [sub_H (by omega) (by omega)]
  exact h _ _
theorem hMul_fi (hx : x = H a) (hn0 : 0 < n) (ha : a.natAbs < 2 ^ 51) (hn : n.natAbs < 2 ^ 50) (hab : (a * n).natAbs < 2 ^ 53) (h : ∀ (tv : Tok) (tk : Nat), Q (.float (H (a * n)) tv) { s with toks := tk }) :
    wpAny (model prog w) A (binaryOp .Mult (.float x t) (.int n u)) Q E s := by
  subst hx
  refine mul_fi_fits (fits_of (by omega)) ?_
  rw [ofInt_H (by omega), mul_H hn0 (by omega) (by omega) hab]
  exact h _ _
theorem hMul_ff (hx : x = H a) (hy : y = H (2 * n)) (hn0 : 0 < n) (ha : a.natAbs < 2 ^ 51) (hn : n.natAbs < 2 ^ 50) (hab : (a * n).natAbs < 2 ^ 53) (h : ∀ (tv : Tok) (tk : Nat), Q (.float (H (a * n)) tv) { s with toks := tk }) :
    wpAny (model prog w) A (binaryOp .Mult (.float x t) (.float y u)) Q E s := by
  subst hx hy
  refine mul_float ?_
  rw [mul_H hn0 (by omega) (by omega) hab]
  exact h _ _

theorem hFloor_of (hh : A.handled = none) (hf : Float64.isFinite x = true ∧ toInt Float64.floorOf x = n) (h : ∀ (tv : Tok) (tk : Nat), Q (.int n tv) { s with toks := tk }) :
    wpAny (model prog w) A (call (.builtin "math.floor") [.float x t]) Q E s := by
  have hn := nn_of hf.1
  refine call_floor_float hh (fun q => absurd q hn.1) (fun q => absurd q hn.2) fun _ => ?_
  rw [hf.2]
  exact h _ _
theorem hFloor (hh : A.handled = none) (hx : x = H a) (ha : a.natAbs < 2 ^ 53) (h : ∀ (tv : Tok) (tk : Nat), Q (.int (a / 2) tv) { s with toks := tk }) :
    wpAny (model prog w) A (call (.builtin "math.floor") [.float x t]) Q E s := by
  subst hx
  exact hFloor_of hh ⟨fin_H ha, floor_H ha⟩ h
theorem hFloor_ii (hh : A.handled = none) (hb : 0 < b) (hb2 : b ≤ 2 ^ 27) (hq : a.natAbs < 2 ^ 25 * b.natAbs) (h : ∀ (tv : Tok) (tk : Nat), Q (.int (a / b) tv) { s with toks := tk }) :
    wpAny (model prog w) A (call (.builtin "math.floor") [.float (Float64.ofFrac (decide (a < 0) != decide (b < 0)) a.natAbs b.natAbs) t]) Q E s :=
  hFloor_of hh (floor_ii hb hb2 hq) h
theorem hFloor_fi (hh : A.handled = none) (hx : x = H a) (ha : a.natAbs < 2 ^ 53) (hb : 0 < n) (hb2 : n ≤ 2 ^ 26) (hq : a.natAbs < 2 ^ 25 * (2 * n).natAbs) (h : ∀ (tv : Tok) (tk : Nat), Q (.int (a / (2 * n)) tv) { s with toks := tk }) :
    wpAny (model prog w) A (call (.builtin "math.floor") [.float (Float64.div x (Float64.ofInt n)) t]) Q E s := by
  subst hx
  exact hFloor_of hh (floor_fi ha hb hb2 hq) h
theorem hFloor_ff (hh : A.handled = none) (hx : x = H a) (hy : y = H n) (ha : a.natAbs < 2 ^ 53) (hb : 0 < n) (hb2 : n ≤ 2 ^ 27) (hq : a.natAbs < 2 ^ 25 * n.natAbs) (h : ∀ (tv : Tok) (tk : Nat), Q (.int (a / n) tv) { s with toks := tk }) :
    wpAny (model prog w) A (call (.builtin "math.floor") [.float (Float64.div x y) t]) Q E s := by
  subst hx hy
  exact hFloor_of hh (floor_ff ha hb hb2 hq) h
/-- an int divided by an int: kept as it stands till the floor -/
theorem hDiv_ii (hh : A.handled = none) (ha : a.natAbs < 2 ^ 52) (hb : b ≠ 0) (h : ∀ (tv : Tok) (tk : Nat), Q (.float (Float64.ofFrac (decide (a < 0) != decide (b < 0)) a.natAbs b.natAbs) tv) { s with toks := tk }) :
    wpAny (model prog w) A (binaryOp .Div (.int a t) (.int b u)) Q E s :=
  div_ii_fits hh (fits_of ha) (fun q => absurd q hb) fun _ _ => h _ _
theorem hDiv_fi (hh : A.handled = none) (hn : n.natAbs < 2 ^ 52) (hb : n ≠ 0) (h : ∀ (tv : Tok) (tk : Nat), Q (.float (Float64.div x (Float64.ofInt n)) tv) { s with toks := tk }) :
    wpAny (model prog w) A (binaryOp .Div (.float x t) (.int n u)) Q E s :=
  truediv_fi hh (fun q => absurd q (not_over hn)) (fun q => absurd q hb) fun _ _ => h _ _
theorem hDiv_ff (hh : A.handled = none) (hy : y = H n) (hn : n.natAbs < 2 ^ 52) (hb : n ≠ 0) (h : ∀ (tv : Tok) (tk : Nat), Q (.float (Float64.div x y) tv) { s with toks := tk }) :
    wpAny (model prog w) A (binaryOp .Div (.float x t) (.float y u)) Q E s := by
  have hz : ¬ Float64.isZero y = true := by
    rw [hy, H_zero_iff (by omega)]
    simpa using hb
  exact truediv_float_or hh (fun q => absurd q hz) fun _ => h _ _
theorem hMod_fi (hh : A.handled = none) (hx : x = H a) (h2 : a % 2 = 0) (ha : a.natAbs < 2 ^ 52) (hn0 : 0 < n) (hn : n < 2 ^ 50) (h : ∀ (tv : Tok) (tk : Nat), Q (.float (H (2 * (a / 2 % n))) tv) { s with toks := tk }) :
    wpAny (model prog w) A (binaryOp .Mod (.float x t) (.int n u)) Q E s := by
  subst hx
  refine mod_fi hh (fun q => absurd q (not_over (by omega))) (fun q => by omega) fun _ _ => ?_
  have e : a = 2 * (a / 2) := by omega
  rw [e, mod_H (by omega) hn0 hn]
  exact h _ _
theorem hInt (hh : A.handled = none) (hx : x = H a) (ha : a.natAbs < 2 ^ 53) (h : 2 * tr a ≤ a + 1 → a - 1 ≤ 2 * tr a → ∀ (tv : Tok) (tk : Nat), Q (.int (tr a) tv) { s with toks := tk }) :
    wpAny (model prog w) A (call (.type "int") [.float x t]) Q E s := by
  subst hx
  have hn := nn_of (fin_H ha)
  refine call_int_float3 hh (fun q => absurd q hn.1) (fun q => absurd q hn.2) fun _ => ?_
  rw [trunc_H ha]
  have := tr_bd a
  exact h this.1 this.2 _ _
theorem hInt_pos (hh : A.handled = none) (hx : x = H a) (h0 : 0 ≤ a) (ha : a.natAbs < 2 ^ 53) (h : ∀ (tv : Tok) (tk : Nat), Q (.int (a / 2) tv) { s with toks := tk }) :
    wpAny (model prog w) A (call (.type "int") [.float x t]) Q E s := by
  refine hInt hh hx ha fun _ _ => ?_
  unfold tr
  rw [if_neg (by omega)]
  exact h

theorem cmp_lt (a b : Int) : (some (compare a b) == some Ordering.lt) = decide (a < b) := by
  rcases Int.lt_trichotomy a b with h | h | h
  · rw [Int.compare_eq_lt.mpr h]; simp [h]
  · subst h; simp
  · rw [Int.compare_eq_gt.mpr h]; simp; omega
theorem cmp_gt (a b : Int) : (some (compare a b) == some Ordering.gt) = decide (b < a) := by
  rcases Int.lt_trichotomy a b with h | h | h
  · rw [Int.compare_eq_lt.mpr h]; simp; omega
  · subst h; simp
  · rw [Int.compare_eq_gt.mpr h]; simp [h]
theorem cmp_eq (a b : Int) : (some (compare a b) == some Ordering.eq) = decide (a = b) := by
  rcases Int.lt_trichotomy a b with h | h | h
  · rw [Int.compare_eq_lt.mpr h]; simp; omega
  · subst h; simp
  · rw [Int.compare_eq_gt.mpr h]; simp; omega

theorem hLt_fi (hx : x = H a) (ha : a.natAbs < 2 ^ 53) (h : Q (.bool (decide (a < 2 * n))) s) : wpAny (model prog w) A (compareOp .Lt (.float x t) (.int n u)) Q E s := by
  subst hx
  refine lt_fi ?_
  rw [cmpInt_H ha, cmp_lt]
  exact h
theorem hNe_fi (hx : x = H a) (ha : a.natAbs < 2 ^ 53) (h : Q (.bool (decide (a ≠ 2 * n))) s) : wpAny (model prog w) A (compareOp .NotEq (.float x t) (.int n u)) Q E s := by
  subst hx
  refine ne_fi ?_
  rw [cmpInt_H ha, bne, cmp_eq]
  rw [show (!decide (a = 2 * n)) = decide (a ≠ 2 * n) by simp]
  exact h
theorem hEq_fi (hx : x = H a) (ha : a.natAbs < 2 ^ 53) (h : Q (.bool (decide (a = 2 * n))) s) : wpAny (model prog w) A (compareOp .Eq (.float x t) (.int n u)) Q E s := by
  subst hx
  refine eq_fi ?_
  rw [cmpInt_H ha, cmp_eq]
  exact h
theorem hLt_ff (hx : x = H a) (hy : y = H b) (ha : a.natAbs < 2 ^ 53) (hb : b.natAbs < 2 ^ 53) (h : Q (.bool (decide (a < b))) s) : wpAny (model prog w) A (compareOp .Lt (.float x t) (.float y u)) Q E s := by
  subst hx hy
  refine AutoFloatOps.lt_0 ?_
  rw [cmp_H ha hb, cmp_lt]
  exact h
theorem hGt_ff (hx : x = H a) (hy : y = H b) (ha : a.natAbs < 2 ^ 53) (hb : b.natAbs < 2 ^ 53) (h : Q (.bool (decide (b < a))) s) : wpAny (model prog w) A (compareOp .Gt (.float x t) (.float y u)) Q E s := by
  subst hx hy
  refine AutoFloatOps.gt_0 ?_
  rw [cmp_H ha hb, cmp_gt]
  exact h
theorem hGe_ff (hx : x = H a) (hy : y = H b) (ha : a.natAbs < 2 ^ 53) (hb : b.natAbs < 2 ^ 53) (h : Q (.bool (decide (b ≤ a))) s) : wpAny (model prog w) A (compareOp .GtE (.float x t) (.float y u)) Q E s := by
  subst hx hy
  refine AutoFloatOps.ge_0 ?_
  rw [cmp_H ha hb, cmp_gt, cmp_eq]
  rw [show (decide (b < a) || decide (a = b)) = decide (b ≤ a) by rw [← Bool.decide_or]; congr 1; exact propext ⟨fun _ => by omega, fun _ => by omega⟩]
  exact h
theorem hEq_ff (hx : x = H a) (hy : y = H b) (ha : a.natAbs < 2 ^ 53) (hb : b.natAbs < 2 ^ 53) (h : Q (.bool (decide (a = b))) s) : wpAny (model prog w) A (compareOp .Eq (.float x t) (.float y u)) Q E s := by
  subst hx hy
  refine AutoFloatOps.eq_0 ?_
  rw [cmp_H ha hb, cmp_eq]
  exact h
theorem hNe_ff (hx : x = H a) (hy : y = H b) (ha : a.natAbs < 2 ^ 53) (hb : b.natAbs < 2 ^ 53) (h : Q (.bool (decide (a ≠ b))) s) : wpAny (model prog w) A (compareOp .NotEq (.float x t) (.float y u)) Q E s := by
  subst hx hy
  refine AutoFloatOps.ne_0 ?_
  rw [cmp_H ha hb, bne, cmp_eq]
  rw [show (!decide (a = b)) = decide (a ≠ b) by simp]
  exact h
theorem hTruthy {Q : Bool → Shared → Prop} (hx : x = H a) (ha : a.natAbs < 2 ^ 53) (h : Q (decide (a ≠ 0)) s) : wpAny (model prog w) A (truthy (.float x t)) Q E s := by
  subst hx
  refine truthy_float ?_
  rw [H_zero_iff ha]
  rw [show (!decide (a = 0)) = decide (a ≠ 0) by simp]
  exact h
end

section
variable {prog : Program} {w : World} {A : Around} {E : Value → Shared → Prop} {s : Shared} {t u : Tok} {Q : Value → Shared → Prop} {a b n : Int}
theorem hMod_ii (hb : 0 < b) (h : ∀ (tv : Tok) (tk : Nat), Q (.int (a % b) tv) { s with toks := tk }) : wpAny (model prog w) A (binaryOp .Mod (.int a t) (.int b u)) Q E s := by
  refine mod_int' (by omega) ?_
  rw [Int.fmod_eq_emod_of_nonneg _ (by omega)]
  exact h _ _
theorem hDivmod {h₀ : Heap} {L : Addr} {m : Str → Option Value} {news : List (Addr × Obj)} (F : Fr h₀ L s.heap m) (N : News h₀ L s.heap news) (hb : 0 < b) (hb2 : b < 1000000000)
    (h : ∀ h' : Heap, Fr h₀ L h' m → News h₀ L h' ((s.heap.objs.size, { cls := .type "tuple", data := .seq #[.int (a / b) s.toks, .int (a % b) (s.toks + 1)] }) :: news) →
      Q (.ref s.heap.objs.size) { s with heap := h', toks := s.toks + 1 + 1 }) : wpAny (model prog w) A (call (.builtin "divmod") [.int a t, .int b u]) Q E s := by
  refine divmod_N F N (by omega) ?_ (.inl (PyProof.noPylong_small (by omega)))
  rw [Int.fmod_eq_emod_of_nonneg _ (by omega), Int.fdiv_eq_ediv_of_nonneg _ (by omega)]
  exact h
end
section
variable {c : Prop} [Decidable c] {P Q : Prop} {x y : Int}
theorem pr_decT (h : c) (hp : P) : if decide c = true then P else Q := by rw [if_pos (decide_eq_true h)]; exact hp
theorem pr_decF (h : ¬ c) (hq : Q) : if decide c = true then P else Q := by rw [if_neg (by simpa using h)]; exact hq
theorem pr_ieqT (h : x = y) (hp : P) : if (x == y) = true then P else Q := by rw [if_pos (by simpa using h)]; exact hp
theorem pr_ieqF (h : x ≠ y) (hq : Q) : if (x == y) = true then P else Q := by rw [if_neg (by simpa using h)]; exact hq
theorem pr_ineT (h : x ≠ y) (hp : P) : if (x != y) = true then P else Q := by rw [if_pos (by simpa using h)]; exact hp
theorem pr_ineF (h : x = y) (hq : Q) : if (x != y) = true then P else Q := by rw [if_neg (by simpa using h)]; exact hq
theorem pr_false {b : Bool} (h : b = false) (hq : Q) : if b = true then P else Q := by rw [h]; exact hq
end

section
variable {prog : Program} {w : World} {A : Around} {E : Value → Shared → Prop} {s : Shared} {t u : Tok} {Q : Value → Shared → Prop} {x : UInt64} {a b n m l d : Int}
theorem hAdd_fi0 (hn : n.natAbs < 2 ^ 50) (h : ∀ (tv : Tok) (tk : Nat), Q (.float (Float64.add x (Float64.ofInt n)) tv) { s with toks := tk }) : wpAny (model prog w) A (binaryOp .Add (.float x t) (.int n u)) Q E s :=
  add_fi_fits (fits_of (by omega)) (h _ _)
theorem mo_of (hm : 1 ≤ m ∧ m ≤ 12) (hd : 1 ≤ d ∧ d ≤ 31) (hl : (m ≤ 2 ∧ l = 0) ∨ (2 < m ∧ (l = -1 ∨ l = -2))) :
    Float64.isFinite (Float64.add (Float64.add (Float64.ofFrac (decide ((367 * m - 362) < 0) != decide ((12 : Int) < 0)) (367 * m - 362).natAbs (12 : Int).natAbs) (Float64.ofInt l)) (Float64.ofInt d)) = true ∧
    toInt Float64.floorOf (Float64.add (Float64.add (Float64.ofFrac (decide ((367 * m - 362) < 0) != decide ((12 : Int) < 0)) (367 * m - 362).natAbs (12 : Int).natAbs) (Float64.ofInt l)) (Float64.ofInt d)) = (367 * m - 362) / 12 + l + d := by
  have h := month_off ⟨m.toNat, by omega⟩ ⟨(-l).toNat, by omega⟩ ⟨d.toNat, by omega⟩ (by show 0 < m.toNat; omega) (by show 0 < d.toNat; omega) (by show m.toNat ≤ 2 → (-l).toNat = 0; omega) (by show 2 < m.toNat → (-l).toNat ≠ 0; omega)
  have e1 : ((m.toNat : Nat) : Int) = m := by omega
  have e2 : -(((-l).toNat : Nat) : Int) = l := by omega
  have e3 : ((d.toNat : Nat) : Int) = d := by omega
  simp only [e1, e2, e3] at h
  refine ⟨h.1, h.2.trans ?_⟩
  omega
theorem hFloor_mo (hh : A.handled = none) (hm : 1 ≤ m ∧ m ≤ 12) (hd : 1 ≤ d ∧ d ≤ 31) (hl : (m ≤ 2 ∧ l = 0) ∨ (2 < m ∧ (l = -1 ∨ l = -2))) (h : ∀ (tv : Tok) (tk : Nat), Q (.int ((367 * m - 362) / 12 + l + d) tv) { s with toks := tk }) :
    wpAny (model prog w) A (call (.builtin "math.floor") [.float (Float64.add (Float64.add (Float64.ofFrac (decide ((367 * m - 362) < 0) != decide ((12 : Int) < 0)) (367 * m - 362).natAbs (12 : Int).natAbs) (Float64.ofInt l)) (Float64.ofInt d)) t]) Q E s :=
  hFloor_of hh (mo_of hm hd hl) h
end

section
variable {prog : Program} {w : World} {A : Around} {E : Value → Shared → Prop} {s : Shared} {t u : Tok} {Q : Value → Shared → Prop} {a b : Int}
theorem hAdd_ii (h : ∀ (tv : Tok) (tk : Nat), Q (.int (a + b) tv) { s with toks := tk }) : wpAny (model prog w) A (binaryOp .Add (.int a t) (.int b u)) Q E s := add_int (h _ _)
theorem hMul_ii (ok : IntMulOk a b) (h : ∀ (tv : Tok) (tk : Nat), Q (.int (a * b) tv) { s with toks := tk }) : wpAny (model prog w) A (binaryOp .Mult (.int a t) (.int b u)) Q E s := mul_int (h _ _) ok
theorem hNeg_i (h : ∀ (tv : Tok) (tk : Nat), Q (.int (-a) tv) { s with toks := tk }) : wpAny (model prog w) A (unaryOp .USub (.int a t)) Q E s := neg_int (h _ _)
theorem hSub_ii (h : ∀ (tv : Tok) (tk : Nat), Q (.int (a - b) tv) { s with toks := tk }) : wpAny (model prog w) A (binaryOp .Sub (.int a t) (.int b u)) Q E s := sub_int (h _ _)
end
end Mine
namespace Mine
open PySem PySem.W PyProof.Rows PySem.Calls PySem.Spec

abbrev Ret (h₀ : Heap) (L : Addr) (m : Str → Option Value) (news : List (Addr × Obj)) (s : Shared) (Q : Value → Shared → Prop) (R : Tok → Value) (post : Prop) : Prop :=
  ∀ (t : Tok) (h' : Heap) (tk' : Nat), post → Fr h₀ L h' m → News h₀ L h' news → Q (R t) { s with heap := h', toks := tk' }

abbrev ClaimG (n : Nat) (prog : Program) (w : World) (K : Frag) (p : Program) (loose : List Str) (mean : ExcName → Option Value) (mg mb : Str → Option Value) (f : Addr) (vs : List Value) (R : Tok → Value) (post : Prop) : Prop :=
  ∀ (dp un : Nat) (gd : Option (List Code)) (cn : Str) (cs : Scope) (a : Addr) (ccd : Value) (cl : List (Str × Addr)) (outer : List Env) (A₀ : Around) (base h₀ : Heap) (L : Addr) (m : Str → Option Value) (news : List (Addr × Obj)) (s : Shared) (Q E : Value → Shared → Prop),
    Below A₀ base outer h₀ → Fr h₀ L s.heap m → K.In h₀ → News h₀ L s.heap news → Top p loose mean mg mb h₀ → cs.kind = .function → dp + n < recursionLimit → un + 8 * n < cLine →
    Ret h₀ L m news s Q R post →
    wpAny (model prog w) (ktrTop dp un gd cn cs L a ccd cl outer) (call (.ref f) vs) Q E s

/-- the contract of a def of this program -/
abbrev Claim (n : Nat) (w : World) (mean : ExcName → Option Value) (mg mb : Str → Option Value) (f : Addr) (vs : List Value) (R : Tok → Value) (post : Prop) : Prop :=
  ClaimG n PySem.Challenge.rw_ad5022_01.row.prog w (hd.heap_39 w.params) hd.view_39 (looseW hd.view_39 [Str.ofString "to_jd_gregorian", Str.ofString "from_jd_gregorian", Str.ofString "to_jd_hebrew", Str.ofString "from_jd_hebrew"]) mean mg mb f vs R post

section
variable {h₀ h' : Heap} {L : Addr} {m : Str → Option Value} {news : List (Addr × Obj)} {s : Shared} {Q : Value → Shared → Prop} {post : Prop} {tk' : Nat}
theorem ret_int {x y : Int} {t : Tok} (hret : Ret h₀ L m news s Q (fun t => .int x t) post) (e : y = x) (hp : post) (F : Fr h₀ L h' m) (N : News h₀ L h' news) : Q (.int y t) { s with heap := h', toks := tk' } := by
  subst e
  exact hret t h' tk' hp F N
theorem ret_bool {x y : Bool} (hret : Ret h₀ L m news s Q (fun _ => .bool x) post) (e : y = x) (hp : post) (F : Fr h₀ L h' m) (N : News h₀ L h' news) : Q (.bool y) { s with heap := h', toks := tk' } := by
  subst e
  exact hret 0 h' tk' hp F N
theorem ret_flt {x y : Int} {t : Tok} (hret : Ret h₀ L m news s Q (fun t => .float (H x) t) post) (e : y = x) (hp : post) (F : Fr h₀ L h' m) (N : News h₀ L h' news) : Q (.float (H y) t) { s with heap := h', toks := tk' } := by
  subst e
  exact hret t h' tk' hp F N
end
theorem use {n : Nat} {prog : Program} {w : World} {K : Frag} {p : Program} {loose : List Str} {mean : ExcName → Option Value} {mg mb : Str → Option Value} {f : Addr} {vs : List Value} {R : Tok → Value} {post : Prop}
    {dp un : Nat} {gd : Option (List Code)} {cn : Str} {cs : Scope} {a : Addr} {ccd : Value} {cl : List (Str × Addr)} {outer : List Env} {A₀ : Around} {base h₀ : Heap} {L : Addr} {m : Str → Option Value} {news : List (Addr × Obj)} {s : Shared} {Q E : Value → Shared → Prop}
    (C : ClaimG n prog w K p loose mean mg mb f vs R post) (B : Below A₀ base outer h₀) (F : Fr h₀ L s.heap m) (X : K.In h₀) (N : News h₀ L s.heap news) (T : Top p loose mean mg mb h₀) (hk : cs.kind = .function) (hd : dp + n < recursionLimit) (hu : un + 8 * n < cLine)
    (ret : Ret h₀ L m news s Q R post) : wpAny (model prog w) (ktrTop dp un gd cn cs L a ccd cl outer) (call (.ref f) vs) Q E s := C _ _ _ _ _ _ _ _ _ _ _ _ _ _ _ _ _ _ B F X N T hk hd hu ret

def leapG (y : Int) : Bool := decide (y % 4 = 0) && (decide (y % 100 ≠ 0) || decide (y % 400 = 0))
def leapH (y : Int) : Bool := decide ((y * 7 + 1) % 19 < 7)
def mon (y : Int) : Int := (235 * y - 234) / 19
def day0 (y : Int) : Int := mon y * 29 + (12084 + 13753 * mon y) / 25920
def D1 (y : Int) : Int := if 3 * (day0 y + 1) % 7 < 3 then day0 y + 1 else day0 y
def D2 (y : Int) : Int := if D1 (y + 1) - D1 y = 356 then 2 else if D1 y - D1 (y - 1) = 382 then 1 else 0
theorem D1_bd {y : Int} (hy : -1000 ≤ y ∧ y ≤ 25000) : -500000 ≤ D1 y ∧ D1 y ≤ 10000000 := by
  unfold D1 day0 mon
  split <;> omega
theorem D2_bd (y : Int) : 0 ≤ D2 y ∧ D2 y ≤ 2 := by
  unfold D2
  repeat' split
  all_goals omega

/-- the noon that opens the Hebrew year -/
def T (y : Int) : Int := 347998 + D1 y + D2 y
theorem leapG_1 {y : Int} (h : y % 4 ≠ 0) : (y % 4 == 0) = leapG y := by
  unfold leapG
  simp [h]
theorem leapG_2 {y : Int} (h : y % 4 = 0) (h2 : y % 100 ≠ 0) : (y % 100 != 0) = leapG y := by
  unfold leapG
  simp [h, h2]
theorem leapG_3 {y : Int} (h : y % 4 = 0) (h2 : y % 100 = 0) : (y % 400 == 0) = leapG y := by
  unfold leapG
  simp [h, h2]
  by_cases h3 : y % 400 = 0 <;> simp [h3]
theorem cb_drop1 {h₀ h : Heap} {L : Addr} {news : List (Addr × Obj)} {a : Addr × Obj} (N : News h₀ L h (a :: news)) : News h₀ L h news := fun p hp => N p (.tail _ hp)
/-- twice the day of to_jd, before the cut, without the months -/
def J7 (y d : Int) : Int := 695991 + 2 * D1 y + 2 * D2 y + 2 * d + 2
/-- the days of the Hebrew year -/
def YD (y : Int) : Int := tr (J7 (y + 1) 1) - tr (J7 y 1)
theorem J7_bd {y d : Int} (hy : -1000 ≤ y ∧ y ≤ 25000) (hd : 0 ≤ d ∧ d ≤ 1000) : -400000 ≤ J7 y d ∧ J7 y d ≤ 21000000 := by
  have := D1_bd hy
  have := D2_bd y
  unfold J7
  omega
/-- the length of a Hebrew month -/
def ML (y m : Int) : Int :=
  if m = 2 ∨ m = 4 ∨ m = 6 ∨ m = 10 ∨ m = 13 then 29 else if m = 12 ∧ leapH y = false then 29 else if m = 8 ∧ (T (y + 1) - T y) % 10 ≠ 5 then 29 else if m = 9 ∧ (T (y + 1) - T y) % 10 = 3 then 29 else 30
theorem ML_bd (y m : Int) : 29 ≤ ML y m ∧ ML y m ≤ 30 := by
  unfold ML
  repeat' split
  all_goals omega
def SM (y a : Int) : Nat → Int
  | 0 => 0
  | n + 1 => SM y a n + ML y (a + (n : Int))
theorem SM_bd (y a : Int) : ∀ n : Nat, 0 ≤ SM y a n ∧ SM y a n ≤ 31 * (n : Int)
  | 0 => by unfold SM; omega
  | n + 1 => by
    have := SM_bd y a n
    have := ML_bd y (a + n)
    unfold SM
    omega

theorem YD_bd {y : Int} (hy : -1000 ≤ y ∧ y ≤ 24999) : -22000000 ≤ YD y ∧ YD y ≤ 22000000 := by
  have h1 := J7_bd (y := y) (d := 1) (by omega) (by omega)
  have h2 := J7_bd (y := y + 1) (d := 1) (by omega) (by omega)
  have h3 := tr_bd (J7 y 1)
  have h4 := tr_bd (J7 (y + 1) 1)
  unfold YD
  omega
theorem ML_1 {y m : Int} (h : m = 2 ∨ m = 4 ∨ m = 6 ∨ m = 10 ∨ m = 13) : 29 = ML y m := by unfold ML; rw [if_pos h]
theorem ML_2 {y m : Int} (h : m = 12) (hl : leapH y = false) : 29 = ML y m := by
  unfold ML
  rw [if_neg (by omega), if_pos ⟨h, hl⟩]
theorem ML_3 {y m : Int} (h : m = 8) (hl : (T (y + 1) - T y) % 10 ≠ 5) : 29 = ML y m := by
  unfold ML
  rw [if_neg (by omega), if_neg (by omega), if_pos ⟨h, hl⟩]
theorem ML_4 {y m : Int} (h : m = 9) (hl : (T (y + 1) - T y) % 10 = 3) : 29 = ML y m := by
  unfold ML
  rw [if_neg (by omega), if_neg (by omega), if_neg (by omega), if_pos ⟨h, hl⟩]
theorem ML_5 {y m : Int} (h : m ≠ 2 ∧ m ≠ 4 ∧ m ≠ 6 ∧ m ≠ 10 ∧ m ≠ 13) (h2 : m ≠ 12 ∨ leapH y = true) (h3 : m ≠ 8 ∨ (T (y + 1) - T y) % 10 = 5) (h4 : m ≠ 9 ∨ (T (y + 1) - T y) % 10 ≠ 3) : 30 = ML y m := by
  unfold ML
  rw [if_neg (by omega), if_neg (by rintro ⟨a, b⟩; rcases h2 with q | q; exact q a; rw [b] at q; cases q), if_neg (by omega), if_neg (by omega)]

theorem any5T {m : Int} (h : ([2, 4, 6, 10, 13].any fun x => x == m) = true) : m = 2 ∨ m = 4 ∨ m = 6 ∨ m = 10 ∨ m = 13 := by
  simp at h
  omega
theorem any5F {m : Int} (h : ([2, 4, 6, 10, 13].any fun x => x == m) = false) : m ≠ 2 ∧ m ≠ 4 ∧ m ≠ 6 ∧ m ≠ 10 ∧ m ≠ 13 := by
  simp at h
  omega

def mY (y : Int) : Int := if leapH y then 13 else 12
theorem mY_bd (y : Int) : mY y = 12 ∨ mY y = 13 := by
  unfold mY
  split <;> simp
theorem mY_1 {y : Int} (h : leapH y = true) : 13 = mY y := by unfold mY; rw [if_pos h]
theorem mY_2 {y : Int} (h : leapH y = false) : 12 = mY y := by unfold mY; rw [h]; rfl
/-- the days of the months ahead of month m -/
def offH (y m : Int) : Int := if m < 7 then SM y 7 (mY y + 1 - 7).toNat + SM y 1 (m - 1).toNat else SM y 7 (m - 7).toNat
theorem offH_1 {y m : Int} (h : m < 7) : offH y m = SM y 7 (mY y + 1 - 7).toNat + SM y 1 (m - 1).toNat := by unfold offH; rw [if_pos h]
theorem offH_2 {y m : Int} (h : ¬ m < 7) : offH y m = SM y 7 (m - 7).toNat := by unfold offH; rw [if_neg h]
theorem offH_bd {y m : Int} (hm : 1 ≤ m ∧ m ≤ 13) : 0 ≤ offH y m ∧ offH y m ≤ 400 := by
  have := mY_bd y
  have := SM_bd y 7 (mY y + 1 - 7).toNat
  have := SM_bd y 1 (m - 1).toNat
  have := SM_bd y 7 (m - 7).toNat
  unfold offH
  split <;> omega
/-- twice the midnight of a Hebrew date, before the cut -/
def HN (y m d : Int) : Int := J7 y d + 2 * offH y m
theorem HN_bd {y m d : Int} (hy : -1000 ≤ y ∧ y ≤ 25000) (hm : 1 ≤ m ∧ m ≤ 13) (hd : 0 ≤ d ∧ d ≤ 1000) : -400000 ≤ HN y m d ∧ HN y m d ≤ 21001000 ∧ 2 * tr (HN y m d) ≤ HN y m d + 1 ∧ HN y m d - 1 ≤ 2 * tr (HN y m d) := by
  have := J7_bd hy hd
  have := offH_bd (y := y) hm
  have := tr_bd (HN y m d)
  unfold HN at *
  omega

/-- the days of a Gregorian month -/
def dim (y m : Int) : Int := if m = 2 then (if leapG y then 29 else 28) else if m = 4 ∨ m = 6 ∨ m = 9 ∨ m = 11 then 30 else 31
def ladj (y m : Int) : Int := if m ≤ 2 then 0 else if leapG y then -1 else -2
/-- the noon of a Gregorian date -/
def gN (y m d : Int) : Int := 1721425 + 365 * (y - 1) + (y - 1) / 4 - (y - 1) / 100 + (y - 1) / 400 + (367 * m - 362) / 12 + ladj y m + d
theorem dim_bd (y m : Int) : 28 ≤ dim y m ∧ dim y m ≤ 31 := by
  unfold dim
  repeat' split
  all_goals omega
theorem ladj_bd (y m : Int) : (m ≤ 2 ∧ ladj y m = 0) ∨ (2 < m ∧ (ladj y m = -1 ∨ ladj y m = -2)) := by
  unfold ladj
  repeat' split
  all_goals omega
theorem gN_bd {y m d : Int} (hy : -5000 ≤ y ∧ y ≤ 25000) (hm : 1 ≤ m ∧ m ≤ 12) (hd : 1 ≤ d ∧ d ≤ 31) : -200000 ≤ gN y m d ∧ gN y m d ≤ 11000000 := by
  have := ladj_bd y m
  unfold gN
  omega
theorem dim_1 {y m : Int} (h : m = 2) (hl : leapG y = true) : dim y m = 29 := by unfold dim; rw [if_pos h, if_pos hl]
theorem dim_2 {y m : Int} (h : m = 2) (hl : leapG y = false) : dim y m = 28 := by unfold dim; rw [if_pos h, hl]; rfl
theorem dim_3 {y m : Int} (h : m = 4 ∨ m = 6 ∨ m = 9 ∨ m = 11) : dim y m = 30 := by unfold dim; rw [if_neg (by omega), if_pos h]
theorem dim_4 {y m : Int} (h2 : m ≠ 2) (h : ¬ (m = 4 ∨ m = 6 ∨ m = 9 ∨ m = 11)) : dim y m = 31 := by unfold dim; rw [if_neg h2, if_neg h]
theorem any4T {m : Int} (h : ([4, 6, 9, 11].any fun x => x == m) = true) : m = 4 ∨ m = 6 ∨ m = 9 ∨ m = 11 := by
  simp at h
  omega
theorem any4F {m : Int} (h : ([4, 6, 9, 11].any fun x => x == m) = false) : ¬ (m = 4 ∨ m = 6 ∨ m = 9 ∨ m = 11) := by
  simp at h
  omega
theorem ladj_1 {y m : Int} (h : m ≤ 2) : ladj y m = 0 := by unfold ladj; rw [if_pos h]
theorem ladj_2 {y m : Int} (h : ¬ m ≤ 2) (hl : leapG y = true) : ladj y m = -1 := by unfold ladj; rw [if_neg h, if_pos hl]
theorem ladj_3 {y m : Int} (h : ¬ m ≤ 2) (hl : leapG y = false) : ladj y m = -2 := by unfold ladj; rw [if_neg h, hl]; rfl
end Mine
namespace Mine

theorem leapG_iff (y : Int) : leapG y = true ↔ (y % 4 = 0 ∧ (y % 100 ≠ 0 ∨ y % 400 = 0)) := by
  unfold leapG
  simp
theorem leapG_not (y : Int) : leapG y = false ↔ ¬ (y % 4 = 0 ∧ (y % 100 ≠ 0 ∨ y % 400 = 0)) := by
  rw [← leapG_iff]
  simp
/-- the days of February -/
def feb (y : Int) : Int := if leapG y then 29 else 28
theorem feb_cases (y : Int) : (feb y = 29 ∧ y % 4 = 0 ∧ (y % 100 ≠ 0 ∨ y % 400 = 0) ∧ leapG y = true) ∨ (feb y = 28 ∧ ¬ (y % 4 = 0 ∧ (y % 100 ≠ 0 ∨ y % 400 = 0)) ∧ leapG y = false) := by
  unfold feb
  by_cases h : leapG y = true
  · left
    have := (leapG_iff y).mp h
    exact ⟨by rw [if_pos h], this.1, this.2, h⟩
  · have h' : leapG y = false := by simpa using h
    right
    exact ⟨by rw [h']; rfl, (leapG_not y).mp h', h'⟩
theorem dim_feb (y m : Int) : dim y m = if m = 2 then feb y else if m = 4 ∨ m = 6 ∨ m = 9 ∨ m = 11 then 30 else 31 := rfl
theorem ladj_feb (y m : Int) : ladj y m = if m ≤ 2 then 0 else feb y - 30 := by
  unfold ladj feb
  by_cases h : leapG y = true <;> simp [h]
/-- a day's place in its Gregorian year -/
theorem yday {y m d : Int} : gN y m d - gN y 1 1 = (367 * m - 362) / 12 + ladj y m + d - 1 := by
  have : ladj y 1 = 0 := by rw [ladj_feb]; simp
  unfold gN
  omega
theorem m12 {m : Int} (hm : 1 ≤ m ∧ m ≤ 12) : m = 1 ∨ m = 2 ∨ m = 3 ∨ m = 4 ∨ m = 5 ∨ m = 6 ∨ m = 7 ∨ m = 8 ∨ m = 9 ∨ m = 10 ∨ m = 11 ∨ m = 12 := by omega
theorem yday_bd {y m d : Int} (hm : 1 ≤ m ∧ m ≤ 12) (hd : 1 ≤ d ∧ d ≤ dim y m) : 0 ≤ gN y m d - gN y 1 1 ∧ gN y m d - gN y 1 1 < 337 + feb y := by
  rw [yday, ladj_feb]
  rw [dim_feb] at hd
  have := feb_cases y
  rcases m12 hm with rfl | rfl | rfl | rfl | rfl | rfl | rfl | rfl | rfl | rfl | rfl | rfl <;> simp at hd ⊢ <;> omega

theorem greg_year {y m d D q r c r2 f r3 i : Int} (hm : 1 ≤ m ∧ m ≤ 12) (hd : 1 ≤ d ∧ d ≤ dim y m) (hD : D = gN y m d - 1721426) (hq : q = D / 146097) (hr : r = D % 146097) (hc : c = r / 36524) (hr2 : r2 = r % 36524) (hf : f = r2 / 1461)
    (hr3 : r3 = r2 % 1461) (hi : i = r3 / 365) : (c = 4 ∨ i = 4 → 400 * q + 100 * c + 4 * f + i = y) ∧ (¬ (c = 4 ∨ i = 4) → 400 * q + 100 * c + 4 * f + i + 1 = y) := by
  have h1 := yday_bd hm hd
  have h2 := feb_cases y
  have h3 : gN y 1 1 = 1721426 + 365 * (y - 1) + (y - 1) / 4 - (y - 1) / 100 + (y - 1) / 400 := by
    have : ladj y 1 = 0 := by rw [ladj_feb]; simp
    unfold gN
    omega
  generalize gN y m d = N at *
  generalize gN y 1 1 = J at *
  generalize feb y = F at *
  obtain ⟨Q, hQ⟩ : ∃ Q, Q = (y - 1) / 400 := ⟨_, rfl⟩
  obtain ⟨C, hC⟩ : ∃ C, C = (y - 1) % 400 / 100 := ⟨_, rfl⟩
  obtain ⟨G, hG⟩ : ∃ G, G = (y - 1) % 100 / 4 := ⟨_, rfl⟩
  obtain ⟨I, hI⟩ : ∃ I, I = (y - 1) % 4 := ⟨_, rfl⟩
  have e0 : y - 1 = 400 * Q + 100 * C + 4 * G + I := by omega
  have b1 : 0 ≤ C ∧ C ≤ 3 ∧ 0 ≤ G ∧ G ≤ 24 ∧ 0 ≤ I ∧ I ≤ 3 := by omega
  have e1 : J = 1721426 + 146097 * Q + 36524 * C + 1461 * G + 365 * I := by omega
  have e2 : F = 29 → I = 3 ∧ (G ≠ 24 ∨ C = 3) := by omega
  have e3 : F = 28 ∨ F = 29 := by omega
  clear h2 h3 hQ hC hG hI
  have eq : q = Q := by omega
  have er : r = D - 146097 * Q := by omega
  have key : (r = 146096 ∧ C = 3 ∧ G = 24 ∧ I = 3) ∨ c = C := by omega
  rcases key with k | k
  · have : c = 4 := by omega
    have : r2 = 0 := by omega
    have : f = 0 := by omega
    have : r3 = 0 := by omega
    have : i = 0 := by omega
    refine ⟨fun _ => by omega, fun h => absurd (.inl (by omega)) h⟩
  · have e5 : r2 = r - 36524 * C := by omega
    have e6 : f = G := by omega
    have e7 : r3 = r2 - 1461 * G := by omega
    have key2 : (i = 4 ∧ I = 3) ∨ (i = I) := by omega
    refine ⟨fun h => by omega, fun h => by omega⟩

theorem greg_month {y m d v la : Int} (hm : 1 ≤ m ∧ m ≤ 12) (hd : 1 ≤ d ∧ d ≤ dim y m) (hv : v = gN y m d - gN y 1 1) (hla : (v < 58 + (feb y - 28) ∧ la = 0) ∨ (¬ v < 58 + (feb y - 28) ∧ la = 30 - feb y)) :
    ((v + la) * 12 + 373) / 367 = m := by
  rw [yday, ladj_feb] at hv
  rw [dim_feb] at hd
  have := feb_cases y
  rcases m12 hm with rfl | rfl | rfl | rfl | rfl | rfl | rfl | rfl | rfl | rfl | rfl | rfl <;> simp at hd hv ⊢ <;> omega

theorem greg_walk {y m d v9 v8 v7 v6 v5 v4 v3 v2 v1 v0 : Int} (hm : 1 ≤ m ∧ m ≤ 12) (hd : 1 ≤ d ∧ d ≤ dim y m) (h9 : v9 = 2 * ((2 * gN y m d - 1 - 1) / 2) + 1) (h8 : v8 = v9 - 3442851) (h7 : v7 = v8 / (2 * 146097)) (h6 : v6 = 2 * (v8 / 2 % 146097))
    (h5 : v5 = v6 / (2 * 36524)) (h4 : v4 = 2 * (v6 / 2 % 36524)) (h3 : v3 = v4 / (2 * 1461)) (h2 : v2 = 2 * (v4 / 2 % 1461)) (h1 : v1 = v2 / (2 * 365)) (h0 : v0 = v7 * 400 + v5 * 100 + v3 * 4 + v1) :
    v9 = 2 * gN y m d - 1 ∧ (v5 = 4 ∨ v1 = 4 → v0 = y) ∧ (¬ (v5 = 4 ∨ v1 = 4) → v0 + 1 = y) ∧ y - 1 ≤ v0 ∧ v0 ≤ y := by
  have e9 : v9 = 2 * gN y m d - 1 := by omega
  have g := greg_year (D := v8 / 2) (q := v7) (r := v6 / 2) (c := v5) (r2 := v4 / 2) (f := v3) (r3 := v2 / 2) (i := v1) hm hd (by omega) (by omega) (by omega) (by omega) (by omega) (by omega) (by omega) (by omega)
  clear h9 h8 h7 h6 h5 h4 h3 h2 h1
  refine ⟨e9, fun h => ?_, fun h => ?_, ?_, ?_⟩
  · have := g.1 h; omega
  · have := g.2 h; omega
  · by_cases h : v5 = 4 ∨ v1 = 4
    · have := g.1 h; omega
    · have := g.2 h; omega
  · by_cases h : v5 = 4 ∨ v1 = 4
    · have := g.1 h; omega
    · have := g.2 h; omega

/-- the correction ahead of the month's number -/
def lad (y v : Int) : Int := if v < 58 + (feb y - 28) then 0 else 30 - feb y
theorem lad_bd (y v : Int) : 0 ≤ lad y v ∧ lad y v ≤ 2 := by
  have := feb_cases y
  unfold lad
  split <;> omega
theorem lad_month {y m d v : Int} (hm : 1 ≤ m ∧ m ≤ 12) (hd : 1 ≤ d ∧ d ≤ dim y m) (hv : v = gN y m d - gN y 1 1) : ((v + lad y v) * 12 + 373) / 367 = m := by
  refine greg_month hm hd hv ?_
  unfold lad
  split
  · left; exact ⟨by assumption, rfl⟩
  · right; exact ⟨by assumption, rfl⟩

theorem gN_day (y m d : Int) : gN y m d - gN y m 1 = d - 1 := by unfold gN; omega
theorem lad_1 {y v1 v9 N J v0 : Int} (h0 : v0 = 0) (h : v1 < 2 * (58 + if leapG y = true then 1 else 0)) (hv : v1 = v9 - (2 * J - 1)) (e9 : v9 = 2 * N - 1) : v0 = lad y (N - J) := by
  have h2 := feb_cases y
  unfold lad
  rcases h2 with ⟨a, _, _, b⟩ | ⟨a, _, b⟩ <;> rw [b] at h <;> simp at h <;> rw [if_pos (by omega)] <;> exact h0
theorem lad_2 {y v1 v9 N J v0 : Int} (h0 : v0 = 1) (h : ¬ v1 < 2 * (58 + if leapG y = true then 1 else 0)) (hl : leapG y = true) (hv : v1 = v9 - (2 * J - 1)) (e9 : v9 = 2 * N - 1) : v0 = lad y (N - J) := by
  have h2 := feb_cases y
  unfold lad
  rw [hl] at h h2
  simp at h h2
  rw [if_neg (by omega)]
  omega
theorem lad_3 {y v1 v9 N J v0 : Int} (h0 : v0 = 2) (h : ¬ v1 < 2 * (58 + if leapG y = true then 1 else 0)) (hl : leapG y = false) (hv : v1 = v9 - (2 * J - 1)) (e9 : v9 = 2 * N - 1) : v0 = lad y (N - J) := by
  have h2 := feb_cases y
  unfold lad
  rw [hl] at h h2
  simp at h h2
  rw [if_neg (by omega)]
  omega

/-- the moment of the mean moon of a Hebrew year, in parts -/
def t0 (y : Int) : Int := 31524 + 765433 * mon y
def ev (y : Int) : Int :=
  if 19440 ≤ t0 y % 25920 then t0 y / 25920 + 1 else if t0 y / 25920 % 7 = 2 ∧ 9924 ≤ t0 y % 25920 ∧ leapH y = false then t0 y / 25920 + 2
  else if t0 y / 25920 % 7 = 1 ∧ 16789 ≤ t0 y % 25920 ∧ leapH (y - 1) = true then t0 y / 25920 + 1 else t0 y / 25920
/-- the law's first day of a Hebrew year -/
def TL (y : Int) : Int := 347997 + if ev y % 7 = 0 ∨ ev y % 7 = 3 ∨ ev y % 7 = 5 then ev y + 1 else ev y
theorem mon_split (y : Int) : 235 * ((y - 1) / 19) + (235 * ((y - 1) % 19) + 1) / 19 = mon y := by unfold mon; omega
theorem leapH_iff (y : Int) : leapH y = true ↔ (y * 7 + 1) % 19 < 7 := by unfold leapH; simp
theorem leapH_not (y : Int) : leapH y = false ↔ ¬ (y * 7 + 1) % 19 < 7 := by unfold leapH; simp
theorem thirteen_eq (y : Int) : ((235 * ((y - 1) % 19 + 1) + 1) / 19 - (235 * ((y - 1) % 19) + 1) / 19 == 13) = leapH y := by
  have h : ∀ p : Fin 19, ((235 * ((p.val : Int) + 1) + 1) / 19 - (235 * (p.val : Int) + 1) / 19 == 13) = decide ((7 * (p.val : Int) + 8) % 19 < 7) := by decide
  have h2 := h ⟨((y - 1) % 19).toNat, by omega⟩
  have e : ((((y - 1) % 19).toNat : Nat) : Int) = (y - 1) % 19 := by omega
  simp only [e] at h2
  rw [h2]
  unfold leapH
  congr 2
  omega
theorem t0_bd {y : Int} (hy : -1000 ≤ y ∧ y ≤ 25000) : -11000000000 ≤ t0 y ∧ t0 y ≤ 240000000000 := by unfold t0 mon; omega
theorem any3T {m : Int} (h : ([0, 3, 5].any fun x => x == m) = true) : m = 0 ∨ m = 3 ∨ m = 5 := by
  simp at h
  omega
theorem any3F {m : Int} (h : ([0, 3, 5].any fun x => x == m) = false) : ¬ (m = 0 ∨ m = 3 ∨ m = 5) := by
  simp at h
  omega
theorem ev_1 {y : Int} (h : 19440 ≤ t0 y % 25920) : ev y = t0 y / 25920 + 1 := by unfold ev; rw [if_pos h]
theorem ev_2 {y : Int} (h : ¬ 19440 ≤ t0 y % 25920) (h2 : t0 y / 25920 % 7 = 2) (h3 : 9924 ≤ t0 y % 25920) (h4 : leapH y = false) : ev y = t0 y / 25920 + 2 := by unfold ev; rw [if_neg h, if_pos ⟨h2, h3, h4⟩]
theorem ev_3 {y : Int} (h : ¬ 19440 ≤ t0 y % 25920) (h2 : t0 y / 25920 % 7 = 1) (h3 : 16789 ≤ t0 y % 25920) (h4 : leapH (y - 1) = true) : ev y = t0 y / 25920 + 1 := by
  unfold ev
  rw [if_neg h, if_neg (by omega), if_pos ⟨h2, h3, h4⟩]
theorem ev_4 {y : Int} (h : ¬ 19440 ≤ t0 y % 25920) (h2 : t0 y / 25920 % 7 ≠ 2 ∨ ¬ 9924 ≤ t0 y % 25920 ∨ leapH y = true) (h3 : t0 y / 25920 % 7 ≠ 1 ∨ ¬ 16789 ≤ t0 y % 25920 ∨ leapH (y - 1) = false) : ev y = t0 y / 25920 := by
  unfold ev
  rw [if_neg h, if_neg, if_neg]
  · rintro ⟨a, b, c⟩
    rcases h3 with q | q | q
    · exact q a
    · exact q b
    · rw [c] at q; cases q
  · rintro ⟨a, b, c⟩
    rcases h2 with q | q | q
    · exact q a
    · exact q b
    · rw [c] at q; cases q
theorem TL_1 {y : Int} (h : ev y % 7 = 0 ∨ ev y % 7 = 3 ∨ ev y % 7 = 5) : TL y = 347997 + (ev y + 1) := by unfold TL; rw [if_pos h]
theorem TL_2 {y : Int} (h : ¬ (ev y % 7 = 0 ∨ ev y % 7 = 3 ∨ ev y % 7 = 5)) : TL y = 347997 + ev y := by unfold TL; rw [if_neg h]
theorem jan_eq {y t r h r2 f o : Int} (h1 : t = (y - 1) / 400) (h2 : r = (y - 1) % 400) (h3 : h = r / 100) (h4 : r2 = r % 100) (h5 : f = r2 / 4) (h6 : o = r2 % 4) : 1721426 + 146097 * t + 36524 * h + 1461 * f + 365 * o = gN y 1 1 := by
  have : ladj y 1 = 0 := by rw [ladj_feb]; simp
  unfold gN
  omega
theorem feb_jan (y : Int) : gN (y + 1) 1 1 - gN y 1 1 - 337 = feb y := by
  have h1 : ladj y 1 = 0 := by rw [ladj_feb]; simp
  have h2 : ladj (y + 1) 1 = 0 := by rw [ladj_feb]; simp
  have := feb_cases y
  unfold gN
  omega
theorem gN_lt {y m d : Int} (hm : 1 ≤ m ∧ m ≤ 12) (hd : 1 ≤ d ∧ d ≤ dim y m) : gN y 1 1 ≤ gN y m d ∧ gN y m d < gN (y + 1) 1 1 := by
  have := yday_bd hm hd
  have := feb_jan y
  omega
theorem gN_next {y c : Int} (h : 1 ≤ c ∧ c ≤ 11) : gN y (c + 1) 1 = gN y c 1 + dim y c := by
  have e1 := yday (y := y) (m := c + 1) (d := 1)
  have e2 := yday (y := y) (m := c) (d := 1)
  rw [ladj_feb] at e1 e2
  have := feb_cases y
  have : c = 1 ∨ c = 2 ∨ c = 3 ∨ c = 4 ∨ c = 5 ∨ c = 6 ∨ c = 7 ∨ c = 8 ∨ c = 9 ∨ c = 10 ∨ c = 11 := by omega
  rw [dim_feb]
  rcases this with rfl | rfl | rfl | rfl | rfl | rfl | rfl | rfl | rfl | rfl | rfl <;> simp at e1 e2 ⊢ <;> omega
theorem gN_up {y c m : Int} (h : 1 ≤ c ∧ c < m ∧ m ≤ 12) : gN y (c + 1) 1 ≤ gN y m 1 := by
  have e1 := yday (y := y) (m := c + 1) (d := 1)
  have e2 := yday (y := y) (m := m) (d := 1)
  rw [ladj_feb] at e1 e2
  have := feb_cases y
  split at e1 <;> split at e2 <;> omega

theorem tishri_walk {y v3 v2 v1 v0 : Int} (h3 : v3 = (y - 1) / 19) (h2 : v2 = (y - 1) % 19) (h1 : v1 = (31524 + 765433 * (235 * v3 + (235 * v2 + 1) / 19)) / 25920) (h0 : v0 = (31524 + 765433 * (235 * v3 + (235 * v2 + 1) / 19)) % 25920) : v1 = t0 y / 25920 ∧ v0 = t0 y % 25920 := by
  have := mon_split y
  subst h3 h2
  rw [this] at h1 h0
  exact ⟨h1, h0⟩
end Mine
namespace Mine

theorem leap_cases (y : Int) : (leapH y = true ∧ (y * 7 + 1) % 19 < 7) ∨ (leapH y = false ∧ ¬ (y * 7 + 1) % 19 < 7) := by
  by_cases h : leapH y = true
  · exact .inl ⟨h, (leapH_iff y).mp h⟩
  · have h' : leapH y = false := by simpa using h
    exact .inr ⟨h', (leapH_not y).mp h'⟩
theorem by19 (y : Int) : ∃ k p : Int, y = 19 * k + p ∧ (p = 0 ∨ p = 1 ∨ p = 2 ∨ p = 3 ∨ p = 4 ∨ p = 5 ∨ p = 6 ∨ p = 7 ∨ p = 8 ∨ p = 9 ∨ p = 10 ∨ p = 11 ∨ p = 12 ∨ p = 13 ∨ p = 14 ∨ p = 15 ∨ p = 16 ∨ p = 17 ∨ p = 18) :=
  ⟨y / 19, y % 19, by omega, by omega⟩
theorem by7 (y : Int) : ∃ k p : Int, y = 7 * k + p ∧ (p = 0 ∨ p = 1 ∨ p = 2 ∨ p = 3 ∨ p = 4 ∨ p = 5 ∨ p = 6) := ⟨y / 7, y % 7, by omega, by omega⟩
theorem mon_next (y : Int) : (leapH y = true ∧ mon (y + 1) = mon y + 13) ∨ (leapH y = false ∧ mon (y + 1) = mon y + 12) := by
  rw [leapH_iff, leapH_not]
  unfold mon
  obtain ⟨k, p, rfl, hp⟩ := by19 y
  rcases hp with rfl | rfl | rfl | rfl | rfl | rfl | rfl | rfl | rfl | rfl | rfl | rfl | rfl | rfl | rfl | rfl | rfl | rfl | rfl <;> omega
theorem leap_up (y : Int) (h : leapH y = true) : leapH (y + 1) = false := by
  rw [leapH_iff] at h
  rw [leapH_not]
  obtain ⟨k, p, rfl, hp⟩ := by19 y
  rcases hp with rfl | rfl | rfl | rfl | rfl | rfl | rfl | rfl | rfl | rfl | rfl | rfl | rfl | rfl | rfl | rfl | rfl | rfl | rfl <;> omega
theorem leap_down (y : Int) (h : leapH y = true) : leapH (y - 1) = false := by
  rw [leapH_iff] at h
  rw [leapH_not]
  obtain ⟨k, p, rfl, hp⟩ := by19 y
  rcases hp with rfl | rfl | rfl | rfl | rfl | rfl | rfl | rfl | rfl | rfl | rfl | rfl | rfl | rfl | rfl | rfl | rfl | rfl | rfl <;> omega
/-- the days of the mean moon after the shift by six hours -/
def dd (t : Int) : Int := (t - 19440) / 25920
def gg (d : Int) : Int := if 3 * (d + 1) % 7 < 3 then d + 1 else d
theorem D1_eq (y : Int) : D1 y = gg (dd (t0 y)) := by
  have : day0 y = dd (t0 y) := by unfold day0 dd t0; omega
  unfold D1 gg
  rw [this]
theorem gg_cases (d : Int) : ((d % 7 = 6 ∨ d % 7 = 4 ∨ d % 7 = 2) ∧ gg d = d + 1) ∨ ((d % 7 = 0 ∨ d % 7 = 1 ∨ d % 7 = 3 ∨ d % 7 = 5) ∧ gg d = d) := by
  unfold gg
  obtain ⟨k, p, rfl, h⟩ := by7 d
  rcases h with rfl | rfl | rfl | rfl | rfl | rfl | rfl <;> split <;> omega
theorem next12 {t d q : Int} (h : t - 19440 = 25920 * d + q) (hq : 0 ≤ q ∧ q < 25920) : (q < 16404 ∧ dd (t + 9185196) = d + 354) ∨ (16404 ≤ q ∧ dd (t + 9185196) = d + 355) := by unfold dd; omega
theorem next13 {t d q : Int} (h : t - 19440 = 25920 * d + q) (hq : 0 ≤ q ∧ q < 25920) : (q < 2651 ∧ dd (t + 9950629) = d + 383) ∨ (2651 ≤ q ∧ dd (t + 9950629) = d + 384) := by unfold dd; omega
theorem prev12 {t d q : Int} (h : t - 19440 = 25920 * d + q) (hq : 0 ≤ q ∧ q < 25920) : (q < 9516 ∧ dd (t - 9185196) = d - 355) ∨ (9516 ≤ q ∧ dd (t - 9185196) = d - 354) := by unfold dd; omega
theorem prev13 {t d q : Int} (h : t - 19440 = 25920 * d + q) (hq : 0 ≤ q ∧ q < 25920) : (q < 23269 ∧ dd (t - 9950629) = d - 384) ∨ (23269 ≤ q ∧ dd (t - 9950629) = d - 383) := by unfold dd; omega

theorem mod7_add (d c : Int) : (d + c) % 7 = (d % 7 + c % 7) % 7 := by omega
theorem dif12n {d q z : Int} (k : (q < 16404 ∧ z = d + 354) ∨ (16404 ≤ q ∧ z = d + 355)) : gg z - gg d = 356 ↔ (d % 7 = 1 ∧ 16404 ≤ q) := by
  have h1 := gg_cases d
  have h2 := gg_cases z
  obtain ⟨j, w, rfl, hw⟩ := by7 d
  rcases k with ⟨k, rfl⟩ | ⟨k, rfl⟩ <;> rcases hw with rfl | rfl | rfl | rfl | rfl | rfl | rfl <;> omega
theorem dif13n {d q z : Int} (k : (q < 2651 ∧ z = d + 383) ∨ (2651 ≤ q ∧ z = d + 384)) : gg z - gg d ≠ 356 := by
  have h1 := gg_cases d
  have h2 := gg_cases z
  rcases k with ⟨k, rfl⟩ | ⟨k, rfl⟩ <;> omega
theorem dif13p {d q z : Int} (k : (q < 23269 ∧ z = d - 384) ∨ (23269 ≤ q ∧ z = d - 383)) : gg d - gg z = 382 ↔ (d % 7 = 0 ∧ 23269 ≤ q) := by
  have h1 := gg_cases d
  have h2 := gg_cases z
  obtain ⟨j, w, rfl, hw⟩ := by7 d
  rcases k with ⟨k, rfl⟩ | ⟨k, rfl⟩ <;> rcases hw with rfl | rfl | rfl | rfl | rfl | rfl | rfl <;> omega
theorem dif12p {d q z : Int} (k : (q < 9516 ∧ z = d - 355) ∨ (9516 ≤ q ∧ z = d - 354)) : gg d - gg z ≠ 382 := by
  have h1 := gg_cases d
  have h2 := gg_cases z
  rcases k with ⟨k, rfl⟩ | ⟨k, rfl⟩ <;> omega
/-- the two delays, told by the day and the part -/
theorem D2_eq (y d q : Int) (h : t0 y - 19440 = 25920 * d + q) (hq : 0 ≤ q ∧ q < 25920) :
    (leapH y = false ∧ d % 7 = 1 ∧ 16404 ≤ q ∧ D2 y = 2) ∨ (leapH (y - 1) = true ∧ d % 7 = 0 ∧ 23269 ≤ q ∧ D2 y = 1) ∨
    (¬ (leapH y = false ∧ d % 7 = 1 ∧ 16404 ≤ q) ∧ ¬ (leapH (y - 1) = true ∧ d % 7 = 0 ∧ 23269 ≤ q) ∧ D2 y = 0) := by
  have hd : dd (t0 y) = d := by unfold dd; omega
  have hg := gg_cases d
  have h1 : D1 y = gg d := by rw [D1_eq, hd]
  have hn := mon_next y
  have hp := mon_next (y - 1)
  rw [show y - 1 + 1 = y by omega] at hp
  have en : t0 (y + 1) = t0 y + 765433 * (mon (y + 1) - mon y) := by unfold t0; omega
  have ep : t0 (y - 1) = t0 y - 765433 * (mon y - mon (y - 1)) := by unfold t0; omega
  have hD2 : (D1 (y + 1) - D1 y = 356 ∧ D2 y = 2) ∨ (D1 (y + 1) - D1 y ≠ 356 ∧ D1 y - D1 (y - 1) = 382 ∧ D2 y = 1) ∨ (D1 (y + 1) - D1 y ≠ 356 ∧ D1 y - D1 (y - 1) ≠ 382 ∧ D2 y = 0) := by
    unfold D2
    split
    · exact .inl ⟨by assumption, rfl⟩
    · split
      · exact .inr (.inl ⟨by assumption, by assumption, rfl⟩)
      · exact .inr (.inr ⟨by assumption, by assumption, rfl⟩)
  have hnx : (leapH y = true ∧ D1 (y + 1) - D1 y ≠ 356) ∨ (leapH y = false ∧ (D1 (y + 1) - D1 y = 356 ↔ (d % 7 = 1 ∧ 16404 ≤ q))) := by
    rcases hn with ⟨a, b⟩ | ⟨a, b⟩
    · refine .inl ⟨a, ?_⟩
      have e2 : t0 (y + 1) = t0 y + 9950629 := by rw [en, b]; omega
      rw [D1_eq (y + 1), e2, h1]
      exact dif13n (next13 h hq)
    · refine .inr ⟨a, ?_⟩
      have e2 : t0 (y + 1) = t0 y + 9185196 := by rw [en, b]; omega
      rw [D1_eq (y + 1), e2, h1]
      exact dif12n (next12 h hq)
  have hpx : (leapH (y - 1) = false ∧ D1 y - D1 (y - 1) ≠ 382) ∨ (leapH (y - 1) = true ∧ (D1 y - D1 (y - 1) = 382 ↔ (d % 7 = 0 ∧ 23269 ≤ q))) := by
    rcases hp with ⟨a, b⟩ | ⟨a, b⟩
    · refine .inr ⟨a, ?_⟩
      have e2 : t0 (y - 1) = t0 y - 9950629 := by rw [ep, b]; omega
      rw [D1_eq (y - 1), e2, h1]
      exact dif13p (prev13 h hq)
    · refine .inl ⟨a, ?_⟩
      have e2 : t0 (y - 1) = t0 y - 9185196 := by rw [ep, b]; omega
      rw [D1_eq (y - 1), e2, h1]
      exact dif12p (prev12 h hq)
  clear hn hp en ep hg h1 hd h
  rcases hD2 with ⟨u, e⟩ | ⟨u, v, e⟩ | ⟨u, v, e⟩
  · rcases hnx with ⟨a, b⟩ | ⟨a, b⟩
    · exact absurd u b
    · exact .inl ⟨a, (b.mp u).1, (b.mp u).2, e⟩
  · rcases hpx with ⟨a, b⟩ | ⟨a, b⟩
    · exact absurd v b
    · exact .inr (.inl ⟨a, (b.mp v).1, (b.mp v).2, e⟩)
  · refine .inr (.inr ⟨fun c => ?_, fun c => ?_, e⟩)
    · rcases hnx with ⟨a, b⟩ | ⟨a, b⟩
      · rw [a] at c; cases c.1
      · exact u (b.mpr c.2)
    · rcases hpx with ⟨a, b⟩ | ⟨a, b⟩
      · rw [a] at c; cases c.1
      · exact v (b.mpr c.2)

/-- the first day of a Hebrew year, the program's -/

theorem T_cases (y d q : Int) (h : t0 y - 19440 = 25920 * d + q) (hq : 0 ≤ q ∧ q < 25920) :
    (leapH y = false ∧ d % 7 = 1 ∧ 16404 ≤ q ∧ T y = 348000 + d) ∨ (leapH (y - 1) = true ∧ d % 7 = 0 ∧ 23269 ≤ q ∧ T y = 347999 + d) ∨
    (¬ (leapH y = false ∧ d % 7 = 1 ∧ 16404 ≤ q) ∧ ¬ (leapH (y - 1) = true ∧ d % 7 = 0 ∧ 23269 ≤ q) ∧ T y = 347998 + gg d) := by
  have hd : dd (t0 y) = d := by unfold dd; omega
  have h1 : D1 y = gg d := by rw [D1_eq, hd]
  have hg := gg_cases d
  have h2 := D2_eq y d q h hq
  clear h hd
  unfold T
  rw [h1]
  clear h1
  rcases h2 with ⟨a, b, c, e⟩ | ⟨a, b, c, e⟩ | ⟨a, b, e⟩
  · exact .inl ⟨a, b, c, by omega⟩
  · exact .inr (.inl ⟨a, b, c, by omega⟩)
  · exact .inr (.inr ⟨a, b, by omega⟩)

theorem ev_cases (y : Int) : (19440 ≤ t0 y % 25920 ∧ ev y = t0 y / 25920 + 1) ∨ (¬ 19440 ≤ t0 y % 25920 ∧ t0 y / 25920 % 7 = 2 ∧ 9924 ≤ t0 y % 25920 ∧ leapH y = false ∧ ev y = t0 y / 25920 + 2) ∨
    (¬ 19440 ≤ t0 y % 25920 ∧ t0 y / 25920 % 7 = 1 ∧ 16789 ≤ t0 y % 25920 ∧ leapH (y - 1) = true ∧ ev y = t0 y / 25920 + 1) ∨
    (¬ 19440 ≤ t0 y % 25920 ∧ ¬ (t0 y / 25920 % 7 = 2 ∧ 9924 ≤ t0 y % 25920 ∧ leapH y = false) ∧ ¬ (t0 y / 25920 % 7 = 1 ∧ 16789 ≤ t0 y % 25920 ∧ leapH (y - 1) = true) ∧ ev y = t0 y / 25920) := by
  unfold ev
  split
  · exact .inl ⟨by assumption, rfl⟩
  · split
    · rename_i a b
      exact .inr (.inl ⟨a, b.1, b.2.1, b.2.2, rfl⟩)
    · split
      · rename_i a b c
        exact .inr (.inr (.inl ⟨a, c.1, c.2.1, c.2.2, rfl⟩))
      · exact .inr (.inr (.inr ⟨by assumption, by assumption, by assumption, rfl⟩))
theorem TL_cases (y : Int) : ((ev y % 7 = 0 ∨ ev y % 7 = 3 ∨ ev y % 7 = 5) ∧ TL y = 347998 + ev y) ∨ (¬ (ev y % 7 = 0 ∨ ev y % 7 = 3 ∨ ev y % 7 = 5) ∧ TL y = 347997 + ev y) := by
  by_cases h : ev y % 7 = 0 ∨ ev y % 7 = 3 ∨ ev y % 7 = 5
  · exact .inl ⟨h, by rw [TL_1 h]; omega⟩
  · exact .inr ⟨h, TL_2 h⟩

set_option maxHeartbeats 4000000 in
/-- the law's new year is the program's -/
theorem TL_eq (y : Int) : TL y = T y := by
  obtain ⟨d, hd⟩ : ∃ d, d = (t0 y - 19440) / 25920 := ⟨_, rfl⟩
  obtain ⟨q, hq⟩ : ∃ q, q = (t0 y - 19440) % 25920 := ⟨_, rfl⟩
  have h : t0 y - 19440 = 25920 * d + q := by omega
  have hq2 : 0 ≤ q ∧ q < 25920 := by omega
  have hT := T_cases y d q h hq2
  have hE := ev_cases y
  have hL := TL_cases y
  have hg := gg_cases d
  have e1 : (q < 6480 ∧ t0 y / 25920 = d ∧ t0 y % 25920 = q + 19440) ∨ (6480 ≤ q ∧ t0 y / 25920 = d + 1 ∧ t0 y % 25920 = q - 6480) := by omega
  clear h hd hq
  generalize t0 y / 25920 = e at *
  generalize t0 y % 25920 = p at *
  generalize ev y = v at *
  generalize TL y = A at *
  generalize T y = B at *
  generalize gg d = g at *
  obtain ⟨k, w, rfl, hw⟩ := by7 d
  rcases leap_cases y with ⟨a, b⟩ | ⟨a, b⟩ <;> rcases leap_cases (y - 1) with ⟨a', b'⟩ | ⟨a', b'⟩ <;> simp only [a, a', Bool.false_eq_true, false_and, and_false, not_false_eq_true, true_and, and_true, false_or, or_false, reduceCtorEq] at hT hE <;> clear b b' a a' <;>
    rcases hw with rfl | rfl | rfl | rfl | rfl | rfl | rfl <;> omega

set_option maxHeartbeats 4000000 in
/-- the length of a Hebrew year -/
theorem year_len (y : Int) : (leapH y = false ∧ (T (y + 1) - T y = 353 ∨ T (y + 1) - T y = 354 ∨ T (y + 1) - T y = 355)) ∨ (leapH y = true ∧ (T (y + 1) - T y = 383 ∨ T (y + 1) - T y = 384 ∨ T (y + 1) - T y = 385)) := by
  obtain ⟨d, hd⟩ : ∃ d, d = (t0 y - 19440) / 25920 := ⟨_, rfl⟩
  obtain ⟨q, hq⟩ : ∃ q, q = (t0 y - 19440) % 25920 := ⟨_, rfl⟩
  have h : t0 y - 19440 = 25920 * d + q := by omega
  have hq2 : 0 ≤ q ∧ q < 25920 := by omega
  obtain ⟨d', hd'⟩ : ∃ d, d = (t0 (y + 1) - 19440) / 25920 := ⟨_, rfl⟩
  obtain ⟨q', hq'⟩ : ∃ q, q = (t0 (y + 1) - 19440) % 25920 := ⟨_, rfl⟩
  have h' : t0 (y + 1) - 19440 = 25920 * d' + q' := by omega
  have hq2' : 0 ≤ q' ∧ q' < 25920 := by omega
  have hT := T_cases y d q h hq2
  have hT' := T_cases (y + 1) d' q' h' hq2'
  rw [show y + 1 - 1 = y by omega] at hT'
  have hg := gg_cases d
  have hg' := gg_cases d'
  have hn := mon_next y
  have en : t0 (y + 1) = t0 y + 765433 * (mon (y + 1) - mon y) := by unfold t0; omega
  have hnn := leap_up y
  have hpp := leap_down y
  generalize gg d = g at *
  generalize gg d' = g' at *
  rcases hn with ⟨a, b⟩ | ⟨a, b⟩
  · right
    refine ⟨a, ?_⟩
    rw [a, hnn a] at hT'
    rw [a, hpp a] at hT
    simp only [Bool.false_eq_true, false_and, and_false, not_false_eq_true, true_and, and_true, false_or, or_false, reduceCtorEq] at hT hT'
    have e : (q < 2651 ∧ d' = d + 383 ∧ q' = q + 23269) ∨ (2651 ≤ q ∧ d' = d + 384 ∧ q' = q - 2651) := by
      rw [b] at en
      omega
    clear h h' hd hd' hq hq' en b hq2'
    generalize T (y + 1) = A at *
    generalize T y = B at *
    omega
  · left
    refine ⟨a, ?_⟩
    have e : (q < 16404 ∧ d' = d + 354 ∧ q' = q + 9516) ∨ (16404 ≤ q ∧ d' = d + 355 ∧ q' = q - 16404) := by
      rw [b] at en
      omega
    clear h h' hd hd' hq hq' en b hq2'
    generalize T (y + 1) = A at *
    generalize T y = B at *
    rcases leap_cases (y - 1) with ⟨a', b'⟩ | ⟨a', b'⟩ <;> rcases leap_cases (y + 1) with ⟨a'', b''⟩ | ⟨a'', b''⟩ <;> simp only [a, a', a'', Bool.false_eq_true, false_and, and_false, not_false_eq_true, true_and, and_true, false_or, or_false, reduceCtorEq] at hT hT' <;> clear b' b'' hnn hpp <;> omega
end Mine
namespace Mine

theorem T_step (y : Int) : T y + 353 ≤ T (y + 1) := by
  have := year_len y
  omega
theorem T_lt : ∀ (n : Nat) (y : Int), T y + 353 * (n : Int) ≤ T (y + (n : Int))
  | 0, y => by simp
  | n + 1, y => by
    have h1 := T_lt n y
    have h2 := T_step (y + (n : Int))
    rw [show y + (n : Int) + 1 = y + ((n + 1 : Nat) : Int) by omega] at h2
    omega
theorem T_mono {a b : Int} (h : a ≤ b) : T a ≤ T b := by
  have := T_lt (b - a).toNat a
  rw [show a + ((b - a).toNat : Int) = b by omega] at this
  omega
theorem T_first : T (-951) = 285 ∨ 200 ≤ T (-951) := by right; decide +kernel
theorem T_pos {y : Int} (h : -951 ≤ y) : 200 ≤ T y := by
  have h1 := T_mono h
  have h2 : 200 ≤ T (-951) := by decide +kernel
  omega
theorem tr_2 {t : Int} (h : 1 ≤ t) : tr (2 * t - 1) = t - 1 := by unfold tr; rw [if_neg (by omega)]; omega
theorem J7_T (y d : Int) : J7 y d = 2 * (T y + d - 1) - 1 := by unfold J7 T; omega
theorem YD_T {y : Int} (h : -951 ≤ y) : YD y = T (y + 1) - T y := by
  have h1 := T_pos h
  have h2 := T_pos (y := y + 1) (by omega)
  unfold YD
  rw [J7_T, J7_T, show 2 * (T (y + 1) + 1 - 1) - 1 = 2 * T (y + 1) - 1 by omega, show 2 * (T y + 1 - 1) - 1 = 2 * T y - 1 by omega, tr_2 (by omega), tr_2 (by omega)]
  omega
/-- the noon of a Hebrew date -/
def hN (y m d : Int) : Int := T y + offH y m + d - 1
theorem HN_hN (y m d : Int) : HN y m d = 2 * hN y m d - 1 := by unfold HN hN; rw [J7_T]; omega
theorem off_nn {y m : Int} (hm : 1 ≤ m ∧ m ≤ 13) : 0 ≤ offH y m := (offH_bd hm).1
theorem tr_HN {y m d : Int} (hy : -951 ≤ y) (hm : 1 ≤ m ∧ m ≤ 13) (hd : 0 ≤ d) : 2 * tr (HN y m d) + 1 = 2 * hN y m d - 1 := by
  have h1 := T_pos hy
  have h2 := off_nn (y := y) hm
  have h3 : 1 ≤ hN y m d := by unfold hN; omega
  rw [HN_hN, tr_2 h3]
  omega
theorem SM_one (y a : Int) (n : Nat) : SM y a (n + 1) = SM y a n + ML y (a + (n : Int)) := rfl
theorem SM_mono (y a : Int) (n k : Nat) : SM y a n ≤ SM y a (n + k) := by
  induction k with
  | zero => simp
  | succ k ih =>
    have := ML_bd y (a + ((n + k : Nat) : Int))
    rw [show n + (k + 1) = n + k + 1 by omega, SM_one]
    omega
theorem SM_le {y a : Int} {n k : Nat} (h : n ≤ k) : SM y a n ≤ SM y a k := by
  have := SM_mono y a n (k - n)
  rwa [show n + (k - n) = k by omega] at this
/-- the months' lengths, told by the year's length -/
theorem ML_cases {y : Int} (h : -952 ≤ y) :
    ML y 1 = 30 ∧ ML y 2 = 29 ∧ ML y 3 = 30 ∧ ML y 4 = 29 ∧ ML y 5 = 30 ∧ ML y 6 = 29 ∧ ML y 7 = 30 ∧ ML y 10 = 29 ∧ ML y 11 = 30 ∧ ML y 13 = 29 ∧
    ((leapH y = false ∧ mY y = 12 ∧ ML y 12 = 29 ∧ ((T (y + 1) - T y = 353 ∧ ML y 8 = 29 ∧ ML y 9 = 29) ∨ (T (y + 1) - T y = 354 ∧ ML y 8 = 29 ∧ ML y 9 = 30) ∨ (T (y + 1) - T y = 355 ∧ ML y 8 = 30 ∧ ML y 9 = 30))) ∨
     (leapH y = true ∧ mY y = 13 ∧ ML y 12 = 30 ∧ ((T (y + 1) - T y = 383 ∧ ML y 8 = 29 ∧ ML y 9 = 29) ∨ (T (y + 1) - T y = 384 ∧ ML y 8 = 29 ∧ ML y 9 = 30) ∨ (T (y + 1) - T y = 385 ∧ ML y 8 = 30 ∧ ML y 9 = 30)))) := by
  have hl := year_len y
  refine ⟨rfl, rfl, rfl, rfl, rfl, rfl, rfl, rfl, rfl, rfl, ?_⟩
  have e8 : ML y 8 = if (T (y + 1) - T y) % 10 ≠ 5 then 29 else 30 := by unfold ML; simp
  have e9 : ML y 9 = if (T (y + 1) - T y) % 10 = 3 then 29 else 30 := by unfold ML; simp
  have e12 : ML y 12 = if leapH y = false then 29 else 30 := by unfold ML; simp
  generalize T (y + 1) - T y = L at *
  rw [e8, e9, e12]
  unfold mY
  rcases hl with ⟨a, b⟩ | ⟨a, b⟩
  · left
    refine ⟨a, by rw [a]; rfl, by rw [if_pos a], ?_⟩
    rcases b with rfl | rfl | rfl <;> decide
  · right
    refine ⟨a, by rw [if_pos a], by rw [a]; rfl, ?_⟩
    rcases b with rfl | rfl | rfl <;> decide
theorem SM7 (y : Int) : SM y 7 5 = ML y 7 + ML y 8 + ML y 9 + ML y 10 + ML y 11 := by
  simp [SM]
theorem SM_year {y : Int} (h : -952 ≤ y) : SM y 7 (mY y + 1 - 7).toNat + SM y 1 6 = T (y + 1) - T y := by
  have hc := ML_cases h
  have e1 : SM y 1 6 = ML y 1 + ML y 2 + ML y 3 + ML y 4 + ML y 5 + ML y 6 := by simp [SM]
  rcases hc with ⟨a1, a2, a3, a4, a5, a6, a7, a10, a11, a13, b | b⟩
  · have e2 : SM y 7 (mY y + 1 - 7).toNat = ML y 7 + ML y 8 + ML y 9 + ML y 10 + ML y 11 + ML y 12 := by rw [b.2.1]; simp [SM]
    omega
  · have e2 : SM y 7 (mY y + 1 - 7).toNat = ML y 7 + ML y 8 + ML y 9 + ML y 10 + ML y 11 + ML y 12 + ML y 13 := by rw [b.2.1]; simp [SM]
    omega

/-- a date that its Hebrew year has -/
def VD (y m d : Int) : Prop := 1 ≤ m ∧ m ≤ mY y ∧ 1 ≤ d ∧ d ≤ ML y m
theorem off_next {y c : Int} (h : (1 ≤ c ∧ c ≤ 5) ∨ (7 ≤ c ∧ c ≤ 12)) : offH y (c + 1) = offH y c + ML y c := by
  rcases h with h | h
  · rw [offH_1 (by omega), offH_1 (by omega)]
    have e : (c + 1 - 1).toNat = (c - 1).toNat + 1 := by omega
    rw [e, SM_one, show 1 + (((c - 1).toNat : Nat) : Int) = c by omega]
    omega
  · rw [offH_2 (by omega), offH_2 (by omega)]
    have e : (c + 1 - 7).toNat = (c - 7).toNat + 1 := by omega
    rw [e, SM_one, show 7 + (((c - 7).toNat : Nat) : Int) = c by omega]
theorem off_up {y c m : Int} (h : (1 ≤ c ∧ c ≤ m ∧ m ≤ 6) ∨ (7 ≤ c ∧ c ≤ m ∧ m ≤ 13)) : offH y c ≤ offH y m := by
  rcases h with h | h
  · rw [offH_1 (by omega), offH_1 (by omega)]
    have := SM_le (y := y) (a := 1) (n := (c - 1).toNat) (k := (m - 1).toNat) (by omega)
    omega
  · rw [offH_2 (by omega), offH_2 (by omega)]
    exact SM_le (by omega)
/-- the end of a month lies in its half of the year -/
theorem off_end {y m : Int} (hy : -952 ≤ y) (h : 1 ≤ m ∧ m ≤ mY y) : (7 ≤ m ∧ offH y m + ML y m ≤ SM y 7 (mY y + 1 - 7).toNat) ∨ (m < 7 ∧ SM y 7 (mY y + 1 - 7).toNat ≤ offH y m ∧ offH y m + ML y m ≤ T (y + 1) - T y) := by
  have hmb := mY_bd y
  have hs := SM_year hy
  by_cases h7 : m < 7
  · refine .inr ⟨h7, ?_, ?_⟩
    · rw [offH_1 h7]
      have := SM_bd y 1 (m - 1).toNat
      omega
    · rw [offH_1 h7]
      have e : SM y 1 ((m - 1).toNat + 1) = SM y 1 (m - 1).toNat + ML y m := by rw [SM_one, show 1 + (((m - 1).toNat : Nat) : Int) = m by omega]
      have := SM_le (y := y) (a := 1) (n := (m - 1).toNat + 1) (k := 6) (by omega)
      omega
  · refine .inl ⟨by omega, ?_⟩
    rw [offH_2 h7]
    have e : SM y 7 ((m - 7).toNat + 1) = SM y 7 (m - 7).toNat + ML y m := by rw [SM_one, show 7 + (((m - 7).toNat : Nat) : Int) = m by omega]
    have := SM_le (y := y) (a := 7) (n := (m - 7).toNat + 1) (k := (mY y + 1 - 7).toNat) (by omega)
    omega
theorem hN_range {y m d : Int} (hy : -952 ≤ y) (h : VD y m d) : T y ≤ hN y m d ∧ hN y m d < T (y + 1) := by
  obtain ⟨h1, h2, h3, h4⟩ := h
  have hmb := mY_bd y
  have := off_nn (y := y) (m := m) (by omega)
  have := off_end hy ⟨h1, h2⟩
  have := SM_bd y 1 6
  have := SM_year hy
  unfold hN
  omega

/-- where the search for the Hebrew year begins -/
theorem count_bd {y N : Int} (hy : -951 ≤ y ∧ y ≤ 24900) (h1 : T y ≤ N) (h2 : N < T (y + 1)) : y - 2 ≤ (2 * N - 1 - 695991) * 98496 / 71950702 ∧ (2 * N - 1 - 695991) * 98496 / 71950702 ≤ y + 1 := by
  have a1 : T y = 347998 + D1 y + D2 y := rfl
  have a2 : T (y + 1) = 347998 + D1 (y + 1) + D2 (y + 1) := rfl
  have b1 := D2_bd y
  have b2 := D2_bd (y + 1)
  have c1 : day0 y ≤ D1 y ∧ D1 y ≤ day0 y + 1 := by unfold D1; split <;> omega
  have c2 : day0 (y + 1) ≤ D1 (y + 1) ∧ D1 (y + 1) ≤ day0 (y + 1) + 1 := by unfold D1; split <;> omega
  have d1 : 25920 * day0 y ≤ 765433 * mon y + 12084 ∧ 765433 * mon y + 12084 < 25920 * day0 y + 25920 := by unfold day0; omega
  have d2 : 25920 * day0 (y + 1) ≤ 765433 * mon (y + 1) + 12084 ∧ 765433 * mon (y + 1) + 12084 < 25920 * day0 (y + 1) + 25920 := by unfold day0; omega
  have e1 : 19 * mon y ≤ 235 * y - 234 ∧ 235 * y - 234 < 19 * mon y + 19 := by unfold mon; omega
  have e2 : 19 * mon (y + 1) ≤ 235 * (y + 1) - 234 ∧ 235 * (y + 1) - 234 < 19 * mon (y + 1) + 19 := by unfold mon; omega
  generalize T y = A at *
  generalize T (y + 1) = B at *
  generalize D1 y = u at *
  generalize D1 (y + 1) = u' at *
  generalize D2 y = v at *
  generalize D2 (y + 1) = v' at *
  generalize day0 y = x at *
  generalize day0 (y + 1) = x' at *
  generalize mon y = M at *
  generalize mon (y + 1) = M' at *
  constructor <;> omega

theorem T_bd {y : Int} (hy : -951 ≤ y ∧ y ≤ 24999) : 200 ≤ T y ∧ T y ≤ 10350000 := by
  have h1 := T_pos hy.1
  have h2 := D1_bd (y := y) (by omega)
  have h3 := D2_bd y
  refine ⟨h1, ?_⟩
  unfold T
  omega
theorem fj_1 {c y N : Int} (hy : -951 ≤ y) (h : c ≤ y) (hN : T y ≤ N) : 2 * tr (J7 c 1) + 1 ≤ 2 * N - 1 := by
  have h1 := T_mono h
  have h2 := T_pos hy
  rw [J7_T]
  unfold tr
  split <;> omega
theorem fj_2 {y N : Int} (hy : -951 ≤ y) (h : N < T (y + 1)) : 2 * N - 1 < 2 * tr (J7 (y + 1) 1) + 1 := by
  have h2 := T_pos (y := y + 1) (by omega)
  rw [J7_T]
  unfold tr
  split <;> omega
/-- the month that the search starts with -/
def fr (m : Int) : Int := if m < 7 then 1 else 7
theorem fr_cases (m : Int) : (m < 7 ∧ fr m = 1) ∨ (7 ≤ m ∧ fr m = 7) := by
  unfold fr
  split <;> omega
theorem fj_3 {y m d : Int} (hy : -951 ≤ y) (h : VD y m d) : (m < 7 ∧ fr m = 1 ∧ 2 * tr (HN y 1 1) + 1 ≤ 2 * hN y m d - 1) ∨ (7 ≤ m ∧ fr m = 7 ∧ 2 * hN y m d - 1 < 2 * tr (HN y 1 1) + 1) := by
  rw [tr_HN hy (by omega) (by omega)]
  obtain ⟨h1, h2, h3, h4⟩ := h
  have e := off_end (by omega) ⟨h1, h2⟩
  have e1 : offH y 1 = SM y 7 (mY y + 1 - 7).toNat := by rw [offH_1 (by omega)]; simp [SM]
  have := fr_cases m
  unfold hN
  rw [e1]
  omega
theorem fj_4 {y m d c : Int} (hy : -951 ≤ y) (h : VD y m d) (hc : fr m ≤ c ∧ c < m) : 2 * tr (HN y c (ML y c)) + 1 < 2 * hN y m d - 1 := by
  have hmb := mY_bd y
  have hML := ML_bd y c
  obtain ⟨h1, h2, h3, h4⟩ := h
  have hf := fr_cases m
  rw [tr_HN hy (by omega) (by omega)]
  have e1 := off_next (y := y) (c := c) (by omega)
  have e2 := off_up (y := y) (c := c + 1) (m := m) (by omega)
  unfold hN
  omega
theorem fj_5 {y m d : Int} (hy : -951 ≤ y) (h : VD y m d) : 2 * hN y m d - 1 ≤ 2 * tr (HN y m (ML y m)) + 1 := by
  have hmb := mY_bd y
  have hML := ML_bd y m
  obtain ⟨h1, h2, h3, h4⟩ := h
  rw [tr_HN hy (by omega) (by omega)]
  unfold hN
  omega
theorem fj_6 {y m d : Int} (hy : -951 ≤ y) (h : VD y m d) : 2 * hN y m d - 1 - (2 * tr (HN y m 1) + 1) = 2 * (d - 1) := by
  have hmb := mY_bd y
  obtain ⟨h1, h2, h3, h4⟩ := h
  rw [tr_HN hy (by omega) (by omega)]
  unfold hN
  omega
end Mine
namespace Mine
/-- the law's rows of one Hebrew year -/
def rowsL (y : Int) : List (Int × Int) :=
  [(7, 30), (8, ML y 8), (9, ML y 9), (10, 29), (11, 30)] ++ (if leapH y then [(12, 30), (13, 29)] else [(12, 29)]) ++ [(1, 30), (2, 29), (3, 30), (4, 29), (5, 30), (6, 29)]
def rowSum (y : Int) (i : Nat) : Int := (((rowsL y).take i).map (·.2)).sum
/-- the row of a month -/
def rowIx (y m : Int) : Int := if m < 7 then mY y - 6 + m - 1 else m - 7
theorem rows_at {y m : Int} {i : Nat} {o z : Int} (hy : -952 ≤ y) (hm : 1 ≤ m ∧ m ≤ 13) (h : (rowsL y)[i]? = some (o, z)) :
    1 ≤ o ∧ o ≤ mY y ∧ z = ML y o ∧ rowSum y i = offH y o ∧ rowSum y (i + 1) = rowSum y i + z ∧ ((i : Int) = rowIx y m → m ≤ mY y → o = m) ∧ (o = m → (i : Int) = rowIx y m) := by
  have hc := ML_cases hy
  obtain ⟨a1, a2, a3, a4, a5, a6, a7, a10, a11, a13, b⟩ := hc
  unfold rowSum rowIx
  rcases b with ⟨hl, hmy, h12, hb⟩ | ⟨hl, hmy, h12, hb⟩
  · have e : rowsL y = [(7, 30), (8, ML y 8), (9, ML y 9), (10, 29), (11, 30), (12, 29), (1, 30), (2, 29), (3, 30), (4, 29), (5, 30), (6, 29)] := by unfold rowsL; rw [hl]; rfl
    rw [e] at h ⊢
    have hi : i < 12 := by
      have := (List.getElem?_eq_some_iff.mp h).1
      simpa using this
    have : i = 0 ∨ i = 1 ∨ i = 2 ∨ i = 3 ∨ i = 4 ∨ i = 5 ∨ i = 6 ∨ i = 7 ∨ i = 8 ∨ i = 9 ∨ i = 10 ∨ i = 11 := by omega
    clear hb
    rcases this with rfl | rfl | rfl | rfl | rfl | rfl | rfl | rfl | rfl | rfl | rfl | rfl <;> simp at h <;> obtain ⟨rfl, rfl⟩ := h <;> simp [offH, SM, hmy, a1, a2, a3, a4, a5, a6, a7, a10, a11, a13, h12] <;> (try (refine ⟨?_, ?_⟩)) <;> (try split) <;> omega
  · have e : rowsL y = [(7, 30), (8, ML y 8), (9, ML y 9), (10, 29), (11, 30), (12, 30), (13, 29), (1, 30), (2, 29), (3, 30), (4, 29), (5, 30), (6, 29)] := by unfold rowsL; rw [hl]; rfl
    rw [e] at h ⊢
    have hi : i < 13 := by
      have := (List.getElem?_eq_some_iff.mp h).1
      simpa using this
    have : i = 0 ∨ i = 1 ∨ i = 2 ∨ i = 3 ∨ i = 4 ∨ i = 5 ∨ i = 6 ∨ i = 7 ∨ i = 8 ∨ i = 9 ∨ i = 10 ∨ i = 11 ∨ i = 12 := by omega
    clear hb
    rcases this with rfl | rfl | rfl | rfl | rfl | rfl | rfl | rfl | rfl | rfl | rfl | rfl | rfl <;> simp at h <;> obtain ⟨rfl, rfl⟩ := h <;> simp [offH, SM, hmy, a1, a2, a3, a4, a5, a6, a7, a10, a11, a13, h12] <;> (try (refine ⟨?_, ?_⟩)) <;> (try split) <;> omega

theorem rows_len (y : Int) (hy : -952 ≤ y) : ((rowsL y).length : Int) = mY y := by
  have hc := ML_cases hy
  obtain ⟨_, _, _, _, _, _, _, _, _, _, b⟩ := hc
  rcases b with ⟨hl, hmy, _, _⟩ | ⟨hl, hmy, _, _⟩
  · unfold rowsL; rw [hl, hmy]; rfl
  · unfold rowsL; rw [hl, hmy]; rfl
theorem rowIx_bd {y m : Int} (hm : 1 ≤ m) (h : m ≤ mY y) : 0 ≤ rowIx y m ∧ rowIx y m < mY y := by
  have := mY_bd y
  unfold rowIx
  split <;> omega
theorem rows8 {y : Int} (hy : -952 ≤ y) (L : Int) (hL : L = T (y + 1) - T y) : ML y 8 = (if ([355, 385].any fun x => x == L) = true then 30 else 29) ∧ ML y 9 = (if ([353, 383].any fun x => x == L) = true then 29 else 30) := by
  have hc := ML_cases hy
  obtain ⟨_, _, _, _, _, _, _, _, _, _, b⟩ := hc
  rcases b with ⟨_, _, _, b⟩ | ⟨_, _, _, b⟩ <;> rcases b with ⟨e, a8, a9⟩ | ⟨e, a8, a9⟩ | ⟨e, a8, a9⟩ <;> rw [← hL] at e <;> subst e <;> rw [a8, a9] <;> decide

theorem rows8a {y L : Int} (hy : -952 ≤ y) (hL : L = T (y + 1) - T y) (h : ([355, 385].any fun x => x == L) = true) : 30 = ML y 8 := by rw [(rows8 hy L hL).1, if_pos h]
theorem rows8b {y L : Int} (hy : -952 ≤ y) (hL : L = T (y + 1) - T y) (h : ([355, 385].any fun x => x == L) = false) : 29 = ML y 8 := by rw [(rows8 hy L hL).1, h]; rfl
theorem rows9a {y L : Int} (hy : -952 ≤ y) (hL : L = T (y + 1) - T y) (h : ([353, 383].any fun x => x == L) = true) : 29 = ML y 9 := by rw [(rows8 hy L hL).2, if_pos h]
theorem rows9b {y L : Int} (hy : -952 ≤ y) (hL : L = T (y + 1) - T y) (h : ([353, 383].any fun x => x == L) = false) : 30 = ML y 9 := by rw [(rows8 hy L hL).2, h]; rfl
theorem rows_leap {y : Int} (h : leapH y = true) : rowsL y = [(7, 30), (8, ML y 8), (9, ML y 9), (10, 29), (11, 30), (12, 30), (13, 29), (1, 30), (2, 29), (3, 30), (4, 29), (5, 30), (6, 29)] := by unfold rowsL; rw [h]; rfl
theorem rows_plain {y : Int} (h : leapH y = false) : rowsL y = [(7, 30), (8, ML y 8), (9, ML y 9), (10, 29), (11, 30), (12, 29), (1, 30), (2, 29), (3, 30), (4, 29), (5, 30), (6, 29)] := by unfold rowsL; rw [h]; rfl
end Mine
namespace Mine
open PySem PySem.W PyProof.Rows PySem.Calls PySem.Spec

section
variable {prog : Program} {w : World} {A : Around} {E : Value → Shared → Prop} {s : Shared} {env : Env} {h₀ : Heap} {x : Str} {body : List Stmt} {Q : Flow → Shared → Prop}
/-- a loop over a range that adds to one float -/
theorem loopH {r : Addr} {a₀ b₀ : Int} {t₀ u₀ v₀ : Tok} {n : Nat} {m₀ : Str → Option Value} {news : List (Addr × Obj)} {y : Str} {c₀ : Int} {tc : Tok} (S : Nat → Int) (G : Int → Int) (hS0 : S 0 = 0) (hSs : ∀ i : Nat, S (i + 1) = S i + G (a₀ + (i : Int)))
    (hh : A.handled = none) (hr : IsRange s.heap r a₀ b₀ 1 t₀ u₀ v₀) (hsmall : Builtin.Range.small a₀ b₀ 1 = true) (hn : Builtin.Range.rangeSize a₀ b₀ 1 = (n : Int)) (F : Fr h₀ env.locals s.heap m₀) (N : News h₀ env.locals s.heap news) (hy : m₀ y = some (.float (H c₀) tc))
    (turn : ∀ (i : Nat) k t ta h tk own, i < n → k = a₀ + (i : Int) → S (i + 1) = S i + G k → OwnOff own (news.map (·.1)) → Fr h₀ env.locals h (fun z => if z = x then some (.int k t) else if z = y then some (.float (H (c₀ + 2 * S i)) ta) else m₀ z) → News h₀ env.locals h (news ++ own) →
      wpAny (model prog w) A (execs body env) (InvPostN h₀ env.locals (fun m' nx => nx = news ∧ (∃ t', m' y = some (.float (H (c₀ + 2 * S (i + 1))) t')) ∧ ∀ z, z ≠ x → z ≠ y → m' z = m₀ z) own (news.map (·.1)) { s with heap := h, toks := tk } Q) E { s with heap := h, toks := tk })
    (done : ∀ (u : Str → Option Value) t h tk, Fr h₀ env.locals h (fun z => if z = x then u z else if z = y then some (.float (H (c₀ + 2 * S n)) t) else m₀ z) → News h₀ env.locals h news → Q .next { s with heap := h, toks := tk }) :
    wpAny (model prog w) A (pyIter (.ref r)) (fun it s₂ => LoopAtV prog w A h₀ env x body Q E it s₂) E s := by
  refine kpr_invN (fun i m nx => nx = news ∧ (∃ t, m y = some (.float (H (c₀ + 2 * S i)) t)) ∧ ∀ z, z ≠ x → z ≠ y → m z = m₀ z) hh hr hsmall hn F N ⟨rfl, ⟨tc, by rw [hS0]; simpa using hy⟩, fun _ _ _ => rfl⟩ ?_ ?_
  · rintro i k t m₁ nx h tk own hk hoff ⟨rfl, ⟨ta, ha⟩, hm⟩ F₁ N₁
    rw [map_one ha hm] at F₁
    have hlt : i < n := by
      have := (List.getElem?_eq_some_iff.mp hk).1
      rwa [rangeKs_length] at this
    have hke : k = a₀ + (i : Int) := by
      simp [rangeKs, hlt] at hk
      exact hk.symm
    exact turn i k t ta h tk own hlt hke (by rw [hSs, hke]) hoff F₁ N₁
  · rintro m₁ nx h tk ⟨rfl, ⟨t, ha⟩, hm⟩ F₁ N₁
    rw [rangeKs_length] at ha
    refine done m₁ t h tk ?_ N₁
    rw [done_one ha hm]; exact F₁
end
theorem tr_congr {a b : Int} (h : a = b) : 2 * tr a + 1 = 2 * tr b + 1 := by rw [h]
theorem flt_eq {m : Str → Option Value} {y : Str} {a b : Int} {t : Tok} (h : m y = some (.float (H a) t)) (e : a = b) : ∃ t', m y = some (.float (H b) t') := ⟨t, by rw [← e]; exact h⟩

/-- an int that is stored is named, with its equation -/
def GenMark (_ : Int) : Prop := True
section
variable {M : Model} {A : Around} {E : Value → Shared → Prop} {s : Shared} {env : Env} {x : Str} {Q : Unit → Shared → Prop} {e : Int} {t : Tok}
theorem store_gen (h : ∀ v, v = e → GenMark v → wpAny M A (storeName env x (.int v t)) Q E s) : wpAny M A (storeName env x (.int e t)) Q E s := h e rfl trivial
theorem store_skip (_g : GenMark e) (h : wpAny M A (storeName env x (.int e t)) Q E s) : wpAny M A (storeName env x (.int e t)) Q E s := h
theorem store_genF (h : ∀ v, v = e → GenMark v → wpAny M A (storeName env x (.float (H v) t)) Q E s) : wpAny M A (storeName env x (.float (H e) t)) Q E s := h e rfl trivial
theorem store_skipF (_g : GenMark e) (h : wpAny M A (storeName env x (.float (H e) t)) Q E s) : wpAny M A (storeName env x (.float (H e) t)) Q E s := h
end

abbrev tup3 (a b c : Int) (ta tb tc : Tok) : Obj := { cls := .type "tuple", data := .seq [Value.int a ta, Value.int b tb, Value.int c tc].toArray }
abbrev RetT (h₀ : Heap) (L : Addr) (m : Str → Option Value) (news : List (Addr × Obj)) (s : Shared) (Q : Value → Shared → Prop) (a b c : Int) (post : Prop) : Prop :=
  ∀ (D : Addr) (ta tb tc : Tok) (h' : Heap) (tk' : Nat), post → Fr h₀ L h' m → News h₀ L h' ((D, ({ cls := .type "tuple", data := .seq [Value.int a ta, Value.int b tb, Value.int c tc].toArray } : Obj)) :: news) → (∀ p ∈ news, p.1 < D) → Q (.ref D) { s with heap := h', toks := tk' }

abbrev ClaimTG (n : Nat) (prog : Program) (w : World) (K : Frag) (p : Program) (loose : List Str) (mean : ExcName → Option Value) (mg mb : Str → Option Value) (f : Addr) (vs : List Value) (x y z : Int) (post : Prop) : Prop :=
  ∀ (dp un : Nat) (gd : Option (List Code)) (cn : Str) (cs : Scope) (a : Addr) (ccd : Value) (cl : List (Str × Addr)) (outer : List Env) (A₀ : Around) (base h₀ : Heap) (L : Addr) (m : Str → Option Value) (news : List (Addr × Obj)) (s : Shared) (Q E : Value → Shared → Prop),
    Below A₀ base outer h₀ → Fr h₀ L s.heap m → K.In h₀ → News h₀ L s.heap news → Top p loose mean mg mb h₀ → cs.kind = .function → dp + n < recursionLimit → un + 8 * n < cLine →
    RetT h₀ L m news s Q x y z post →
    wpAny (model prog w) (ktrTop dp un gd cn cs L a ccd cl outer) (call (.ref f) vs) Q E s

/-- the contract of a def that hands back a tuple of three ints -/
abbrev ClaimT (n : Nat) (w : World) (mean : ExcName → Option Value) (mg mb : Str → Option Value) (f : Addr) (vs : List Value) (x y z : Int) (post : Prop) : Prop :=
  ClaimTG n PySem.Challenge.rw_ad5022_01.row.prog w (hd.heap_39 w.params) hd.view_39 (looseW hd.view_39 [Str.ofString "to_jd_gregorian", Str.ofString "from_jd_gregorian", Str.ofString "to_jd_hebrew", Str.ofString "from_jd_hebrew"]) mean mg mb f vs x y z post
theorem useT {n : Nat} {prog : Program} {w : World} {K : Frag} {p : Program} {loose : List Str} {mean : ExcName → Option Value} {mg mb : Str → Option Value} {f : Addr} {vs : List Value} {x y z : Int} {post : Prop}
    {dp un : Nat} {gd : Option (List Code)} {cn : Str} {cs : Scope} {a : Addr} {ccd : Value} {cl : List (Str × Addr)} {outer : List Env} {A₀ : Around} {base h₀ : Heap} {L : Addr} {m : Str → Option Value} {news : List (Addr × Obj)} {s : Shared} {Q E : Value → Shared → Prop}
    (C : ClaimTG n prog w K p loose mean mg mb f vs x y z post) (B : Below A₀ base outer h₀) (F : Fr h₀ L s.heap m) (X : K.In h₀) (N : News h₀ L s.heap news) (T : Top p loose mean mg mb h₀) (hk : cs.kind = .function) (hd : dp + n < recursionLimit) (hu : un + 8 * n < cLine)
    (ret : RetT h₀ L m news s Q x y z post) : wpAny (model prog w) (ktrTop dp un gd cn cs L a ccd cl outer) (call (.ref f) vs) Q E s := C _ _ _ _ _ _ _ _ _ _ _ _ _ _ _ _ _ _ B F X N T hk hd hu ret
theorem ret_tup {h₀ h' : Heap} {L D : Addr} {m : Str → Option Value} {news : List (Addr × Obj)} {s : Shared} {Q : Value → Shared → Prop} {a b c a' b' c' : Int} {ta tb tc : Tok} {post : Prop} {tk' : Nat}
    (hret : RetT h₀ L m news s Q a b c post) (F : Fr h₀ L h' m) (N : News h₀ L h' ((D, ({ cls := .type "tuple", data := .seq [Value.int a' ta, Value.int b' tb, Value.int c' tc].toArray } : Obj)) :: news)) (l : ∀ p ∈ news, p.1 < D) (e : a' = a ∧ b' = b ∧ c' = c) (hp : post) :
    Q (.ref D) { s with heap := h', toks := tk' } := by
  obtain ⟨rfl, rfl, rfl⟩ := e
  exact hret D ta tb tc h' tk' hp F N l

/-- what a statement leaves that settles one int name -/
def CutEnd (h₀ : Heap) (L : Addr) (news : List (Addr × Obj)) (m : Str → Option Value) (x : Str) (e : Int) (s : Shared) (f : Flow) (s' : Shared) : Prop :=
  f = .next ∧ ∃ t h' tk, s' = { s with heap := h', toks := tk } ∧ Fr h₀ L h' (fun z => if z = x then some (.int e t) else m z) ∧ News h₀ L h' news
section
variable {M : Model} {A : Around} {E : Value → Shared → Prop} {s : Shared} {env : Env} {x : Str} {Q : Flow → Shared → Prop} {h₀ : Heap} {L : Addr} {news : List (Addr × Obj)} {m : Str → Option Value} {st : Stmt}
theorem cutName (e : Int) (_F : Fr h₀ L s.heap m) (_N : News h₀ L s.heap news)
    (h1 : wpAny M A (exec st env) (CutEnd h₀ L news m x e s) E s)
    (h2 : ∀ t h' tk, Fr h₀ L h' (fun z => if z = x then some (.int e t) else m z) → News h₀ L h' news → Q .next { s with heap := h', toks := tk }) : wpAny M A (exec st env) Q E s := by
  refine wpAny_mono h1 (fun f s' q => ?_) fun _ _ q => q
  obtain ⟨rfl, t, h', tk, rfl, F', N'⟩ := q
  exact h2 t h' tk F' N'
theorem cut_end {h' : Heap} {tk : Nat} {v e : Int} {t : Tok} (F : Fr h₀ L h' (fun z => if z = x then some (.int v t) else m z)) (N : News h₀ L h' news) (hv : v = e) : CutEnd h₀ L news m x e s .next { s with heap := h', toks := tk } := by
  subst hv
  exact ⟨rfl, t, h', tk, rfl, F, N⟩
theorem cut_end0 {h' : Heap} {tk : Nat} {v e : Int} {t : Tok} (F : Fr h₀ L h' m) (N : News h₀ L h' news) (hm : m x = some (.int v t)) (hv : v = e) : CutEnd h₀ L news m x e s .next { s with heap := h', toks := tk } := by
  subst hv
  refine ⟨rfl, t, h', tk, rfl, ?_, N⟩
  have : (fun z => if z = x then some (.int v t) else m z) = m := by
    funext z
    by_cases h : z = x
    · rw [if_pos h, h, hm]
    · rw [if_neg h]
  rw [this]
  exact F
end

theorem hIn_K {prog : Program} {w : World} {A : Around} {E : Value → Shared → Prop} {s : Shared} {K : Frag} {h₀ : Heap} {L a : Addr} {m : Str → Option Value} {n : Nat} {l : List Value} {ns : List Int} {dd : Option Addr} {sl : Array (Option Value)} {k : Int} {t : Tok} {Q : Value → Shared → Prop} (F : Fr h₀ L s.heap m) (X₀ : K.In h₀)
    (hl : K.lookup a = some ⟨.type "tuple", dd, .seq l.toArray n, sl⟩) (hi : IntsAre l ns) (h : Q (.bool (ns.any fun x => x == k)) s) : wpAny (model prog w) A (compareOp .In (.int k t) (.ref a)) Q E s := in_tuple_ints (tupK (X₀.keeps F.keep) hl) hi h

def moonsL : List Int := [0, 12, 24, 37, 49, 61, 74, 86, 99, 111, 123, 136, 148, 160, 173, 185, 197, 210, 222, 235]
theorem moons_get {k : Int} (h0 : 0 ≤ k) (h1 : k ≤ 19) : moonsL.getD k.toNat 0 = (235 * k + 1) / 19 := by
  have h : ∀ j : Fin 20, moonsL.getD j.val 0 = (235 * (j.val : Int) + 1) / 19 := by decide
  have := h ⟨k.toNat, by omega⟩
  have e : ((k.toNat : Nat) : Int) = k := by omega
  simp only [e] at this
  exact this
theorem moons_K {prog : Program} {w : World} {A : Around} {E : Value → Shared → Prop} {s : Shared} {K : Frag} {h₀ : Heap} {L a : Addr} {m : Str → Option Value} {n : Nat} {value slice : PySem.Expr} {l : List Value} {dd : Option Addr} {sl : Array (Option Value)} {k : Int} {u : Tok} {Q : Value → Shared → Prop} (F : Fr h₀ L s.heap m) (X₀ : K.In h₀)
    (hl : K.lookup a = some ⟨.type "tuple", dd, .seq l.toArray n, sl⟩) (hi : IntsAre l moonsL) (h0 : 0 ≤ k) (h1 : k ≤ 19) (h : ∀ t, Q (.int ((235 * k + 1) / 19) t) s)
    (hs : subscripted slice false (.ref a) (.int k u) = operate [.ref a, .int k u] (getItem (.ref a) (.int k u)) := by with_unfolding_all rfl) :
    wpAny (model prog w) A (subscriptTail value slice (.ref a) (.int k u)) Q E s :=
  topTupAny_K F X₀ hl hi h0 (by show k < 20; omega) (by omega) (by rw [moons_get h0 h1]; exact h) hs

/-- the lengths of the Gregorian months -/
def sizesL (y : Int) : List Int := [31, feb y, 31, 30, 31, 30, 31, 31, 30, 31, 30, 31]
theorem sizes_get {y k : Int} (h0 : 0 ≤ k) (h1 : k ≤ 11) : (sizesL y).getD k.toNat 0 = dim y (k + 1) := by
  have : k = 0 ∨ k = 1 ∨ k = 2 ∨ k = 3 ∨ k = 4 ∨ k = 5 ∨ k = 6 ∨ k = 7 ∨ k = 8 ∨ k = 9 ∨ k = 10 ∨ k = 11 := by omega
  rw [dim_feb]
  rcases this with rfl | rfl | rfl | rfl | rfl | rfl | rfl | rfl | rfl | rfl | rfl | rfl <;> rfl
theorem sizes_N {prog : Program} {w : World} {A : Around} {E : Value → Shared → Prop} {s : Shared} {h₀ : Heap} {L D : Addr} {news : List (Addr × Obj)} {value slice : PySem.Expr} {vs : List Value} {y k : Int} {u : Tok} {Q : Value → Shared → Prop}
    (N : News h₀ L s.heap news) (hm : (D, ({ cls := .type "tuple", data := .seq vs.toArray } : Obj)) ∈ news) (hi : IntsAre vs (sizesL y)) (h0 : 0 ≤ k) (h1 : k ≤ 11) (h : ∀ t, Q (.int (dim y (k + 1)) t) s)
    (hs : subscripted slice false (.ref D) (.int k u) = operate [.ref D, .int k u] (getItem (.ref D) (.int k u)) := by with_unfolding_all rfl) :
    wpAny (model prog w) A (subscriptTail value slice (.ref D) (.int k u)) Q E s :=
  item_anyT (News.isTup N hm) hi h0 (by show k < 12; omega) (by omega) (by rw [sizes_get h0 h1]; exact h) hs

abbrev RetS (h₀ : Heap) (L : Addr) (m : Str → Option Value) (news : List (Addr × Obj)) (s : Shared) (Q : Value → Shared → Prop) (ns : List Int) : Prop :=
  ∀ (D : Addr) (vs : List Value) (h' : Heap) (tk' : Nat), IntsAre vs ns → Fr h₀ L h' m → News h₀ L h' ((D, ({ cls := .type "tuple", data := .seq vs.toArray } : Obj)) :: news) → (∀ p ∈ news, p.1 < D) → Q (.ref D) { s with heap := h', toks := tk' }
abbrev ClaimSG (n : Nat) (prog : Program) (w : World) (K : Frag) (p : Program) (loose : List Str) (mean : ExcName → Option Value) (mg mb : Str → Option Value) (f : Addr) (vs : List Value) (ns : List Int) : Prop :=
  ∀ (dp un : Nat) (gd : Option (List Code)) (cn : Str) (cs : Scope) (a : Addr) (ccd : Value) (cl : List (Str × Addr)) (outer : List Env) (A₀ : Around) (base h₀ : Heap) (L : Addr) (m : Str → Option Value) (news : List (Addr × Obj)) (s : Shared) (Q E : Value → Shared → Prop),
    Below A₀ base outer h₀ → Fr h₀ L s.heap m → K.In h₀ → News h₀ L s.heap news → Top p loose mean mg mb h₀ → cs.kind = .function → dp + n < recursionLimit → un + 8 * n < cLine →
    RetS h₀ L m news s Q ns →
    wpAny (model prog w) (ktrTop dp un gd cn cs L a ccd cl outer) (call (.ref f) vs) Q E s
/-- the contract of a def that hands back a tuple of ints -/
abbrev ClaimS (n : Nat) (w : World) (mean : ExcName → Option Value) (mg mb : Str → Option Value) (f : Addr) (vs : List Value) (ns : List Int) : Prop :=
  ClaimSG n PySem.Challenge.rw_ad5022_01.row.prog w (hd.heap_39 w.params) hd.view_39 (looseW hd.view_39 [Str.ofString "to_jd_gregorian", Str.ofString "from_jd_gregorian", Str.ofString "to_jd_hebrew", Str.ofString "from_jd_hebrew"]) mean mg mb f vs ns
theorem useS {n : Nat} {prog : Program} {w : World} {K : Frag} {p : Program} {loose : List Str} {mean : ExcName → Option Value} {mg mb : Str → Option Value} {f : Addr} {vs : List Value} {ns : List Int}
    {dp un : Nat} {gd : Option (List Code)} {cn : Str} {cs : Scope} {a : Addr} {ccd : Value} {cl : List (Str × Addr)} {outer : List Env} {A₀ : Around} {base h₀ : Heap} {L : Addr} {m : Str → Option Value} {news : List (Addr × Obj)} {s : Shared} {Q E : Value → Shared → Prop}
    (C : ClaimSG n prog w K p loose mean mg mb f vs ns) (B : Below A₀ base outer h₀) (F : Fr h₀ L s.heap m) (X : K.In h₀) (N : News h₀ L s.heap news) (T : Top p loose mean mg mb h₀) (hk : cs.kind = .function) (hd : dp + n < recursionLimit) (hu : un + 8 * n < cLine)
    (ret : RetS h₀ L m news s Q ns) : wpAny (model prog w) (ktrTop dp un gd cn cs L a ccd cl outer) (call (.ref f) vs) Q E s := C _ _ _ _ _ _ _ _ _ _ _ _ _ _ _ _ _ _ B F X N T hk hd hu ret
theorem ret_tupS {h₀ h' : Heap} {L D : Addr} {m : Str → Option Value} {news : List (Addr × Obj)} {s : Shared} {Q : Value → Shared → Prop} {ns : List Int} {vs : List Value} {tk' : Nat}
    (hret : RetS h₀ L m news s Q ns) (F : Fr h₀ L h' m) (N : News h₀ L h' ((D, ({ cls := .type "tuple", data := .seq vs.toArray } : Obj)) :: news)) (l : ∀ p ∈ news, p.1 < D) (hi : IntsAre vs ns) :
    Q (.ref D) { s with heap := h', toks := tk' } := hret D vs h' tk' hi F N l

/-- a while that turns one int name -/
def W1End (h₀ : Heap) (L : Addr) (news : List (Addr × Obj)) (s : Shared) (x : Str) (m₀ : Str → Option Value) (P : Int → Prop) (μ : Int → Nat) (c : Int) (s₂ : Shared) : Prop :=
  ∃ c' ta h' tk, s₂ = { s with heap := h', toks := tk } ∧ Fr h₀ L h' (fun z => if z = x then some (.int c' ta) else m₀ z) ∧ News h₀ L h' news ∧ P c' ∧ μ c' < μ c
def W1Post (h₀ : Heap) (L : Addr) (news : List (Addr × Obj)) (s : Shared) (x : Str) (m₀ : Str → Option Value) (P : Int → Prop) (μ : Int → Nat) (Q : Flow → Shared → Prop) (c : Int) (f : Flow) (s₂ : Shared) : Prop :=
  match f with
  | .ret v => Q (.ret v) s₂
  | .brk => Q .next s₂
  | _ => W1End h₀ L news s x m₀ P μ c s₂
section
variable {prog : Program} {w : World} {A : Around} {E : Value → Shared → Prop} {Q : Flow → Shared → Prop} {s : Shared} {env : Env} {h₀ : Heap} {L : Addr}
theorem while1 {test : PySem.Expr} {body : List Stmt} {pos : Pos} {m₀ : Str → Option Value} {news : List (Addr × Obj)} {x : Str} (P : Int → Prop) (μ : Int → Nat) (c₀ : Int) {t₀ : Tok}
    (F : Fr h₀ L s.heap m₀) (N : News h₀ L s.heap news) (h1 : m₀ x = some (.int c₀ t₀)) (hp : P c₀)
    (turn : ∀ (c : Int) ta h tk, P c → Fr h₀ L h (fun z => if z = x then some (.int c ta) else m₀ z) → News h₀ L h news →
      wpAny (model prog w) A (isTrue test env (eval test env)) (fun b s₂ =>
        if b = true then wpAny (model prog w) A (execs body env) (W1Post h₀ L news s x m₀ P μ Q c) E s₂ else Q .next s₂) E { s with heap := h, toks := tk })
    (hE : PassesOwn (model prog w) A env E := by passes_own) :
    wpAny (model prog w) A (exec (.While test body [] pos) env) Q E s := by
  have e0 : (fun z => if z = x then some (.int c₀ t₀) else m₀ z) = m₀ := by
    funext z
    by_cases h : z = x
    · rw [if_pos h, h, h1]
    · rw [if_neg h]
  refine While_inv2 (fun n m nx => ∃ c ta, nx = news ∧ μ c = n ∧ m = (fun z => if z = x then some (.int c ta) else m₀ z) ∧ P c) F N ⟨c₀, t₀, rfl, rfl, e0.symm, hp⟩ ?_ hE
  rintro n m₁ nx h tk F₁ N₁ ⟨c, ta, rfl, rfl, rfl, hp'⟩
  refine wpAny_mono (turn c ta h tk hp' F₁ N₁) (fun b s₂ p => ?_) fun _ _ x => x
  cases b with
  | false => simpa using p
  | true =>
    simp only [if_true] at p ⊢
    refine wpAny_mono p (fun f s₃ q => ?_) fun _ _ x => x
    cases f with
    | ret v => exact q
    | brk => exact q
    | next =>
      obtain ⟨c', ta', h', tk', rfl, F', N', hp9, hm9⟩ := q
      exact ⟨h', tk', _, nx, μ c', rfl, F', N', hm9, c', ta', rfl, rfl, rfl, hp9⟩
    | cont =>
      obtain ⟨c', ta', h', tk', rfl, F', N', hp9, hm9⟩ := q
      exact ⟨h', tk', _, nx, μ c', rfl, F', N', hm9, c', ta', rfl, rfl, rfl, hp9⟩
theorem w1_end {news : List (Addr × Obj)} {x : Str} {m₀ m' : Str → Option Value} {P : Int → Prop} {μ : Int → Nat} {c : Int} {h' : Heap} {tk : Nat} {a : Int} {ta : Tok} (c' : Int) (F : Fr h₀ L h' m') (N : News h₀ L h' news)
    (h1 : m' x = some (.int a ta)) (hr : ∀ z, z ≠ x → m' z = m₀ z) (e : a = c') (hp : P c') (hm : μ c' < μ c) : W1End h₀ L news s x m₀ P μ c { s with heap := h', toks := tk } := by
  subst e
  refine ⟨a, ta, h', tk, rfl, ?_, N, hp, hm⟩
  have : (fun z => if z = x then some (.int a ta) else m₀ z) = m' := by
    funext z
    by_cases h : z = x
    · rw [if_pos h, h, h1]
    · rw [if_neg h, hr z h]
  rw [this]
  exact F

/-- a while that turns two int names along one counter -/
def W2End (h₀ : Heap) (L : Addr) (news : List (Addr × Obj)) (s : Shared) (x y : Str) (f g : Int → Int) (m₀ : Str → Option Value) (P : Int → Prop) (μ : Int → Nat) (c : Int) (s₂ : Shared) : Prop :=
  ∃ c' ta tb h' tk, s₂ = { s with heap := h', toks := tk } ∧ Fr h₀ L h' (fun z => if z = x then some (.int (f c') ta) else if z = y then some (.int (g c') tb) else m₀ z) ∧ News h₀ L h' news ∧ P c' ∧ μ c' < μ c
def W2Post (h₀ : Heap) (L : Addr) (news : List (Addr × Obj)) (s : Shared) (x y : Str) (f g : Int → Int) (m₀ : Str → Option Value) (P : Int → Prop) (μ : Int → Nat) (Q : Flow → Shared → Prop) (c : Int) (fl : Flow) (s₂ : Shared) : Prop :=
  match fl with
  | .ret v => Q (.ret v) s₂
  | .brk => Q .next s₂
  | _ => W2End h₀ L news s x y f g m₀ P μ c s₂
theorem while2 {test : PySem.Expr} {body : List Stmt} {pos : Pos} {m₀ : Str → Option Value} {news : List (Addr × Obj)} {x y : Str} (f g : Int → Int) (P : Int → Prop) (μ : Int → Nat) (c₀ : Int) {a b : Int} {t₀ t₁ : Tok}
    (F : Fr h₀ L s.heap m₀) (N : News h₀ L s.heap news) (h1 : m₀ x = some (.int a t₀)) (h2 : m₀ y = some (.int b t₁)) (e1 : a = f c₀) (e2 : b = g c₀) (hp : P c₀)
    (turn : ∀ (c : Int) ta tb h tk, P c → Fr h₀ L h (fun z => if z = x then some (.int (f c) ta) else if z = y then some (.int (g c) tb) else m₀ z) → News h₀ L h news →
      wpAny (model prog w) A (isTrue test env (eval test env)) (fun b s₂ =>
        if b = true then wpAny (model prog w) A (execs body env) (W2Post h₀ L news s x y f g m₀ P μ Q c) E s₂ else Q .next s₂) E { s with heap := h, toks := tk })
    (hE : PassesOwn (model prog w) A env E := by passes_own) :
    wpAny (model prog w) A (exec (.While test body [] pos) env) Q E s := by
  subst e1 e2
  have e0 : (fun z => if z = x then some (.int (f c₀) t₀) else if z = y then some (.int (g c₀) t₁) else m₀ z) = m₀ := by
    funext z
    by_cases h : z = x
    · rw [if_pos h, h, h1]
    · rw [if_neg h]
      by_cases h' : z = y
      · rw [if_pos h', h', h2]
      · rw [if_neg h']
  refine While_inv2 (fun n m nx => ∃ c ta tb, nx = news ∧ μ c = n ∧ m = (fun z => if z = x then some (.int (f c) ta) else if z = y then some (.int (g c) tb) else m₀ z) ∧ P c) F N ⟨c₀, t₀, t₁, rfl, rfl, e0.symm, hp⟩ ?_ hE
  rintro n m₁ nx h tk F₁ N₁ ⟨c, ta, tb, rfl, rfl, rfl, hp'⟩
  refine wpAny_mono (turn c ta tb h tk hp' F₁ N₁) (fun b s₂ p => ?_) fun _ _ x => x
  cases b with
  | false => simpa using p
  | true =>
    simp only [if_true] at p ⊢
    refine wpAny_mono p (fun fl s₃ q => ?_) fun _ _ x => x
    cases fl with
    | ret v => exact q
    | brk => exact q
    | next =>
      obtain ⟨c', ta', tb', h', tk', rfl, F', N', hp9, hm9⟩ := q
      exact ⟨h', tk', _, nx, μ c', rfl, F', N', hm9, c', ta', tb', rfl, rfl, rfl, hp9⟩
    | cont =>
      obtain ⟨c', ta', tb', h', tk', rfl, F', N', hp9, hm9⟩ := q
      exact ⟨h', tk', _, nx, μ c', rfl, F', N', hm9, c', ta', tb', rfl, rfl, rfl, hp9⟩
theorem w2_end {news : List (Addr × Obj)} {x y : Str} {f g : Int → Int} {m₀ m' : Str → Option Value} {P : Int → Prop} {μ : Int → Nat} {c : Int} {h' : Heap} {tk : Nat} {a b : Int} {ta tb : Tok} (c' : Int) (F : Fr h₀ L h' m') (N : News h₀ L h' news)
    (h1 : m' x = some (.int a ta)) (h2 : m' y = some (.int b tb)) (hr : ∀ z, z ≠ x → z ≠ y → m' z = m₀ z) (e1 : a = f c') (e2 : b = g c') (hp : P c') (hm : μ c' < μ c) : W2End h₀ L news s x y f g m₀ P μ c { s with heap := h', toks := tk } := by
  subst e1 e2
  refine ⟨c', ta, tb, h', tk, rfl, ?_, N, hp, hm⟩
  have : (fun z => if z = x then some (.int (f c') ta) else if z = y then some (.int (g c') tb) else m₀ z) = m' := by
    funext z
    by_cases h : z = x
    · rw [if_pos h, h, h1]
    · rw [if_neg h]
      by_cases h' : z = y
      · rw [if_pos h', h', h2]
      · rw [if_neg h', hr z h h']
  rw [this]
  exact F
end

theorem cb_dropM {h₀ h : Heap} {L : Addr} {news : List (Addr × Obj)} {a b : Addr × Obj} (N : News h₀ L h (a :: b :: news)) : News h₀ L h (a :: news) := fun p hp => N p (by
  rcases List.mem_cons.mp hp with rfl | hp
  · exact .head _
  · exact .tail _ (.tail _ hp))
theorem allLt_tail {D a : Addr} {news : List (Addr × Obj)} (h : a < D ∧ AllLt D news) : ∀ p ∈ news, p.1 < D := ktn_ltOf h.2

section
variable {prog : Program} {w : World} {A : Around} {E : Value → Shared → Prop} {s : Shared} {env : Env} {h₀ : Heap} {target : PySem.Expr} {body : List Stmt} {Q : Flow → Shared → Prop}
/-- a for over a made list, any target, by an invariant; the turn may return -/
theorem iter_pairs {ax : Addr} {lo : Obj} {vs : List Value} {n : Nat} {m₀ : Str → Option Value} {news : List (Addr × Obj)} (J : Nat → (Str → Option Value) → Prop)
    (hh : A.handled = none) (F : Fr h₀ env.locals s.heap m₀) (N : News h₀ env.locals s.heap news) (hm : (ax, lo) ∈ news) (hc : lo.cls = .type "list") (hd : lo.data = .seq vs.toArray n) (hj : J 0 m₀)
    (turn : ∀ i v m₁ h tk own, vs[i]? = some v → J i m₁ → Fr h₀ env.locals h m₁ → News h₀ env.locals h (own ++ news) →
      wpAny (model prog w) A (assign target env v) (fun _ s₃ => wpAny (model prog w) A (execs body env) (InvPost h₀ env.locals (J (i + 1)) (own ++ news) { s with heap := h, toks := tk } Q) E s₃) E { s with heap := h, toks := tk })
    (done : ∀ m₁ h tk, J vs.length m₁ → Fr h₀ env.locals h m₁ → News h₀ env.locals h news → Q .next { s with heap := h, toks := tk }) :
    wpAny (model prog w) A (pyIter (.ref ax)) (fun it s₂ => TurnsAt prog w A h₀ env target body Q E it s₂) E s := by
  have hax := N _ hm
  have hl : s.heap.IsList ax vs.toArray := ⟨lo, hax.1, hc, n, hd⟩
  have hlt : ax < s.heap.objs.size := Heap.lt_size hax.1
  have hne : ax ≠ s.heap.objs.size := Nat.ne_of_lt hlt
  refine wpAny_pyIter_list hl ?_
  have W := Walks.list (prog := prog) (w := w) hh s.heap.objs.size ax hne vs.toArray
  have hlen : vs.toArray.size = vs.length := by simp
  rw [hlen] at W
  refine ⟨_, _, _, vs.length, _, _, _, m₀, news, (fun i m₁ news₁ => news₁ = news ∧ J i m₁), rfl, KTurns.ofWalks W (fun i v s Q E st q => letGo_listiter st.1 q), ?_, ?_, ?_, ⟨⟨_, Heap.get?_push_size _ rfl, rfl, rfl⟩, hl.at fun o e => Heap.get?_push_of_some _ e⟩, F.push _, (fun p hp => ⟨Heap.get?_push_of_some _ (N p hp).1, (N p hp).2⟩), ⟨rfl, hj⟩, ?_, ?_⟩
  · intro hI
    rcases List.mem_cons.mp hI with e | hI
    · exact absurd F.ns.lt (e ▸ Nat.lt_irrefl _)
    · exact hax.2.1 (List.mem_singleton.mp hI).symm
  · intro b hb
    rw [List.mem_singleton.mp hb]
    exact next_is_new F
  · intro p hp hI
    exact absurd (Heap.lt_size (N p hp).1) ((List.mem_singleton.mp hI) ▸ Nat.lt_irrefl _)
  · rintro i v m₁ news₁ h₁ tk₁ own hi hP ⟨rfl, hJ⟩ hoff _ _ _ _ F₁ N₁
    have hP' : vs[i]? = some v := by
      have hP2 : vs.toArray[i]? = some v := hP
      simpa using hP2
    refine wpAny_mono (turn i v m₁ h₁ tk₁ own hP' hJ F₁ N₁) (fun _ s₃ h₃ => wpAny_mono h₃ (fun f s₂ p => ?_) fun _ _ e => e) fun _ _ e => e
    have fin : InvEnd h₀ env.locals (J (i + 1)) (own ++ news₁) { s with heap := h₁, toks := tk₁ } s₂ → LoopStepU h₀ env.locals [s.heap.objs.size] own (fun m₁ n₁ => n₁ = news₁ ∧ J (i + 1) m₁) { s with heap := h₁, toks := tk₁ } .next s₂ := by
      rintro ⟨h', tk, m', news', e, F', N', hn, hm⟩
      exact ⟨rfl, h', tk, m', news₁, e, F', fun p hp => N' p (hn p hp), hoff, rfl, hm⟩
    cases f with
    | ret v => exact .ret p
    | brk => exact .brk p
    | next => exact .next (fin p)
    | cont => exact .cont (fin p)
  · rintro h' tk m' news' F' N' _ ⟨rfl, hJ⟩
    exact done m' h' tk hJ F' N'
end

/-- the made list's items are pairs of ints -/
inductive PairsAre (news : List (Addr × Obj)) : List Value → List (Int × Int) → Prop
  | nil : PairsAre news [] []
  | cons {D : Addr} {t1 t2 : Tok} {o z : Int} {vs : List Value} {ps : List (Int × Int)} (h : (D, ({ cls := .type "tuple", data := .seq [Value.int o t1, Value.int z t2].toArray } : Obj)) ∈ news) (r : PairsAre news vs ps) : PairsAre news (.ref D :: vs) ((o, z) :: ps)
theorem PairsAre.cast {news : List (Addr × Obj)} {vs : List Value} {ps qs : List (Int × Int)} (e : qs = ps) (h : PairsAre news vs ps) : PairsAre news vs qs := by rw [e]; exact h
theorem PairsAre.length {news : List (Addr × Obj)} {vs : List Value} {ps : List (Int × Int)} (h : PairsAre news vs ps) : vs.length = ps.length := by
  induction h with
  | nil => rfl
  | cons _ _ ih => simp [ih]
theorem PairsAre.get {news : List (Addr × Obj)} {vs : List Value} {ps : List (Int × Int)} (h : PairsAre news vs ps) : ∀ {i : Nat} {v : Value}, vs[i]? = some v → ∃ D t1 t2 o z, v = .ref D ∧ (D, ({ cls := .type "tuple", data := .seq [Value.int o t1, Value.int z t2].toArray } : Obj)) ∈ news ∧ ps[i]? = some (o, z) := by
  induction h with
  | nil => intro i v e; simp at e
  | cons hm _ ih =>
    intro i v e
    cases i with
    | zero => simp at e; exact ⟨_, _, _, _, _, e.symm, hm, rfl⟩
    | succ i =>
      rw [List.getElem?_cons_succ] at e
      obtain ⟨D, t1, t2, o, z, e1, e2, e3⟩ := ih e
      exact ⟨D, t1, t2, o, z, e1, e2, by rw [List.getElem?_cons_succ]; exact e3⟩

def CutV (h₀ : Heap) (L : Addr) (news : List (Addr × Obj)) (m : Str → Option Value) (e : Int) (s : Shared) (v : Value) (s' : Shared) : Prop :=
  ∃ t h' tk, v = .int e t ∧ s' = { s with heap := h', toks := tk } ∧ Fr h₀ L h' m ∧ News h₀ L h' news
section
variable {M : Model} {A : Around} {E : Value → Shared → Prop} {s : Shared} {env : Env} {Q : Value → Shared → Prop} {h₀ : Heap} {L : Addr} {news : List (Addr × Obj)} {m : Str → Option Value} {ex : PySem.Expr}
theorem cutEval (e : Int) (_F : Fr h₀ L s.heap m) (_N : News h₀ L s.heap news)
    (h1 : wpAny M A (eval ex env) (CutV h₀ L news m e s) E s)
    (h2 : ∀ t h' tk, Fr h₀ L h' m → News h₀ L h' news → Q (.int e t) { s with heap := h', toks := tk }) : wpAny M A (eval ex env) Q E s := by
  refine wpAny_mono h1 (fun v s' q => ?_) fun _ _ q => q
  obtain ⟨t, h', tk, rfl, rfl, F', N'⟩ := q
  exact h2 t h' tk F' N'
theorem cutv_end {h' : Heap} {tk : Nat} {v e : Int} {t : Tok} (F : Fr h₀ L h' m) (N : News h₀ L h' news) (hv : v = e) : CutV h₀ L news m e s (.int v t) { s with heap := h', toks := tk } := by
  subst hv
  exact ⟨t, h', tk, rfl, rfl, F, N⟩
end

/-- between the turns over the law's rows -/
def RowsJ (y m d : Int) (m₀ : Str → Option Value) (i : Nat) (m₁ : Str → Option Value) : Prop :=
  (∃ t, m₁ (Str.ofString "number") = some (.int (T y + rowSum y i) t)) ∧ (∀ q, q ≠ Str.ofString "number" → q ≠ Str.ofString "own" → q ≠ Str.ofString "size" → m₁ q = m₀ q) ∧ (¬ (m ≤ mY y ∧ d ≤ ML y m) ∨ (i : Int) ≤ rowIx y m)
theorem rowsJ_map {m₀ m₁ : Str → Option Value} {v : Value} (h1 : m₁ (Str.ofString "number") = some v) (h2 : ∀ q, q ≠ Str.ofString "number" → q ≠ Str.ofString "own" → q ≠ Str.ofString "size" → m₁ q = m₀ q) :
    m₁ = (fun q => if q = Str.ofString "number" then some v else if q = Str.ofString "own" then m₁ (Str.ofString "own") else if q = Str.ofString "size" then m₁ (Str.ofString "size") else m₀ q) := by
  funext q
  by_cases a : q = Str.ofString "number"
  · rw [if_pos a, a, h1]
  · rw [if_neg a]
    by_cases b : q = Str.ofString "own"
    · rw [if_pos b, b]
    · rw [if_neg b]
      by_cases c : q = Str.ofString "size"
      · rw [if_pos c, c]
      · rw [if_neg c, h2 q a b c]
section
variable {prog : Program} {w : World} {A : Around} {E : Value → Shared → Prop} {s : Shared} {env : Env} {h₀ : Heap} {target : PySem.Expr} {body : List Stmt} {Q : Flow → Shared → Prop}
theorem iter_rows {ax : Addr} {lo : Obj} {vs : List Value} {n : Nat} {m₀ : Str → Option Value} {news : List (Addr × Obj)} {y m d : Int} {t₀ : Tok} {base : List (Addr × Obj)} {s' : Shared} {h₀' : Heap} {L' : Addr} {m' : Str → Option Value} {Q' : Value → Shared → Prop} {R' : Tok → Value} {post' : Prop} (_hret : Ret h₀' L' m' base s' Q' R' post') (hy : -952 ≤ y) (hmm : 1 ≤ m ∧ m ≤ 13)
    (hh : A.handled = none) (F : Fr h₀ env.locals s.heap m₀) (N : News h₀ env.locals s.heap news) (hb : ∀ p ∈ base, p ∈ news) (hm : (ax, lo) ∈ news) (hc : lo.cls = .type "list") (hd : lo.data = .seq vs.toArray n) (hp : PairsAre news vs (rowsL y))
    (h0 : m₀ (Str.ofString "number") = some (.int (T y) t₀))
    (turn : ∀ (i : Nat) D t1 t2 o z (u1 u2 : Option Value) t h tk need, (∀ p ∈ base, p ∈ need) → (D, ({ cls := .type "tuple", data := .seq [Value.int o t1, Value.int z t2].toArray } : Obj)) ∈ need →
      (1 ≤ o ∧ o ≤ mY y ∧ z = ML y o ∧ rowSum y i = offH y o ∧ rowSum y (i + 1) = rowSum y i + z ∧ ((i : Int) = rowIx y m → m ≤ mY y → o = m) ∧ (o = m → (i : Int) = rowIx y m) ∧ (o = m → rowSum y i = offH y m ∧ z = ML y m)) → (¬ (m ≤ mY y ∧ d ≤ ML y m) ∨ (i : Int) ≤ rowIx y m) →
      Fr h₀ env.locals h (fun q => if q = Str.ofString "number" then some (.int (T y + rowSum y i) t) else if q = Str.ofString "own" then u1 else if q = Str.ofString "size" then u2 else m₀ q) → News h₀ env.locals h need →
      wpAny (model prog w) A (assign target env (.ref D)) (fun _ s₃ => wpAny (model prog w) A (execs body env) (InvPost h₀ env.locals (RowsJ y m d m₀ (i + 1)) need { s with heap := h, toks := tk } Q) E s₃) E { s with heap := h, toks := tk })
    (done : ∀ (u : Str → Option Value) h tk, ¬ (m ≤ mY y ∧ d ≤ ML y m) → Fr h₀ env.locals h u → News h₀ env.locals h base → Q .next { s with heap := h, toks := tk }) :
    wpAny (model prog w) A (pyIter (.ref ax)) (fun it s₂ => TurnsAt prog w A h₀ env target body Q E it s₂) E s := by
  refine iter_pairs (RowsJ y m d m₀) hh F N hm hc hd ⟨⟨t₀, by rw [h0]; simp [rowSum]⟩, fun _ _ _ _ => rfl, ?_⟩ ?_ ?_
  · by_cases h : m ≤ mY y ∧ d ≤ ML y m
    · have := rowIx_bd hmm.1 h.1
      exact .inr (by omega)
    · exact .inl h
  · rintro i v m₁ h tk own hv ⟨⟨t, h1⟩, h2, h3⟩ F₁ N₁
    obtain ⟨D, t1, t2, o, z, rfl, hD, hps⟩ := hp.get hv
    rw [rowsJ_map h1 h2] at F₁
    exact turn i D t1 t2 o z _ _ t h tk _ (fun p hp => List.mem_append_right _ (hb p hp)) (List.mem_append_right _ hD) (by obtain ⟨r1, r2, r3, r4, r5, r6, r7⟩ := rows_at hy hmm hps; exact ⟨r1, r2, r3, r4, r5, r6, r7, fun e => by subst e; exact ⟨r4, r3⟩⟩) h3 F₁ N₁
  · rintro m₁ h tk ⟨⟨t, h1⟩, h2, h3⟩ F₁ N₁
    refine done m₁ h tk (fun q => ?_) F₁ (fun p hp => N₁ p (hb p hp))
    have hl := rows_len y hy
    have := rowIx_bd hmm.1 q.1
    rw [hp.length] at h3
    rcases h3 with h3 | h3
    · exact h3 q
    · omega
end
end Mine
namespace Mine

theorem gN_jan (g : Int) : gN g 1 1 = 1721426 + 365 * (g - 1) + (g - 1) / 4 - (g - 1) / 100 + (g - 1) / 400 := by
  unfold gN
  rw [ladj_1 (by omega)]
  omega
theorem T_lin (y : Int) : ∃ M x : Int, 19 * M ≤ 235 * y - 234 ∧ 235 * y - 234 < 19 * M + 19 ∧ 25920 * x ≤ 765433 * M + 12084 ∧ 765433 * M + 12084 < 25920 * x + 25920 ∧ 347998 + x ≤ T y ∧ T y ≤ 348001 + x := by
  refine ⟨mon y, day0 y, ?_⟩
  have b1 := D2_bd y
  have c1 : day0 y ≤ D1 y ∧ D1 y ≤ day0 y + 1 := by unfold D1; split <;> omega
  have d1 : 25920 * day0 y ≤ 765433 * mon y + 12084 ∧ 765433 * mon y + 12084 < 25920 * day0 y + 25920 := by unfold day0; omega
  have e1 : 19 * mon y ≤ 235 * y - 234 ∧ 235 * y - 234 < 19 * mon y + 19 := by unfold mon; omega
  unfold T
  omega
theorem drift_lo {g : Int} (hg : -4712 ≤ g ∧ g ≤ 21002) : T (g + 3760) < gN g 1 1 := by
  rw [gN_jan]
  obtain ⟨M, x, h1, h2, h3, h4, h5, h6⟩ := T_lin (g + 3760)
  generalize T (g + 3760) = t at *
  omega
theorem drift_few : ∀ k : Fin 72, gN (-4712 + (k.val : Int)) 1 1 ≤ T (-952 + (k.val : Int)) + 147 := by decide +kernel
theorem drift_hi {g : Int} (hg : -4712 ≤ g ∧ g ≤ 21002) : gN g 1 1 ≤ T (g + 3760) + 147 := by
  by_cases h : g < -4640
  · have := drift_few ⟨(g + 4712).toNat, by omega⟩
    have e : (((g + 4712).toNat : Nat) : Int) = g + 4712 := by omega
    dsimp only at this
    rw [e] at this
    rwa [show -4712 + (g + 4712) = g by omega, show -952 + (g + 4712) = g + 3760 by omega] at this
  · rw [gN_jan]
    obtain ⟨M, x, h1, h2, h3, h4, h5, h6⟩ := T_lin (g + 3760)
    generalize T (g + 3760) = t at *
    omega
theorem jan_step (g : Int) : 365 ≤ gN (g + 1) 1 1 - gN g 1 1 ∧ gN (g + 1) 1 1 - gN g 1 1 ≤ 366 := by
  have := feb_jan g
  have := feb_cases g
  omega
theorem feb_dim (y : Int) : dim y 2 = feb y := rfl
/-- every day of a year has a date -/
theorem gN_at {y N : Int} (h1 : gN y 1 1 ≤ N) (h2 : N < gN (y + 1) 1 1) : ∃ m d : Int, (1 ≤ m ∧ m ≤ 12) ∧ (1 ≤ d ∧ d ≤ dim y m) ∧ N = gN y m d := by
  have hf := feb_jan y
  have hd : ∀ c : Int, 1 ≤ c ∧ c ≤ 12 → gN y c 1 ≤ N → (N < gN y c 1 + dim y c) → ∃ m d : Int, (1 ≤ m ∧ m ≤ 12) ∧ (1 ≤ d ∧ d ≤ dim y m) ∧ N = gN y m d := by
    intro c hc ha hb
    have := gN_day y c (N - gN y c 1 + 1)
    exact ⟨c, N - gN y c 1 + 1, hc, by omega, by omega⟩
  have step : ∀ c : Int, 1 ≤ c ∧ c ≤ 11 → gN y c 1 ≤ N → (∃ m d : Int, (1 ≤ m ∧ m ≤ 12) ∧ (1 ≤ d ∧ d ≤ dim y m) ∧ N = gN y m d) ∨ gN y (c + 1) 1 ≤ N := by
    intro c hc ha
    have hn := gN_next (y := y) hc
    by_cases hb : N < gN y c 1 + dim y c
    · exact .inl (hd c (by omega) ha hb)
    · exact .inr (by omega)
  rcases step 1 (by omega) h1 with h | h1
  · exact h
  rcases step 2 (by omega) h1 with h | h1
  · exact h
  rcases step 3 (by omega) h1 with h | h1
  · exact h
  rcases step 4 (by omega) h1 with h | h1
  · exact h
  rcases step 5 (by omega) h1 with h | h1
  · exact h
  rcases step 6 (by omega) h1 with h | h1
  · exact h
  rcases step 7 (by omega) h1 with h | h1
  · exact h
  rcases step 8 (by omega) h1 with h | h1
  · exact h
  rcases step 9 (by omega) h1 with h | h1
  · exact h
  rcases step 10 (by omega) h1 with h | h1
  · exact h
  rcases step 11 (by omega) h1 with h | h1
  · exact h
  have h1 : gN y 12 1 ≤ N := h1
  have e : gN y 12 1 + 31 = gN (y + 1) 1 1 := by
    have e1 : gN y 12 1 = 1721425 + 365 * (y - 1) + (y - 1) / 4 - (y - 1) / 100 + (y - 1) / 400 + 336 + (feb y - 30) + 1 := by
      unfold gN
      rw [ladj_feb, if_neg (by omega)]
      omega
    have e2 := gN_jan y
    omega
  exact hd 12 (by omega) h1 (by rw [dim_4 (by omega) (by omega)]; omega)
/-- the months from Adar to Elul lie behind New Year -/
theorem off_late {y m : Int} (hy : -952 ≤ y) (hm : 1 ≤ m ∧ m ≤ mY y) (h : m < 7 ∨ 12 ≤ m) : 147 ≤ offH y m := by
  have hmb := mY_bd y
  have e12 : offH y 12 = ML y 7 + ML y 8 + ML y 9 + ML y 10 + ML y 11 := by rw [offH_2 (by omega)]; simp [SM]
  have c := ML_cases hy
  have c8 := ML_bd y 8
  have c9 := ML_bd y 9
  have h12 : 147 ≤ offH y 12 := by omega
  rcases h with h | h
  · have e := off_end hy (m := m) hm
    have e2 := off_end hy (m := 12) (by omega)
    have := ML_bd y 12
    omega
  · have := off_up (y := y) (c := 12) (m := m) (by omega)
    omega
/-- the months from Tishri to Shevat are through by then -/
theorem off_early {y m : Int} (hm : 7 ≤ m ∧ m ≤ 11) : offH y m ≤ 120 := by
  have e11 : offH y 11 = ML y 7 + ML y 8 + ML y 9 + ML y 10 := by rw [offH_2 (by omega)]; simp [SM]
  have := off_up (y := y) (c := m) (m := 11) (by omega)
  have := ML_bd y 7
  have := ML_bd y 8
  have := ML_bd y 9
  have := ML_bd y 10
  omega
end Mine
namespace Mine
open PySem PySem.W PyProof.Rows PySem.Calls PySem.Spec
theorem show_few : ∀ k : Fin 128, (Str.ofString (toString ((k.val : Int) - 60))).length ≤ 10 := by decide +kernel
theorem show_len {v : Int} (h : -60 ≤ v ∧ v ≤ 67) : (Str.ofString (toString v)).length ≤ 10 := by
  have := show_few ⟨(v + 60).toNat, by omega⟩
  dsimp only at this
  rwa [show (((v + 60).toNat : Nat) : Int) - 60 = v by omega] at this
theorem fmt2 {prog : Program} {w : World} {A : Around} {E : Value → Shared → Prop} {s : Shared} {Q : Value → Shared → Prop} {a b : Int} {t ta tb : Tok} (ha : -60 ≤ a ∧ a ≤ 67) (hb : -60 ≤ b ∧ b ≤ 67) (h : ∀ T t' k, Q (.str T t') { s with toks := k }) :
    wpAny (model prog w) A (call (.builtin "str.format") [.str (Str.ofString "Month {} doesn't have a day {}") t, .int a ta, .int b tb]) Q E s := by
  refine' KFm.call_k ?kfmF ?kfmg ?kfmm ?_
  (case kfmF => kfm_eq)
  (case kfmg => exact KFm.args_3 _ _ _)
  (case kfmm => k_dflt (
    apply KPc.meets_of
    intro _ _ _ _ _ _ _
    unfold Builtin.«str.format»
    refine wpAny_bind (wpAny_of_eq (a := (_, _, _)) rfl ?_)
    refine wpAny_bind ?_
    unfold Builtin.Str.buildString
    refine wpAny_bind ?_
    rw [KPc.range_list]
    refine KFm.start ?_
    intro _ _
    refine KPc.turn ?_
    kpc_if
    kpc_check
    (refine wpAny_bind (KFm.field_auto (by kfm_num) (by rfl) ?_))
    (refine wpAny_bind (wpAny_holding (wpAny_of_eq (a := _) rfl ?_)))
    kpc_if
    (refine wpAny_bind (wpAny_pure ?_))
    kfm_val
    (refine wpAny_bind (wpAny_of_eq (a := some _) rfl ?_))
    (refine wpAny_pure ?_)
    (refine KFm.after_field (by kpc_g) (by kpc_text) (by kpc_obj) (show_len (by assumption)) (by kpc_obj) (by kfm_cat2) (by kfm_rest) ?_)
    intro _ _
    refine KPc.turn ?_
    kpc_if
    kpc_check
    (refine wpAny_bind (KFm.field_auto (by kfm_num) (by rfl) ?_))
    (refine wpAny_bind (wpAny_holding (wpAny_of_eq (a := _) rfl ?_)))
    kpc_if
    (refine wpAny_bind (wpAny_pure ?_))
    kfm_val
    (refine wpAny_bind (wpAny_of_eq (a := some _) rfl ?_))
    (refine wpAny_pure ?_)
    (refine KFm.after_field (by kpc_g) (by kpc_text) (by kpc_obj) (show_len (by assumption)) (by kpc_obj) (by kfm_cat2) (by kfm_rest) ?_)
    intro _ _
    kfm_turns))
  intro _ _
  exact h _ _ _
end Mine
namespace Mine
open PySem PySem.W PyProof.Rows PySem.Calls PySem.Spec

theorem year_bd {v x : Int} (h : v = x % 25712 - 4711) : -4711 ≤ v ∧ v ≤ 21000 := by omega
theorem month_bd {v x : Int} (h : v = x % 13 + 1) : 1 ≤ v ∧ v ≤ 13 := by omega
theorem day_bd {v x : Int} (h : v = x % 30 + 1) : 1 ≤ v ∧ v ≤ 30 := by omega

def CutEndE (h₀ : Heap) (L : Addr) (news : List (Addr × Obj)) (m : Str → Option Value) (x : Str) (P : Int → Prop) (s : Shared) (f : Flow) (s' : Shared) : Prop :=
  f = .next ∧ ∃ e t h' tk, P e ∧ s' = { s with heap := h', toks := tk } ∧ Fr h₀ L h' (fun z => if z = x then some (.int e t) else m z) ∧ News h₀ L h' news
def CutEnd2 (h₀ : Heap) (L : Addr) (news : List (Addr × Obj)) (m : Str → Option Value) (x y : Str) (f : Int → Int) (P : Int → Prop) (s : Shared) (fl : Flow) (s' : Shared) : Prop :=
  fl = .next ∧ ∃ e t u h' tk, P e ∧ s' = { s with heap := h', toks := tk } ∧ Fr h₀ L h' (fun z => if z = x then some (.int e t) else if z = y then some (.int (f e) u) else m z) ∧ News h₀ L h' news
def CutSame (h₀ : Heap) (L : Addr) (news : List (Addr × Obj)) (m : Str → Option Value) (s : Shared) (fl : Flow) (s' : Shared) : Prop :=
  fl = .next ∧ ∃ h' tk, s' = { s with heap := h', toks := tk } ∧ Fr h₀ L h' m ∧ News h₀ L h' news
section
variable {M : Model} {A : Around} {E : Value → Shared → Prop} {s : Shared} {env : Env} {x y : Str} {Q : Flow → Shared → Prop} {h₀ : Heap} {L : Addr} {news news' : List (Addr × Obj)} {m : Str → Option Value} {st : Stmt}
/-- one int name is settled, with what holds of it -/
theorem cutNameE (P : Int → Prop) (_F : Fr h₀ L s.heap m) (_N : News h₀ L s.heap news)
    (h1 : wpAny M A (exec st env) (CutEndE h₀ L news m x P s) E s)
    (h2 : ∀ e t h' tk, P e → Fr h₀ L h' (fun z => if z = x then some (.int e t) else m z) → News h₀ L h' news → Q .next { s with heap := h', toks := tk }) : wpAny M A (exec st env) Q E s := by
  refine wpAny_mono h1 (fun f s' q => ?_) fun _ _ q => q
  obtain ⟨rfl, e, t, h', tk, hP, rfl, F', N'⟩ := q
  exact h2 e t h' tk hP F' N'
theorem cutE_end {P : Int → Prop} {h' : Heap} {tk : Nat} {v : Int} {t : Tok} (F : Fr h₀ L h' (fun z => if z = x then some (.int v t) else m z)) (N : News h₀ L h' news) (hv : P v) : CutEndE h₀ L news m x P s .next { s with heap := h', toks := tk } :=
  ⟨rfl, v, t, h', tk, hv, rfl, F, N⟩
theorem cutE_end0 {P : Int → Prop} {h' : Heap} {tk : Nat} {v : Int} {t : Tok} (F : Fr h₀ L h' m) (N : News h₀ L h' news) (hm : m x = some (.int v t)) (hv : P v) : CutEndE h₀ L news m x P s .next { s with heap := h', toks := tk } := by
  refine ⟨rfl, v, t, h', tk, hv, rfl, ?_, N⟩
  have : (fun z => if z = x then some (.int v t) else m z) = m := by
    funext z
    by_cases h : z = x
    · rw [if_pos h, h, hm]
    · rw [if_neg h]
  rw [this]
  exact F
/-- two int names are settled, the second told by the first -/
theorem cutName2 (f : Int → Int) (P : Int → Prop) (_F : Fr h₀ L s.heap m) (_N : News h₀ L s.heap news)
    (h1 : wpAny M A (exec st env) (CutEnd2 h₀ L news m x y f P s) E s)
    (h2 : ∀ e t u h' tk, P e → Fr h₀ L h' (fun z => if z = x then some (.int e t) else if z = y then some (.int (f e) u) else m z) → News h₀ L h' news → Q .next { s with heap := h', toks := tk }) : wpAny M A (exec st env) Q E s := by
  refine wpAny_mono h1 (fun f s' q => ?_) fun _ _ q => q
  obtain ⟨rfl, e, t, u, h', tk, hP, rfl, F', N'⟩ := q
  exact h2 e t u h' tk hP F' N'
theorem cut2_end {f : Int → Int} {P : Int → Prop} {h' : Heap} {tk : Nat} {v b : Int} {t u : Tok} {m' : Str → Option Value} (F : Fr h₀ L h' m') (N : News h₀ L h' news') (hn : ∀ p ∈ news, p ∈ news') (h1 : m' x = some (.int v t)) (h2 : m' y = some (.int b u)) (h3 : ∀ z, z ≠ x → z ≠ y → m' z = m z) (e2 : b = f v) (hv : P v) :
    CutEnd2 h₀ L news m x y f P s .next { s with heap := h', toks := tk } := by
  subst e2
  refine ⟨rfl, v, t, u, h', tk, hv, rfl, ?_, fun p hp => N p (hn p hp)⟩
  have : (fun z => if z = x then some (.int v t) else if z = y then some (.int (f v) u) else m z) = m' := by
    funext z
    by_cases h : z = x
    · rw [if_pos h, h, h1]
    · rw [if_neg h]
      by_cases h' : z = y
      · rw [if_pos h', h', h2]
      · rw [if_neg h', h3 z h h']
  rw [this]
  exact F
/-- nothing that shows is changed -/
theorem cutSame (_F : Fr h₀ L s.heap m) (_N : News h₀ L s.heap news)
    (h1 : wpAny M A (exec st env) (CutSame h₀ L news m s) E s)
    (h2 : ∀ h' tk, Fr h₀ L h' m → News h₀ L h' news → Q .next { s with heap := h', toks := tk }) : wpAny M A (exec st env) Q E s := by
  refine wpAny_mono h1 (fun f s' q => ?_) fun _ _ q => q
  obtain ⟨rfl, h', tk, rfl, F', N'⟩ := q
  exact h2 h' tk F' N'
theorem same_end {h' : Heap} {tk : Nat} (F : Fr h₀ L h' m) (N : News h₀ L h' news') (hn : ∀ p ∈ news, p ∈ news') : CutSame h₀ L news m s .next { s with heap := h', toks := tk } :=
  ⟨rfl, h', tk, rfl, F, fun p hp => N p (hn p hp)⟩
end
/-- the Hebrew years that a Gregorian one meets -/
theorem meets {g : Int} (hg : -4711 ≤ g ∧ g ≤ 21000) : T (g + 3760) < gN g 1 1 ∧ gN g 1 1 ≤ T (g + 3760) + 147 ∧ T (g + 3761) < gN (g + 1) 1 1 ∧ gN (g + 1) 1 1 ≤ T (g + 3761) + 147 ∧ T (g + 3760) + 353 ≤ T (g + 3761) ∧ T (g + 3761) + 353 ≤ T (g + 3762) ∧ gN (g - 1) 1 1 + 365 ≤ gN g 1 1 ∧ gN g 1 1 + 365 ≤ gN (g + 1) 1 1 ∧ gN g 1 1 + 730 ≤ gN (g + 2) 1 1 := by
  have h1 := drift_lo (g := g) (by omega)
  have h2 := drift_hi (g := g) (by omega)
  have h3 := drift_lo (g := g + 1) (by omega)
  have h4 := drift_hi (g := g + 1) (by omega)
  rw [show g + 1 + 3760 = g + 3761 by omega] at h3 h4
  have h5 := T_step (g + 3760)
  have h6 := T_step (g + 3761)
  rw [show g + 3760 + 1 = g + 3761 by omega] at h5
  rw [show g + 3761 + 1 = g + 3762 by omega] at h6
  have j1 := jan_step (g - 1)
  have j2 := jan_step g
  have j3 := jan_step (g + 1)
  rw [show g - 1 + 1 = g by omega] at j1
  rw [show g + 1 + 1 = g + 2 by omega] at j3
  omega
end Mine
namespace Mine
theorem late {g M D : Int} (hg : -4711 ≤ g ∧ g ≤ 21001) (hM : 1 ≤ M ∧ M ≤ mY (g + 3760)) (hD : 1 ≤ D) (h : hN (g + 3760) M D < gN g 1 1) : 7 ≤ M ∧ M ≤ 11 := by
  have h2 := drift_hi (g := g) (by omega)
  by_cases c : M < 7 ∨ 12 ≤ M
  · have := off_late (y := g + 3760) (by omega) hM c
    unfold hN at h
    omega
  · omega
/-- what the law's choice of the day leaves -/
def Pick (g M D : Int) : Prop := VD (g + 3760) M D ∧ (hN (g + 3760) M D < gN g 1 1 → VD (g + 3761) M D ∧ 7 ≤ M ∧ M ≤ 11)
theorem pick_29 {g M D : Int} (hg : -4711 ≤ g ∧ g ≤ 21000) (hM : 1 ≤ M ∧ M ≤ mY (g + 3760)) (hD : D = 29) : Pick g M D := by
  subst hD
  have h1 := ML_bd (g + 3760) M
  have h2 := ML_bd (g + 3761) M
  have h3 := mY_bd (g + 3761)
  refine ⟨⟨hM.1, hM.2, by omega, h1.1⟩, fun h => ?_⟩
  have h4 := late (by omega) hM (by omega) h
  exact ⟨⟨hM.1, by omega, by omega, h2.1⟩, h4⟩
theorem pick_day {g M D : Int} (hg : -4711 ≤ g ∧ g ≤ 21000) (hM : 1 ≤ M ∧ M ≤ mY (g + 3760)) (hD : 1 ≤ D) (hv : M ≤ mY (g + 3760) ∧ D ≤ ML (g + 3760) M) (h : hN (g + 3760) M D < gN g 1 1 → M ≤ mY (g + 3761) ∧ D ≤ ML (g + 3761) M) : Pick g M D := by
  refine ⟨⟨hM.1, hM.2, hD, hv.2⟩, fun q => ?_⟩
  have h4 := late (by omega) hM hD q
  exact ⟨⟨hM.1, (h q).1, hD, (h q).2⟩, h4⟩
end Mine
namespace Mine
open PySem PySem.W PyProof.Rows PySem.Calls PySem.Spec
section
variable {prog : Program} {w : World} {A : Around} {E : Value → Shared → Prop} {s : Shared} {env : Env} {h₀ : Heap} {x : Str} {body : List Stmt} {Q : Flow → Shared → Prop}
/-- a turn of the unrolled range, its number said anew -/
theorem rr_succ {I : Addr} {a : Int} {n k i : Nat} {m : Str → Option Value} {news : List (Addr × Obj)} (y : Int) (hy : a + (i : Int) = y)
    (h : ∀ t h tk, Fr h₀ env.locals h (fun z => if z = x then some (.int y t) else m z) → News h₀ env.locals h ((I, itR (a + ((i + 1 : Nat) : Int)) ((n : Int) - ((i + 1 : Nat) : Int))) :: news) →
      wpAny (model prog w) A (execs body env) (UnrPost h₀ env.locals { s with heap := h, toks := tk } I (itR (a + ((i + 1 : Nat) : Int)) ((n : Int) - ((i + 1 : Nat) : Int))) (RangeRest prog w A E h₀ env x body Q s I a n k (i + 1)) Q) E { s with heap := h, toks := tk }) :
    RangeRest prog w A E h₀ env x body Q s I a n (k + 1) i m news := by
  subst hy
  exact RangeRest.succ h
end
theorem range_4 (g : Int) : Builtin.Range.rangeSize (g + 3759) (g + 3763) 1 = ((4 : Nat) : Int) := by
  rw [rangeSize_nat]
  omega
end Mine
namespace Mine
open PySem PySem.W PyProof.Rows PySem.Calls PySem.Spec
section
variable {M : Model} {A : Around} {env : Env}
theorem execs_split {Q : Flow → Pos → Shared → Prop} {E : Value → Pos → Shared → Prop} {Γ : PySem.Ctx} : ∀ (n : Nat) (l : List Stmt) (p : Pos) (s : Shared),
    Sem.wp M Γ (execs (l.take n) env) (fun f p' s' => match f with | .next => Sem.wp M Γ (execs (l.drop n) env) Q E p' s' | f => Q f p' s') E p s → Sem.wp M Γ (execs l env) Q E p s
  | 0, l, p, s, h => h
  | n + 1, [], p, s, h => h
  | n + 1, a :: r, p, s, h => by
    rw [List.take_succ_cons, List.drop_succ_cons] at h
    rw [execs_cons, Sem.wp_bind'] at h ⊢
    refine Sem.wp_mono M Γ _ (fun f p' s' h' => ?_) (fun _ _ _ h' => h') _ _ h
    cases f with
    | next => exact execs_split n r p' s' h'
    | ret v => exact h'
    | brk => exact h'
    | cont => exact h'
/-- a block in two: what holds between is said -/
def Between (P : Shared → Prop) (f : Flow) (s : Shared) : Prop := f = .next ∧ P s
theorem execs_cut {E : Value → Shared → Prop} {s : Shared} {Q : Flow → Shared → Prop} {l : List Stmt} (n : Nat) (P : Shared → Prop) (h1 : wpAny M A (execs (l.take n) env) (Between P) E s) (h2 : ∀ s', P s' → wpAny M A (execs (l.drop n) env) Q E s') : wpAny M A (execs l env) Q E s := fun Γ p hΓ => by
  refine execs_split n l p s (Sem.wp_mono M Γ _ (fun f p' s' h' => ?_) (fun _ _ _ h' => h') _ _ (h1 Γ p hΓ))
  obtain ⟨rfl, h'⟩ := h'
  exact h2 s' h' Γ p' hΓ
/-- what the law's tail needs -/
def TailP (h₀ : Heap) (L : Addr) (news : List (Addr × Obj)) (v1 v2 : Value) (s s' : Shared) : Prop :=
  ∃ (u : Str → Option Value) (h' : Heap) (tk : Nat), s' = { s with heap := h', toks := tk } ∧ Fr h₀ L h' (fun z => if z = Str.ofString "year" then some v1 else if z = Str.ofString "numbers" then some v2 else u z) ∧ News h₀ L h' news
theorem tail_end {h₀ h' : Heap} {L : Addr} {news news' : List (Addr × Obj)} {v1 v2 : Value} {s : Shared} {tk : Nat} {m : Str → Option Value} (F : Fr h₀ L h' m) (N : News h₀ L h' news') (hn : ∀ p ∈ news, p ∈ news') (e1 : m (Str.ofString "year") = some v1) (e2 : m (Str.ofString "numbers") = some v2) :
    Between (TailP h₀ L news v1 v2 s) .next { s with heap := h', toks := tk } := by
  refine ⟨rfl, m, h', tk, rfl, ?_, fun p hp => N p (hn p hp)⟩
  have : (fun z => if z = Str.ofString "year" then some v1 else if z = Str.ofString "numbers" then some v2 else m z) = m := by
    funext z
    by_cases a : z = Str.ofString "year"
    · rw [if_pos a, a, e1]
    · rw [if_neg a]
      by_cases b : z = Str.ofString "numbers"
      · rw [if_pos b, b, e2]
      · rw [if_neg b]
  rw [this]
  exact F
end
end Mine
namespace Mine
open PySem PySem.W PyProof.Rows PySem.Calls PySem.Spec
theorem cutTail {M : Model} {A : Around} {env : Env} {E : Value → Shared → Prop} {s : Shared} {Q : Flow → Shared → Prop} {l : List Stmt} (n : Nat) {h₀ : Heap} {news : List (Addr × Obj)} {m : Str → Option Value} {v1 v2 : Value} (_F : Fr h₀ env.locals s.heap m) (_N : News h₀ env.locals s.heap news) (_e1 : m (Str.ofString "year") = some v1) (_e2 : m (Str.ofString "numbers") = some v2)
    (h1 : wpAny M A (execs (l.take n) env) (Between (TailP h₀ env.locals news v1 v2 s)) E s)
    (h2 : ∀ (u : Str → Option Value) (h' : Heap) (tk : Nat), Fr h₀ env.locals h' (fun z => if z = Str.ofString "year" then some v1 else if z = Str.ofString "numbers" then some v2 else u z) → News h₀ env.locals h' news → wpAny M A (execs (l.drop n) env) Q E { s with heap := h', toks := tk }) : wpAny M A (execs l env) Q E s := by
  refine execs_cut n _ h1 ?_
  rintro s' ⟨u, h', tk, rfl, F', N'⟩
  exact h2 u h' tk F' N'
end Mine
namespace Mine
theorem other_bd {v x : Int} (h : v = x % 12 + 1) : 1 ≤ v ∧ v ≤ 12 := by omega
theorem past_bd {v x : Int} (h : v = x % 64) : 0 ≤ v ∧ v ≤ 63 := by omega
end Mine
namespace Mine
theorem early_end {g M D : Int} (hg : -4711 ≤ g ∧ g ≤ 21000) (h7 : 7 ≤ M ∧ M ≤ 11) (hD : 1 ≤ D ∧ D ≤ 30) : hN (g + 3761) M D < gN (g + 1 + 1) 1 1 := by
  have h := meets hg
  have e := off_early (y := g + 3761) h7
  have h2 := T_step (g + 3760)
  have h3 := drift_lo (g := g + 1) (by omega)
  rw [show g + 1 + 3760 = g + 3761 by omega] at h3
  have j3 := jan_step (g + 1)
  unfold hN
  omega
end Mine
namespace Mine
open PySem PySem.W PyProof.Rows PySem.Calls PySem.Spec
theorem hDiv_2 {prog : Program} {w : World} {A : Around} {E : Value → Shared → Prop} {s : Shared} {t u : Tok} {Q : Value → Shared → Prop} {a : Int} (hh : A.handled = none) (ha : a.natAbs < 2 ^ 52) (h : ∀ (tv : Tok) (tk : Nat), Q (.float (H a) tv) { s with toks := tk }) :
    wpAny (model prog w) A (binaryOp .Div (.int a t) (.int 2 u)) Q E s :=
  hDiv_ii hh ha (by decide) (fun tv tk => by
    have e : Float64.ofFrac (decide (a < 0) != decide ((2 : Int) < 0)) a.natAbs (Int.natAbs 2) = H a := by
      unfold H
      rw [show decide ((2 : Int) < 0) = false by decide, Bool.bne_false]
      rfl
    rw [e]
    exact h tv tk)
end Mine
namespace Mine
open PySem PySem.W PyProof.Rows PySem.Calls PySem.Spec
theorem pr_str {x : Str} {P Q : Prop} (hq : Q) : if (x != x) = true then P else Q := by
  have e : (x != x) = false := by simp
  rw [e]
  exact hq
end Mine
namespace Mine
open PySem PySem.W PyProof.Rows PySem.Calls PySem.Spec
/-- an item of a made tuple at a written place -/
theorem item_T {prog : Program} {w : World} {A : Around} {E : Value → Shared → Prop} {s : Shared} {h₀ : Heap} {L D : Addr} {news : List (Addr × Obj)} {value slice : PySem.Expr} {vs : List Value} {k : Int} {u : Tok} {j : Nat} {x : Value} {Q : Value → Shared → Prop}
    (N : News h₀ L s.heap news) (hm : (D, ({ cls := .type "tuple", data := .seq vs.toArray } : Obj)) ∈ news) (hk : -(2 ^ 63) ≤ k ∧ k < 2 ^ 63) (hj : seqIndex? k vs.length = some j) (hx : vs[j]? = some x) (h : Q x s)
    (hs : subscripted slice false (.ref D) (.int k u) = operate [.ref D, .int k u] (getItem (.ref D) (.int k u)) := by with_unfolding_all rfl) :
    wpAny (model prog w) A (subscriptTail value slice (.ref D) (.int k u)) Q E s :=
  item_tupleT (News.isTup N hm) hk.1 hk.2 hj hx h hs
end Mine
namespace Mine
open PySem PySem.W PyProof.Rows PySem.Calls PySem.Spec

local macro_rules | `(tactic| walk_at "binaryOp Add int int") => `(tactic| (k_here; (with_reducible refine' hAdd_ii ?_); k_dflt (skip); intro _ _; (try dsimp only)))
local macro_rules | `(tactic| walk_at "binaryOp Sub int int") => `(tactic| (k_here; (with_reducible refine' hSub_ii ?_); k_dflt (skip); intro _ _; (try dsimp only)))
local macro_rules | `(tactic| walk_at "binaryOp Mult int int") => `(tactic| (k_here; (with_reducible refine' hMul_ii ?ok ?_); k_dflt (skip; (case ok => mul_fits)); intro _ _; (try dsimp only)))
local macro_rules | `(tactic| walk_at "unaryOp USub int") => `(tactic| (k_here; (with_reducible refine' hNeg_i ?_); k_dflt (skip); intro _ _; (try dsimp only)))
local macro_rules | `(tactic| walk_at "binaryOp Add float int") => `(tactic| (k_here; (with_reducible refine' hAdd_fi0 ?hn ?_); k_dflt (skip; (case hn => omega)); intro _ _; (try dsimp only)))
local macro_rules | `(tactic| walk_at "binaryOp Add float int") => `(tactic| (k_here; (with_reducible refine' hAdd_fi ?hx ?ha ?hn ?_); k_dflt (skip; (case hx => (with_reducible first | exact rfl | exact epoch_g | exact epoch_h | exact half_f | exact mean_n | exact mean_d)); (case ha => omega); (case hn => omega)); intro _ _; (try dsimp only)))
local macro_rules | `(tactic| walk_at "binaryOp Add int float") => `(tactic| (k_here; (with_reducible refine' hAdd_if ?hx ?ha ?hn ?_); k_dflt (skip; (case hx => (with_reducible first | exact rfl | exact epoch_g | exact epoch_h | exact half_f | exact mean_n | exact mean_d)); (case ha => omega); (case hn => omega)); intro _ _; (try dsimp only)))
local macro_rules | `(tactic| walk_at "binaryOp Add float float") => `(tactic| (k_here; (with_reducible refine' hAdd_ff ?hx ?hy ?ha ?hb ?_); k_dflt (skip; (case hx => (with_reducible first | exact rfl | exact epoch_g | exact epoch_h | exact half_f | exact mean_n | exact mean_d)); (case hy => (with_reducible first | exact rfl | exact epoch_g | exact epoch_h | exact half_f | exact mean_n | exact mean_d)); (case ha => omega); (case hb => omega)); intro _ _; (try dsimp only)))
local macro_rules | `(tactic| walk_at "binaryOp Sub float int") => `(tactic| (k_here; (with_reducible refine' hSub_fi ?hx ?ha ?hn ?_); k_dflt (skip; (case hx => (with_reducible first | exact rfl | exact epoch_g | exact epoch_h | exact half_f | exact mean_n | exact mean_d)); (case ha => omega); (case hn => omega)); intro _ _; (try dsimp only)))
local macro_rules | `(tactic| walk_at "binaryOp Sub float float") => `(tactic| (k_here; (with_reducible refine' hSub_ff ?hx ?hy ?ha ?hb ?_); k_dflt (skip; (case hx => (with_reducible first | exact rfl | exact epoch_g | exact epoch_h | exact half_f | exact mean_n | exact mean_d)); (case hy => (with_reducible first | exact rfl | exact epoch_g | exact epoch_h | exact half_f | exact mean_n | exact mean_d)); (case ha => omega); (case hb => omega)); intro _ _; (try dsimp only)))
local macro_rules | `(tactic| walk_at "inplaceOp Add float int") => `(tactic| (k_here; (with_reducible refine' hIadd_fi ?hh ?hx ?ha ?hn ?_); k_dflt (skip; (case hh => exact rfl); (case hx => (with_reducible first | exact rfl | exact epoch_g | exact epoch_h | exact half_f | exact mean_n | exact mean_d)); (case ha => omega); (case hn => omega)); intro _ _; (try dsimp only)))
local macro_rules | `(tactic| walk_at "binaryOp Mult float int") => `(tactic| (k_here; (with_reducible refine' hMul_fi ?hx ?h0 ?ha ?hn ?hab ?_); k_dflt (skip; (case hx => (with_reducible first | exact rfl | exact epoch_g | exact epoch_h | exact half_f | exact mean_n | exact mean_d)); (case h0 => decide); (case ha => omega); (case hn => decide); (case hab => omega)); intro _ _; (try dsimp only)))
local macro_rules | `(tactic| walk_at "binaryOp Mult float float") => `(tactic| (k_here; (with_reducible refine' hMul_ff (n := 98496) ?hx ?hy ?h0 ?ha ?hn ?hab ?_); k_dflt (skip; (case hx => (with_reducible first | exact rfl | exact epoch_g | exact epoch_h | exact half_f | exact mean_n | exact mean_d)); (case hy => (with_reducible exact mean_n2)); (case h0 => decide); (case ha => omega); (case hn => decide); (case hab => omega)); intro _ _; (try dsimp only)))
local macro_rules | `(tactic| walk_at "binaryOp Div int int") => `(tactic| (k_here; (with_reducible refine' hDiv_ii ?hh ?ha ?hb ?_); k_dflt (skip; (case hh => exact rfl); (case ha => omega); (case hb => decide)); intro _ _; (try dsimp only)))
local macro_rules | `(tactic| walk_at "binaryOp Div float int") => `(tactic| (k_here; (with_reducible refine' hDiv_fi ?hh ?hn ?hb ?_); k_dflt (skip; (case hh => exact rfl); (case hn => decide); (case hb => decide)); intro _ _; (try dsimp only)))
local macro_rules | `(tactic| walk_at "binaryOp Div float float") => `(tactic| (k_here; (with_reducible refine' hDiv_ff ?hh ?hy ?hn ?hb ?_); k_dflt (skip; (case hh => exact rfl); (case hy => (with_reducible first | exact rfl | exact epoch_g | exact epoch_h | exact half_f | exact mean_n | exact mean_d)); (case hn => decide); (case hb => decide)); intro _ _; (try dsimp only)))
local macro_rules | `(tactic| walk_at "binaryOp Mod float int") => `(tactic| (k_here; (with_reducible refine' hMod_fi ?hh ?hx ?h2 ?ha ?h0 ?hn ?_); k_dflt (skip; (case hh => exact rfl); (case hx => (with_reducible first | exact rfl | exact epoch_g | exact epoch_h | exact half_f | exact mean_n | exact mean_d)); (case h2 => omega); (case ha => omega); (case h0 => decide); (case hn => decide)); intro _ _; (try dsimp only)))
local macro_rules | `(tactic| walk_at "call builtin:math.floor") => `(tactic| (k_here; (with_reducible refine' hFloor_fi ?hh ?hx ?ha ?hb ?hb2 ?hq ?_); k_dflt (skip; (case hh => exact rfl); (case hx => (with_reducible first | exact rfl | exact epoch_g | exact epoch_h | exact half_f | exact mean_n | exact mean_d)); (case ha => omega); (case hb => decide); (case hb2 => decide); (case hq => omega)); intro _ _; (try dsimp only)))
local macro_rules | `(tactic| walk_at "call builtin:math.floor") => `(tactic| (k_here; (with_reducible refine' hFloor_ff ?hh ?hx ?hy ?ha ?hb ?hb2 ?hq ?_); k_dflt (skip; (case hh => exact rfl); (case hx => (with_reducible first | exact rfl | exact epoch_g | exact epoch_h | exact half_f | exact mean_n | exact mean_d)); (case hy => (with_reducible first | exact rfl | exact epoch_g | exact epoch_h | exact half_f | exact mean_n | exact mean_d)); (case ha => omega); (case hb => decide); (case hb2 => decide); (case hq => omega)); intro _ _; (try dsimp only)))
local macro_rules | `(tactic| walk_at "call builtin:math.floor") => `(tactic| (k_here; (with_reducible refine' hFloor ?hh ?hx ?ha ?_); k_dflt (skip; (case hh => exact rfl); (case hx => (with_reducible first | exact rfl | exact epoch_g | exact epoch_h | exact half_f | exact mean_n | exact mean_d)); (case ha => omega)); intro _ _; (try dsimp only)))
local macro_rules | `(tactic| walk_at "call builtin:math.floor") => `(tactic| (k_here; (with_reducible refine' hFloor_ii ?hh ?hb ?hb2 ?hq ?_); k_dflt (skip; (case hh => exact rfl); (case hb => decide); (case hb2 => decide); (case hq => omega)); intro _ _; (try dsimp only)))
local macro_rules | `(tactic| walk_at "call builtin:math.floor") => `(tactic| (k_here; (with_reducible refine' hFloor_mo ?hh ?hm ?hd ?hl ?_); k_dflt (skip; (case hh => exact rfl); (case hm => omega); (case hd => omega); (case hl => omega)); intro _ _; (try dsimp only)))
local macro_rules | `(tactic| walk_at "call type:int") => `(tactic| (k_here; (with_reducible refine' hInt ?hh ?hx ?ha ?_); k_dflt (skip; (case hh => exact rfl); (case hx => (with_reducible first | exact rfl | exact epoch_g | exact epoch_h | exact half_f | exact mean_n | exact mean_d)); (case ha => omega)); intro _ _ _ _; (try dsimp only)))
local macro_rules | `(tactic| walk_at "call type:int") => `(tactic| (k_here; (with_reducible refine' hInt_pos ?hh ?hx ?h0 ?ha ?_); k_dflt (skip; (case hh => exact rfl); (case hx => (with_reducible first | exact rfl | exact epoch_g | exact epoch_h | exact half_f | exact mean_n | exact mean_d)); (case h0 => omega); (case ha => omega)); intro _ _; (try dsimp only)))
local macro_rules | `(tactic| walk_at "compareOp Lt float int") => `(tactic| (k_here; (with_reducible refine' hLt_fi ?hx ?ha ?_); k_dflt (skip; (case hx => (with_reducible first | exact rfl | exact epoch_g | exact epoch_h | exact half_f | exact mean_n | exact mean_d)); (case ha => omega)); (try dsimp only)))
local macro_rules | `(tactic| walk_at "compareOp NotEq float int") => `(tactic| (k_here; (with_reducible refine' hNe_fi ?hx ?ha ?_); k_dflt (skip; (case hx => (with_reducible first | exact rfl | exact epoch_g | exact epoch_h | exact half_f | exact mean_n | exact mean_d)); (case ha => omega)); (try dsimp only)))
local macro_rules | `(tactic| walk_at "compareOp Eq float int") => `(tactic| (k_here; (with_reducible refine' hEq_fi ?hx ?ha ?_); k_dflt (skip; (case hx => (with_reducible first | exact rfl | exact epoch_g | exact epoch_h | exact half_f | exact mean_n | exact mean_d)); (case ha => omega)); (try dsimp only)))
local macro_rules | `(tactic| walk_at "compareOp Lt float float") => `(tactic| (k_here; (with_reducible refine' hLt_ff ?hx ?hy ?ha ?hb ?_); k_dflt (skip; (case hx => (with_reducible first | exact rfl | exact epoch_g | exact epoch_h | exact half_f | exact mean_n | exact mean_d)); (case hy => (with_reducible first | exact rfl | exact epoch_g | exact epoch_h | exact half_f | exact mean_n | exact mean_d)); (case ha => omega); (case hb => omega)); (try dsimp only)))
local macro_rules | `(tactic| walk_at "compareOp Gt float float") => `(tactic| (k_here; (with_reducible refine' hGt_ff ?hx ?hy ?ha ?hb ?_); k_dflt (skip; (case hx => (with_reducible first | exact rfl | exact epoch_g | exact epoch_h | exact half_f | exact mean_n | exact mean_d)); (case hy => (with_reducible first | exact rfl | exact epoch_g | exact epoch_h | exact half_f | exact mean_n | exact mean_d)); (case ha => omega); (case hb => omega)); (try dsimp only)))
local macro_rules | `(tactic| walk_at "compareOp GtE float float") => `(tactic| (k_here; (with_reducible refine' hGe_ff ?hx ?hy ?ha ?hb ?_); k_dflt (skip; (case hx => (with_reducible first | exact rfl | exact epoch_g | exact epoch_h | exact half_f | exact mean_n | exact mean_d)); (case hy => (with_reducible first | exact rfl | exact epoch_g | exact epoch_h | exact half_f | exact mean_n | exact mean_d)); (case ha => omega); (case hb => omega)); (try dsimp only)))
local macro_rules | `(tactic| walk_at "compareOp Eq float float") => `(tactic| (k_here; (with_reducible refine' hEq_ff ?hx ?hy ?ha ?hb ?_); k_dflt (skip; (case hx => (with_reducible first | exact rfl | exact epoch_g | exact epoch_h | exact half_f | exact mean_n | exact mean_d)); (case hy => (with_reducible first | exact rfl | exact epoch_g | exact epoch_h | exact half_f | exact mean_n | exact mean_d)); (case ha => omega); (case hb => omega)); (try dsimp only)))
local macro_rules | `(tactic| walk_at "compareOp NotEq float float") => `(tactic| (k_here; (with_reducible refine' hNe_ff ?hx ?hy ?ha ?hb ?_); k_dflt (skip; (case hx => (with_reducible first | exact rfl | exact epoch_g | exact epoch_h | exact half_f | exact mean_n | exact mean_d)); (case hy => (with_reducible first | exact rfl | exact epoch_g | exact epoch_h | exact half_f | exact mean_n | exact mean_d)); (case ha => omega); (case hb => omega)); (try dsimp only)))
local macro_rules | `(tactic| walk_at "truthy float") => `(tactic| (k_here; (with_reducible refine' hTruthy ?hx ?ha ?_); k_dflt (skip; (case hx => (with_reducible first | exact rfl | exact epoch_g | exact epoch_h | exact half_f | exact mean_n | exact mean_d)); (case ha => omega)); (try dsimp only)))
local macro_rules | `(tactic| walk_at "ite") => `(tactic| (k_here; first | with_reducible refine ite_tt ?_ | with_reducible refine ite_ff ?_ | with_reducible refine split_not ?_ | (with_reducible refine ite_pos (by assumption) ?_) | (with_reducible refine pr_false (by assumption) ?_) | (with_reducible refine pr_decT (by k_dflt omega) ?_) | (with_reducible refine pr_decF (by k_dflt omega) ?_) | (with_reducible refine pr_ieqT (by k_dflt omega) ?_) | (with_reducible refine pr_ieqF (by k_dflt omega) ?_) | (with_reducible refine pr_ineT (by k_dflt omega) ?_) | (with_reducible refine pr_ineF (by k_dflt omega) ?_) | (with_reducible refine split_ine ?_ ?_ <;> intro _) | (with_reducible refine split_ieq ?_ ?_ <;> intro _) | (with_reducible refine PyProof.Rows.split_dec ?_ ?_ <;> intro _) | (with_reducible refine PyProof.Rows.split_bool ?_ ?_ <;> intro _)))
local macro_rules | `(tactic| walk_at "binaryOp Mod int int") => `(tactic| (k_here; (with_reducible refine' hMod_ii ?hb ?_); k_dflt (skip; (case hb => decide)); intro _ _; (try dsimp only)))
local macro_rules | `(tactic| walk_at "call builtin:divmod") => `(tactic| (k_here; (with_reducible refine' hDivmod ?k1 ?k2 ?k3 ?k4 ?_); (k_dflt (skip; (case k1 => k_asm); (case k2 => k_asm); (case k3 => decide); (case k4 => decide))); intro _ _ _; (try dsimp only)))
local macro_rules | `(tactic| walk_at "eval Name") => `(tactic| (k_here; k_dflt (first | (refine' ld ?k1 ?k2 ?_; (case k1 => k_asm); (case k2 => exact rfl); k_whole) | (refine' name_K ?k0 ?k1 ?k2 ?k3 ?_; (case k0 => k_asm); (case k1 => k_asm); (case k2 => k_asm); (case k3 => k_is); k_whole))))
local macro_rules | `(tactic| walk_at "exec If") => `(tactic| ((with_reducible refine wpAny_If ?_); try dsimp only))
local macro_rules | `(tactic| walk_at "execs cons") => `(tactic| ((with_reducible refine wpAny_execs_cons ?_); try dsimp only))
local macro_rules | `(tactic| walk_at "execs nil") => `(tactic| ((with_reducible refine wpAny_execs_nil ?_); try dsimp only))
local macro_rules | `(tactic| walk_at "eval Call") => `(tactic| (k_here; (with_reducible show wpAny _ _ (eval (Expr.Call (Expr.Name _ _) _ [] _) _) _ _ _); k_dflt (refine Call_ ?_)))

theorem c_isleap (w : World) (mean : ExcName → Option Value) (mg mb : Str → Option Value) (y : Int) (ty : Tok) :
    Claim 1 w mean mg mb 50 [.int y ty] (fun _ => .bool (leapG y)) True := by
  w_on
  dsimp only [Claim, ClaimG]
  k_fill
  intros
  rename_i hret
  refine wpAny_call ?_
  k_dflt cell_enter
  k_steps
  all_goals (refine ret_bool hret ?_ (by trivial) (by k_asm) (by k_asm))
  all_goals first | exact leapG_1 (by assumption) | exact leapG_2 (by assumption) (by assumption) | exact leapG_3 (by assumption) (by assumption)
local macro_rules | `(tactic| walk_at "call ref") => `(tactic| (k_here; (with_reducible show wpAny _ _ (call (Value.ref 50) [Value.int _ _]) _ _ _); k_dflt (refine' use (c_isleap _ _ _ _ _ _) ?k1 ?k2 ?k3 ?k4 ?k5 ?kK ?kd ?ku ?_; (case k1 => k_asm); (case k2 => k_asm); (case k3 => k_asm); (case k4 => k_asm); (case k5 => k_asm); (case kK => first | exact rfl | assumption); (case kd => ktr_room); (case ku => ktr_units)); intro t9 h9 tk9 hp9 F9 N9; (try dsimp only); (try k_fold)))

theorem c_leap (w : World) (mean : ExcName → Option Value) (mg mb : Str → Option Value) (y : Int) (ty : Tok) :
    Claim 1 w mean mg mb 78 [.int y ty] (fun _ => .bool (leapH y)) True := by
  w_on
  dsimp only [Claim, ClaimG]
  k_fill
  intros
  rename_i hret
  refine wpAny_call ?_
  k_dflt cell_enter
  k_steps
  all_goals (refine ret_bool hret ?_ (by trivial) (by k_asm) (by k_asm))
  all_goals rfl
local macro_rules | `(tactic| walk_at "call ref") => `(tactic| (k_here; (with_reducible show wpAny _ _ (call (Value.ref 78) [Value.int _ _]) _ _ _); k_dflt (refine' use (c_leap _ _ _ _ _ _) ?k1 ?k2 ?k3 ?k4 ?k5 ?kK ?kd ?ku ?_; (case k1 => k_asm); (case k2 => k_asm); (case k3 => k_asm); (case k4 => k_asm); (case k5 => k_asm); (case kK => first | exact rfl | assumption); (case kd => ktr_room); (case ku => ktr_units)); intro t9 h9 tk9 hp9 F9 N9; (try dsimp only); (try k_fold)))

theorem c_year_months (w : World) (mean : ExcName → Option Value) (mg mb : Str → Option Value) (y : Int) (ty : Tok) :
    Claim 2 w mean mg mb 85 [.int y ty] (fun t => .int (mY y) t) (mY y = 12 ∨ mY y = 13) := by
  w_on
  dsimp only [Claim, ClaimG]
  k_fill
  intros
  rename_i hret
  refine wpAny_call ?_
  k_dflt cell_enter
  k_steps
  all_goals (refine ret_int hret ?_ (by exact mY_bd y) (by k_asm) (by k_asm))
  all_goals first | exact mY_1 (by assumption) | exact mY_2 (by assumption)
local macro_rules | `(tactic| walk_at "call ref") => `(tactic| (k_here; (with_reducible show wpAny _ _ (call (Value.ref 85) [Value.int _ _]) _ _ _); k_dflt (refine' use (c_year_months _ _ _ _ _ _) ?k1 ?k2 ?k3 ?k4 ?k5 ?kK ?kd ?ku ?_; (case k1 => k_asm); (case k2 => k_asm); (case k3 => k_asm); (case k4 => k_asm); (case k5 => k_asm); (case kK => first | exact rfl | assumption); (case kd => ktr_room); (case ku => ktr_units)); intro t9 h9 tk9 hp9 F9 N9; (try dsimp only); (try k_fold)))


end Mine
namespace Mine
open PySem PySem.W PyProof.Rows PySem.Calls PySem.Spec

local macro_rules | `(tactic| walk_at "binaryOp Add int int") => `(tactic| (k_here; (with_reducible refine' hAdd_ii ?_); k_dflt (skip); intro _ _; (try dsimp only)))
local macro_rules | `(tactic| walk_at "binaryOp Sub int int") => `(tactic| (k_here; (with_reducible refine' hSub_ii ?_); k_dflt (skip); intro _ _; (try dsimp only)))
local macro_rules | `(tactic| walk_at "binaryOp Mult int int") => `(tactic| (k_here; (with_reducible refine' hMul_ii ?ok ?_); k_dflt (skip; (case ok => mul_fits)); intro _ _; (try dsimp only)))
local macro_rules | `(tactic| walk_at "unaryOp USub int") => `(tactic| (k_here; (with_reducible refine' hNeg_i ?_); k_dflt (skip); intro _ _; (try dsimp only)))
local macro_rules | `(tactic| walk_at "binaryOp Add float int") => `(tactic| (k_here; (with_reducible refine' hAdd_fi0 ?hn ?_); k_dflt (skip; (case hn => omega)); intro _ _; (try dsimp only)))
local macro_rules | `(tactic| walk_at "binaryOp Add float int") => `(tactic| (k_here; (with_reducible refine' hAdd_fi ?hx ?ha ?hn ?_); k_dflt (skip; (case hx => (with_reducible first | exact rfl | exact epoch_g | exact epoch_h | exact half_f | exact mean_n | exact mean_d)); (case ha => omega); (case hn => omega)); intro _ _; (try dsimp only)))
local macro_rules | `(tactic| walk_at "binaryOp Add int float") => `(tactic| (k_here; (with_reducible refine' hAdd_if ?hx ?ha ?hn ?_); k_dflt (skip; (case hx => (with_reducible first | exact rfl | exact epoch_g | exact epoch_h | exact half_f | exact mean_n | exact mean_d)); (case ha => omega); (case hn => omega)); intro _ _; (try dsimp only)))
local macro_rules | `(tactic| walk_at "binaryOp Add float float") => `(tactic| (k_here; (with_reducible refine' hAdd_ff ?hx ?hy ?ha ?hb ?_); k_dflt (skip; (case hx => (with_reducible first | exact rfl | exact epoch_g | exact epoch_h | exact half_f | exact mean_n | exact mean_d)); (case hy => (with_reducible first | exact rfl | exact epoch_g | exact epoch_h | exact half_f | exact mean_n | exact mean_d)); (case ha => omega); (case hb => omega)); intro _ _; (try dsimp only)))
local macro_rules | `(tactic| walk_at "binaryOp Sub float int") => `(tactic| (k_here; (with_reducible refine' hSub_fi ?hx ?ha ?hn ?_); k_dflt (skip; (case hx => (with_reducible first | exact rfl | exact epoch_g | exact epoch_h | exact half_f | exact mean_n | exact mean_d)); (case ha => omega); (case hn => omega)); intro _ _; (try dsimp only)))
local macro_rules | `(tactic| walk_at "binaryOp Sub float float") => `(tactic| (k_here; (with_reducible refine' hSub_ff ?hx ?hy ?ha ?hb ?_); k_dflt (skip; (case hx => (with_reducible first | exact rfl | exact epoch_g | exact epoch_h | exact half_f | exact mean_n | exact mean_d)); (case hy => (with_reducible first | exact rfl | exact epoch_g | exact epoch_h | exact half_f | exact mean_n | exact mean_d)); (case ha => omega); (case hb => omega)); intro _ _; (try dsimp only)))
local macro_rules | `(tactic| walk_at "inplaceOp Add float int") => `(tactic| (k_here; (with_reducible refine' hIadd_fi ?hh ?hx ?ha ?hn ?_); k_dflt (skip; (case hh => exact rfl); (case hx => (with_reducible first | exact rfl | exact epoch_g | exact epoch_h | exact half_f | exact mean_n | exact mean_d)); (case ha => omega); (case hn => omega)); intro _ _; (try dsimp only)))
local macro_rules | `(tactic| walk_at "binaryOp Mult float int") => `(tactic| (k_here; (with_reducible refine' hMul_fi ?hx ?h0 ?ha ?hn ?hab ?_); k_dflt (skip; (case hx => (with_reducible first | exact rfl | exact epoch_g | exact epoch_h | exact half_f | exact mean_n | exact mean_d)); (case h0 => decide); (case ha => omega); (case hn => decide); (case hab => omega)); intro _ _; (try dsimp only)))
local macro_rules | `(tactic| walk_at "binaryOp Mult float float") => `(tactic| (k_here; (with_reducible refine' hMul_ff (n := 98496) ?hx ?hy ?h0 ?ha ?hn ?hab ?_); k_dflt (skip; (case hx => (with_reducible first | exact rfl | exact epoch_g | exact epoch_h | exact half_f | exact mean_n | exact mean_d)); (case hy => (with_reducible exact mean_n2)); (case h0 => decide); (case ha => omega); (case hn => decide); (case hab => omega)); intro _ _; (try dsimp only)))
local macro_rules | `(tactic| walk_at "binaryOp Div int int") => `(tactic| (k_here; (with_reducible refine' hDiv_ii ?hh ?ha ?hb ?_); k_dflt (skip; (case hh => exact rfl); (case ha => omega); (case hb => decide)); intro _ _; (try dsimp only)))
local macro_rules | `(tactic| walk_at "binaryOp Div float int") => `(tactic| (k_here; (with_reducible refine' hDiv_fi ?hh ?hn ?hb ?_); k_dflt (skip; (case hh => exact rfl); (case hn => decide); (case hb => decide)); intro _ _; (try dsimp only)))
local macro_rules | `(tactic| walk_at "binaryOp Div float float") => `(tactic| (k_here; (with_reducible refine' hDiv_ff ?hh ?hy ?hn ?hb ?_); k_dflt (skip; (case hh => exact rfl); (case hy => (with_reducible first | exact rfl | exact epoch_g | exact epoch_h | exact half_f | exact mean_n | exact mean_d)); (case hn => decide); (case hb => decide)); intro _ _; (try dsimp only)))
local macro_rules | `(tactic| walk_at "binaryOp Mod float int") => `(tactic| (k_here; (with_reducible refine' hMod_fi ?hh ?hx ?h2 ?ha ?h0 ?hn ?_); k_dflt (skip; (case hh => exact rfl); (case hx => (with_reducible first | exact rfl | exact epoch_g | exact epoch_h | exact half_f | exact mean_n | exact mean_d)); (case h2 => omega); (case ha => omega); (case h0 => decide); (case hn => decide)); intro _ _; (try dsimp only)))
local macro_rules | `(tactic| walk_at "call builtin:math.floor") => `(tactic| (k_here; (with_reducible refine' hFloor_fi ?hh ?hx ?ha ?hb ?hb2 ?hq ?_); k_dflt (skip; (case hh => exact rfl); (case hx => (with_reducible first | exact rfl | exact epoch_g | exact epoch_h | exact half_f | exact mean_n | exact mean_d)); (case ha => omega); (case hb => decide); (case hb2 => decide); (case hq => omega)); intro _ _; (try dsimp only)))
local macro_rules | `(tactic| walk_at "call builtin:math.floor") => `(tactic| (k_here; (with_reducible refine' hFloor_ff ?hh ?hx ?hy ?ha ?hb ?hb2 ?hq ?_); k_dflt (skip; (case hh => exact rfl); (case hx => (with_reducible first | exact rfl | exact epoch_g | exact epoch_h | exact half_f | exact mean_n | exact mean_d)); (case hy => (with_reducible first | exact rfl | exact epoch_g | exact epoch_h | exact half_f | exact mean_n | exact mean_d)); (case ha => omega); (case hb => decide); (case hb2 => decide); (case hq => omega)); intro _ _; (try dsimp only)))
local macro_rules | `(tactic| walk_at "call builtin:math.floor") => `(tactic| (k_here; (with_reducible refine' hFloor ?hh ?hx ?ha ?_); k_dflt (skip; (case hh => exact rfl); (case hx => (with_reducible first | exact rfl | exact epoch_g | exact epoch_h | exact half_f | exact mean_n | exact mean_d)); (case ha => omega)); intro _ _; (try dsimp only)))
local macro_rules | `(tactic| walk_at "call builtin:math.floor") => `(tactic| (k_here; (with_reducible refine' hFloor_ii ?hh ?hb ?hb2 ?hq ?_); k_dflt (skip; (case hh => exact rfl); (case hb => decide); (case hb2 => decide); (case hq => omega)); intro _ _; (try dsimp only)))
local macro_rules | `(tactic| walk_at "call builtin:math.floor") => `(tactic| (k_here; (with_reducible refine' hFloor_mo ?hh ?hm ?hd ?hl ?_); k_dflt (skip; (case hh => exact rfl); (case hm => omega); (case hd => omega); (case hl => omega)); intro _ _; (try dsimp only)))
local macro_rules | `(tactic| walk_at "call type:int") => `(tactic| (k_here; (with_reducible refine' hInt ?hh ?hx ?ha ?_); k_dflt (skip; (case hh => exact rfl); (case hx => (with_reducible first | exact rfl | exact epoch_g | exact epoch_h | exact half_f | exact mean_n | exact mean_d)); (case ha => omega)); intro _ _ _ _; (try dsimp only)))
local macro_rules | `(tactic| walk_at "call type:int") => `(tactic| (k_here; (with_reducible refine' hInt_pos ?hh ?hx ?h0 ?ha ?_); k_dflt (skip; (case hh => exact rfl); (case hx => (with_reducible first | exact rfl | exact epoch_g | exact epoch_h | exact half_f | exact mean_n | exact mean_d)); (case h0 => omega); (case ha => omega)); intro _ _; (try dsimp only)))
local macro_rules | `(tactic| walk_at "compareOp Lt float int") => `(tactic| (k_here; (with_reducible refine' hLt_fi ?hx ?ha ?_); k_dflt (skip; (case hx => (with_reducible first | exact rfl | exact epoch_g | exact epoch_h | exact half_f | exact mean_n | exact mean_d)); (case ha => omega)); (try dsimp only)))
local macro_rules | `(tactic| walk_at "compareOp NotEq float int") => `(tactic| (k_here; (with_reducible refine' hNe_fi ?hx ?ha ?_); k_dflt (skip; (case hx => (with_reducible first | exact rfl | exact epoch_g | exact epoch_h | exact half_f | exact mean_n | exact mean_d)); (case ha => omega)); (try dsimp only)))
local macro_rules | `(tactic| walk_at "compareOp Eq float int") => `(tactic| (k_here; (with_reducible refine' hEq_fi ?hx ?ha ?_); k_dflt (skip; (case hx => (with_reducible first | exact rfl | exact epoch_g | exact epoch_h | exact half_f | exact mean_n | exact mean_d)); (case ha => omega)); (try dsimp only)))
local macro_rules | `(tactic| walk_at "compareOp Lt float float") => `(tactic| (k_here; (with_reducible refine' hLt_ff ?hx ?hy ?ha ?hb ?_); k_dflt (skip; (case hx => (with_reducible first | exact rfl | exact epoch_g | exact epoch_h | exact half_f | exact mean_n | exact mean_d)); (case hy => (with_reducible first | exact rfl | exact epoch_g | exact epoch_h | exact half_f | exact mean_n | exact mean_d)); (case ha => omega); (case hb => omega)); (try dsimp only)))
local macro_rules | `(tactic| walk_at "compareOp Gt float float") => `(tactic| (k_here; (with_reducible refine' hGt_ff ?hx ?hy ?ha ?hb ?_); k_dflt (skip; (case hx => (with_reducible first | exact rfl | exact epoch_g | exact epoch_h | exact half_f | exact mean_n | exact mean_d)); (case hy => (with_reducible first | exact rfl | exact epoch_g | exact epoch_h | exact half_f | exact mean_n | exact mean_d)); (case ha => omega); (case hb => omega)); (try dsimp only)))
local macro_rules | `(tactic| walk_at "compareOp GtE float float") => `(tactic| (k_here; (with_reducible refine' hGe_ff ?hx ?hy ?ha ?hb ?_); k_dflt (skip; (case hx => (with_reducible first | exact rfl | exact epoch_g | exact epoch_h | exact half_f | exact mean_n | exact mean_d)); (case hy => (with_reducible first | exact rfl | exact epoch_g | exact epoch_h | exact half_f | exact mean_n | exact mean_d)); (case ha => omega); (case hb => omega)); (try dsimp only)))
local macro_rules | `(tactic| walk_at "compareOp Eq float float") => `(tactic| (k_here; (with_reducible refine' hEq_ff ?hx ?hy ?ha ?hb ?_); k_dflt (skip; (case hx => (with_reducible first | exact rfl | exact epoch_g | exact epoch_h | exact half_f | exact mean_n | exact mean_d)); (case hy => (with_reducible first | exact rfl | exact epoch_g | exact epoch_h | exact half_f | exact mean_n | exact mean_d)); (case ha => omega); (case hb => omega)); (try dsimp only)))
local macro_rules | `(tactic| walk_at "compareOp NotEq float float") => `(tactic| (k_here; (with_reducible refine' hNe_ff ?hx ?hy ?ha ?hb ?_); k_dflt (skip; (case hx => (with_reducible first | exact rfl | exact epoch_g | exact epoch_h | exact half_f | exact mean_n | exact mean_d)); (case hy => (with_reducible first | exact rfl | exact epoch_g | exact epoch_h | exact half_f | exact mean_n | exact mean_d)); (case ha => omega); (case hb => omega)); (try dsimp only)))
local macro_rules | `(tactic| walk_at "truthy float") => `(tactic| (k_here; (with_reducible refine' hTruthy ?hx ?ha ?_); k_dflt (skip; (case hx => (with_reducible first | exact rfl | exact epoch_g | exact epoch_h | exact half_f | exact mean_n | exact mean_d)); (case ha => omega)); (try dsimp only)))
local macro_rules | `(tactic| walk_at "ite") => `(tactic| (k_here; first | with_reducible refine ite_tt ?_ | with_reducible refine ite_ff ?_ | with_reducible refine split_not ?_ | (with_reducible refine ite_pos (by assumption) ?_) | (with_reducible refine pr_false (by assumption) ?_) | (with_reducible refine pr_decT (by k_dflt omega) ?_) | (with_reducible refine pr_decF (by k_dflt omega) ?_) | (with_reducible refine pr_ieqT (by k_dflt omega) ?_) | (with_reducible refine pr_ieqF (by k_dflt omega) ?_) | (with_reducible refine pr_ineT (by k_dflt omega) ?_) | (with_reducible refine pr_ineF (by k_dflt omega) ?_) | (with_reducible refine split_ine ?_ ?_ <;> intro _) | (with_reducible refine split_ieq ?_ ?_ <;> intro _) | (with_reducible refine PyProof.Rows.split_dec ?_ ?_ <;> intro _) | (with_reducible refine PyProof.Rows.split_bool ?_ ?_ <;> intro _)))
local macro_rules | `(tactic| walk_at "binaryOp Mod int int") => `(tactic| (k_here; (with_reducible refine' hMod_ii ?hb ?_); k_dflt (skip; (case hb => decide)); intro _ _; (try dsimp only)))
local macro_rules | `(tactic| walk_at "call builtin:divmod") => `(tactic| (k_here; (with_reducible refine' hDivmod ?k1 ?k2 ?k3 ?k4 ?_); (k_dflt (skip; (case k1 => k_asm); (case k2 => k_asm); (case k3 => decide); (case k4 => decide))); intro _ _ _; (try dsimp only)))
local macro_rules | `(tactic| walk_at "eval Name") => `(tactic| (k_here; k_dflt (first | (refine' ld ?k1 ?k2 ?_; (case k1 => k_asm); (case k2 => exact rfl); k_whole) | (refine' name_K ?k0 ?k1 ?k2 ?k3 ?_; (case k0 => k_asm); (case k1 => k_asm); (case k2 => k_asm); (case k3 => k_is); k_whole))))
local macro_rules | `(tactic| walk_at "exec If") => `(tactic| ((with_reducible refine wpAny_If ?_); try dsimp only))
local macro_rules | `(tactic| walk_at "execs cons") => `(tactic| ((with_reducible refine wpAny_execs_cons ?_); try dsimp only))
local macro_rules | `(tactic| walk_at "execs nil") => `(tactic| ((with_reducible refine wpAny_execs_nil ?_); try dsimp only))
local macro_rules | `(tactic| walk_at "eval Call") => `(tactic| (k_here; (with_reducible show wpAny _ _ (eval (Expr.Call (Expr.Name _ _) _ [] _) _) _ _ _); k_dflt (refine Call_ ?_)))

theorem c_delay_1 (w : World) (mean : ExcName → Option Value) (mg mb : Str → Option Value) (y : Int) (ty : Tok) (hy : -1000 ≤ y ∧ y ≤ 25000) :
    Claim 1 w mean mg mb 92 [.int y ty] (fun t => .int (D1 y) t) (-500000 ≤ D1 y ∧ D1 y ≤ 10000000) := by
  w_on
  dsimp only [Claim, ClaimG]
  k_fill
  intros
  rename_i hret
  refine wpAny_call ?_
  k_dflt cell_enter
  k_steps
  all_goals (refine ret_int hret ?_ (by exact D1_bd hy) (by k_asm) (by k_asm))
  all_goals (unfold D1 day0 mon; first | (rw [if_pos (by omega)]; done) | (rw [if_neg (by omega)]; done))
local macro_rules | `(tactic| walk_at "call ref") => `(tactic| (k_here; (with_reducible show wpAny _ _ (call (Value.ref 92) [Value.int _ _]) _ _ _); k_dflt (refine' use (c_delay_1 _ _ _ _ _ _ ?hy) ?k1 ?k2 ?k3 ?k4 ?k5 ?kK ?kd ?ku ?_; (case k1 => k_asm); (case k2 => k_asm); (case k3 => k_asm); (case k4 => k_asm); (case k5 => k_asm); (case kK => first | exact rfl | assumption); (case kd => ktr_room); (case ku => ktr_units); (case hy => omega)); intro t9 h9 tk9 hp9 F9 N9; (try dsimp only); (try k_fold)))

theorem c_delay_2 (w : World) (mean : ExcName → Option Value) (mg mb : Str → Option Value) (y : Int) (ty : Tok) (hy : -999 ≤ y ∧ y ≤ 24999) :
    Claim 2 w mean mg mb 99 [.int y ty] (fun t => .int (D2 y) t) (0 ≤ D2 y ∧ D2 y ≤ 2) := by
  w_on
  dsimp only [Claim, ClaimG]
  k_fill
  intros
  rename_i hret
  refine wpAny_call ?_
  k_dflt cell_enter
  k_steps
  all_goals (refine ret_int hret ?_ (by exact D2_bd y) (by k_asm) (by k_asm))
  all_goals (unfold D2; first | (rw [if_pos (by omega)]; done) | (rw [if_neg (by omega), if_pos (by omega)]; done) | (rw [if_neg (by omega), if_neg (by omega)]; done))
local macro_rules | `(tactic| walk_at "call ref") => `(tactic| (k_here; (with_reducible show wpAny _ _ (call (Value.ref 99) [Value.int _ _]) _ _ _); k_dflt (refine' use (c_delay_2 _ _ _ _ _ _ ?hy) ?k1 ?k2 ?k3 ?k4 ?k5 ?kK ?kd ?ku ?_; (case k1 => k_asm); (case k2 => k_asm); (case k3 => k_asm); (case k4 => k_asm); (case k5 => k_asm); (case kK => first | exact rfl | assumption); (case kd => ktr_room); (case ku => ktr_units); (case hy => omega)); intro t9 h9 tk9 hp9 F9 N9; (try dsimp only); (try k_fold)))

end Mine
namespace Mine
open PySem PySem.W PyProof.Rows PySem.Calls PySem.Spec

local macro_rules | `(tactic| walk_at "binaryOp Add int int") => `(tactic| (k_here; (with_reducible refine' hAdd_ii ?_); k_dflt (skip); intro _ _; (try dsimp only)))
local macro_rules | `(tactic| walk_at "binaryOp Sub int int") => `(tactic| (k_here; (with_reducible refine' hSub_ii ?_); k_dflt (skip); intro _ _; (try dsimp only)))
local macro_rules | `(tactic| walk_at "binaryOp Mult int int") => `(tactic| (k_here; (with_reducible refine' hMul_ii ?ok ?_); k_dflt (skip; (case ok => mul_fits)); intro _ _; (try dsimp only)))
local macro_rules | `(tactic| walk_at "unaryOp USub int") => `(tactic| (k_here; (with_reducible refine' hNeg_i ?_); k_dflt (skip); intro _ _; (try dsimp only)))
local macro_rules | `(tactic| walk_at "binaryOp Add float int") => `(tactic| (k_here; (with_reducible refine' hAdd_fi0 ?hn ?_); k_dflt (skip; (case hn => omega)); intro _ _; (try dsimp only)))
local macro_rules | `(tactic| walk_at "binaryOp Add float int") => `(tactic| (k_here; (with_reducible refine' hAdd_fi ?hx ?ha ?hn ?_); k_dflt (skip; (case hx => (with_reducible first | exact rfl | exact epoch_g | exact epoch_h | exact half_f | exact mean_n | exact mean_d)); (case ha => omega); (case hn => omega)); intro _ _; (try dsimp only)))
local macro_rules | `(tactic| walk_at "binaryOp Add int float") => `(tactic| (k_here; (with_reducible refine' hAdd_if ?hx ?ha ?hn ?_); k_dflt (skip; (case hx => (with_reducible first | exact rfl | exact epoch_g | exact epoch_h | exact half_f | exact mean_n | exact mean_d)); (case ha => omega); (case hn => omega)); intro _ _; (try dsimp only)))
local macro_rules | `(tactic| walk_at "binaryOp Add float float") => `(tactic| (k_here; (with_reducible refine' hAdd_ff ?hx ?hy ?ha ?hb ?_); k_dflt (skip; (case hx => (with_reducible first | exact rfl | exact epoch_g | exact epoch_h | exact half_f | exact mean_n | exact mean_d)); (case hy => (with_reducible first | exact rfl | exact epoch_g | exact epoch_h | exact half_f | exact mean_n | exact mean_d)); (case ha => omega); (case hb => omega)); intro _ _; (try dsimp only)))
local macro_rules | `(tactic| walk_at "binaryOp Sub float int") => `(tactic| (k_here; (with_reducible refine' hSub_fi ?hx ?ha ?hn ?_); k_dflt (skip; (case hx => (with_reducible first | exact rfl | exact epoch_g | exact epoch_h | exact half_f | exact mean_n | exact mean_d)); (case ha => omega); (case hn => omega)); intro _ _; (try dsimp only)))
local macro_rules | `(tactic| walk_at "binaryOp Sub float float") => `(tactic| (k_here; (with_reducible refine' hSub_ff ?hx ?hy ?ha ?hb ?_); k_dflt (skip; (case hx => (with_reducible first | exact rfl | exact epoch_g | exact epoch_h | exact half_f | exact mean_n | exact mean_d)); (case hy => (with_reducible first | exact rfl | exact epoch_g | exact epoch_h | exact half_f | exact mean_n | exact mean_d)); (case ha => omega); (case hb => omega)); intro _ _; (try dsimp only)))
local macro_rules | `(tactic| walk_at "inplaceOp Add float int") => `(tactic| (k_here; (with_reducible refine' hIadd_fi ?hh ?hx ?ha ?hn ?_); k_dflt (skip; (case hh => exact rfl); (case hx => (with_reducible first | exact rfl | exact epoch_g | exact epoch_h | exact half_f | exact mean_n | exact mean_d)); (case ha => omega); (case hn => omega)); intro _ _; (try dsimp only)))
local macro_rules | `(tactic| walk_at "binaryOp Mult float int") => `(tactic| (k_here; (with_reducible refine' hMul_fi ?hx ?h0 ?ha ?hn ?hab ?_); k_dflt (skip; (case hx => (with_reducible first | exact rfl | exact epoch_g | exact epoch_h | exact half_f | exact mean_n | exact mean_d)); (case h0 => decide); (case ha => omega); (case hn => decide); (case hab => omega)); intro _ _; (try dsimp only)))
local macro_rules | `(tactic| walk_at "binaryOp Mult float float") => `(tactic| (k_here; (with_reducible refine' hMul_ff (n := 98496) ?hx ?hy ?h0 ?ha ?hn ?hab ?_); k_dflt (skip; (case hx => (with_reducible first | exact rfl | exact epoch_g | exact epoch_h | exact half_f | exact mean_n | exact mean_d)); (case hy => (with_reducible exact mean_n2)); (case h0 => decide); (case ha => omega); (case hn => decide); (case hab => omega)); intro _ _; (try dsimp only)))
local macro_rules | `(tactic| walk_at "binaryOp Div int int") => `(tactic| (k_here; (with_reducible refine' hDiv_ii ?hh ?ha ?hb ?_); k_dflt (skip; (case hh => exact rfl); (case ha => omega); (case hb => decide)); intro _ _; (try dsimp only)))
local macro_rules | `(tactic| walk_at "binaryOp Div float int") => `(tactic| (k_here; (with_reducible refine' hDiv_fi ?hh ?hn ?hb ?_); k_dflt (skip; (case hh => exact rfl); (case hn => decide); (case hb => decide)); intro _ _; (try dsimp only)))
local macro_rules | `(tactic| walk_at "binaryOp Div float float") => `(tactic| (k_here; (with_reducible refine' hDiv_ff ?hh ?hy ?hn ?hb ?_); k_dflt (skip; (case hh => exact rfl); (case hy => (with_reducible first | exact rfl | exact epoch_g | exact epoch_h | exact half_f | exact mean_n | exact mean_d)); (case hn => decide); (case hb => decide)); intro _ _; (try dsimp only)))
local macro_rules | `(tactic| walk_at "binaryOp Mod float int") => `(tactic| (k_here; (with_reducible refine' hMod_fi ?hh ?hx ?h2 ?ha ?h0 ?hn ?_); k_dflt (skip; (case hh => exact rfl); (case hx => (with_reducible first | exact rfl | exact epoch_g | exact epoch_h | exact half_f | exact mean_n | exact mean_d)); (case h2 => omega); (case ha => omega); (case h0 => decide); (case hn => decide)); intro _ _; (try dsimp only)))
local macro_rules | `(tactic| walk_at "call builtin:math.floor") => `(tactic| (k_here; (with_reducible refine' hFloor_fi ?hh ?hx ?ha ?hb ?hb2 ?hq ?_); k_dflt (skip; (case hh => exact rfl); (case hx => (with_reducible first | exact rfl | exact epoch_g | exact epoch_h | exact half_f | exact mean_n | exact mean_d)); (case ha => omega); (case hb => decide); (case hb2 => decide); (case hq => omega)); intro _ _; (try dsimp only)))
local macro_rules | `(tactic| walk_at "call builtin:math.floor") => `(tactic| (k_here; (with_reducible refine' hFloor_ff ?hh ?hx ?hy ?ha ?hb ?hb2 ?hq ?_); k_dflt (skip; (case hh => exact rfl); (case hx => (with_reducible first | exact rfl | exact epoch_g | exact epoch_h | exact half_f | exact mean_n | exact mean_d)); (case hy => (with_reducible first | exact rfl | exact epoch_g | exact epoch_h | exact half_f | exact mean_n | exact mean_d)); (case ha => omega); (case hb => decide); (case hb2 => decide); (case hq => omega)); intro _ _; (try dsimp only)))
local macro_rules | `(tactic| walk_at "call builtin:math.floor") => `(tactic| (k_here; (with_reducible refine' hFloor ?hh ?hx ?ha ?_); k_dflt (skip; (case hh => exact rfl); (case hx => (with_reducible first | exact rfl | exact epoch_g | exact epoch_h | exact half_f | exact mean_n | exact mean_d)); (case ha => omega)); intro _ _; (try dsimp only)))
local macro_rules | `(tactic| walk_at "call builtin:math.floor") => `(tactic| (k_here; (with_reducible refine' hFloor_ii ?hh ?hb ?hb2 ?hq ?_); k_dflt (skip; (case hh => exact rfl); (case hb => decide); (case hb2 => decide); (case hq => omega)); intro _ _; (try dsimp only)))
local macro_rules | `(tactic| walk_at "call builtin:math.floor") => `(tactic| (k_here; (with_reducible refine' hFloor_mo ?hh ?hm ?hd ?hl ?_); k_dflt (skip; (case hh => exact rfl); (case hm => omega); (case hd => omega); (case hl => omega)); intro _ _; (try dsimp only)))
local macro_rules | `(tactic| walk_at "call type:int") => `(tactic| (k_here; (with_reducible refine' hInt ?hh ?hx ?ha ?_); k_dflt (skip; (case hh => exact rfl); (case hx => (with_reducible first | exact rfl | exact epoch_g | exact epoch_h | exact half_f | exact mean_n | exact mean_d)); (case ha => omega)); intro _ _ _ _; (try dsimp only)))
local macro_rules | `(tactic| walk_at "call type:int") => `(tactic| (k_here; (with_reducible refine' hInt_pos ?hh ?hx ?h0 ?ha ?_); k_dflt (skip; (case hh => exact rfl); (case hx => (with_reducible first | exact rfl | exact epoch_g | exact epoch_h | exact half_f | exact mean_n | exact mean_d)); (case h0 => omega); (case ha => omega)); intro _ _; (try dsimp only)))
local macro_rules | `(tactic| walk_at "compareOp Lt float int") => `(tactic| (k_here; (with_reducible refine' hLt_fi ?hx ?ha ?_); k_dflt (skip; (case hx => (with_reducible first | exact rfl | exact epoch_g | exact epoch_h | exact half_f | exact mean_n | exact mean_d)); (case ha => omega)); (try dsimp only)))
local macro_rules | `(tactic| walk_at "compareOp NotEq float int") => `(tactic| (k_here; (with_reducible refine' hNe_fi ?hx ?ha ?_); k_dflt (skip; (case hx => (with_reducible first | exact rfl | exact epoch_g | exact epoch_h | exact half_f | exact mean_n | exact mean_d)); (case ha => omega)); (try dsimp only)))
local macro_rules | `(tactic| walk_at "compareOp Eq float int") => `(tactic| (k_here; (with_reducible refine' hEq_fi ?hx ?ha ?_); k_dflt (skip; (case hx => (with_reducible first | exact rfl | exact epoch_g | exact epoch_h | exact half_f | exact mean_n | exact mean_d)); (case ha => omega)); (try dsimp only)))
local macro_rules | `(tactic| walk_at "compareOp Lt float float") => `(tactic| (k_here; (with_reducible refine' hLt_ff ?hx ?hy ?ha ?hb ?_); k_dflt (skip; (case hx => (with_reducible first | exact rfl | exact epoch_g | exact epoch_h | exact half_f | exact mean_n | exact mean_d)); (case hy => (with_reducible first | exact rfl | exact epoch_g | exact epoch_h | exact half_f | exact mean_n | exact mean_d)); (case ha => omega); (case hb => omega)); (try dsimp only)))
local macro_rules | `(tactic| walk_at "compareOp Gt float float") => `(tactic| (k_here; (with_reducible refine' hGt_ff ?hx ?hy ?ha ?hb ?_); k_dflt (skip; (case hx => (with_reducible first | exact rfl | exact epoch_g | exact epoch_h | exact half_f | exact mean_n | exact mean_d)); (case hy => (with_reducible first | exact rfl | exact epoch_g | exact epoch_h | exact half_f | exact mean_n | exact mean_d)); (case ha => omega); (case hb => omega)); (try dsimp only)))
local macro_rules | `(tactic| walk_at "compareOp GtE float float") => `(tactic| (k_here; (with_reducible refine' hGe_ff ?hx ?hy ?ha ?hb ?_); k_dflt (skip; (case hx => (with_reducible first | exact rfl | exact epoch_g | exact epoch_h | exact half_f | exact mean_n | exact mean_d)); (case hy => (with_reducible first | exact rfl | exact epoch_g | exact epoch_h | exact half_f | exact mean_n | exact mean_d)); (case ha => omega); (case hb => omega)); (try dsimp only)))
local macro_rules | `(tactic| walk_at "compareOp Eq float float") => `(tactic| (k_here; (with_reducible refine' hEq_ff ?hx ?hy ?ha ?hb ?_); k_dflt (skip; (case hx => (with_reducible first | exact rfl | exact epoch_g | exact epoch_h | exact half_f | exact mean_n | exact mean_d)); (case hy => (with_reducible first | exact rfl | exact epoch_g | exact epoch_h | exact half_f | exact mean_n | exact mean_d)); (case ha => omega); (case hb => omega)); (try dsimp only)))
local macro_rules | `(tactic| walk_at "compareOp NotEq float float") => `(tactic| (k_here; (with_reducible refine' hNe_ff ?hx ?hy ?ha ?hb ?_); k_dflt (skip; (case hx => (with_reducible first | exact rfl | exact epoch_g | exact epoch_h | exact half_f | exact mean_n | exact mean_d)); (case hy => (with_reducible first | exact rfl | exact epoch_g | exact epoch_h | exact half_f | exact mean_n | exact mean_d)); (case ha => omega); (case hb => omega)); (try dsimp only)))
local macro_rules | `(tactic| walk_at "truthy float") => `(tactic| (k_here; (with_reducible refine' hTruthy ?hx ?ha ?_); k_dflt (skip; (case hx => (with_reducible first | exact rfl | exact epoch_g | exact epoch_h | exact half_f | exact mean_n | exact mean_d)); (case ha => omega)); (try dsimp only)))
local macro_rules | `(tactic| walk_at "ite") => `(tactic| (k_here; first | with_reducible refine ite_tt ?_ | with_reducible refine ite_ff ?_ | with_reducible refine split_not ?_ | (with_reducible refine ite_pos (by assumption) ?_) | (with_reducible refine pr_false (by assumption) ?_) | (with_reducible refine pr_decT (by k_dflt omega) ?_) | (with_reducible refine pr_decF (by k_dflt omega) ?_) | (with_reducible refine pr_ieqT (by k_dflt omega) ?_) | (with_reducible refine pr_ieqF (by k_dflt omega) ?_) | (with_reducible refine pr_ineT (by k_dflt omega) ?_) | (with_reducible refine pr_ineF (by k_dflt omega) ?_) | (with_reducible refine split_ine ?_ ?_ <;> intro _) | (with_reducible refine split_ieq ?_ ?_ <;> intro _) | (with_reducible refine PyProof.Rows.split_dec ?_ ?_ <;> intro _) | (with_reducible refine PyProof.Rows.split_bool ?_ ?_ <;> intro _)))
local macro_rules | `(tactic| walk_at "binaryOp Mod int int") => `(tactic| (k_here; (with_reducible refine' hMod_ii ?hb ?_); k_dflt (skip; (case hb => decide)); intro _ _; (try dsimp only)))
local macro_rules | `(tactic| walk_at "call builtin:divmod") => `(tactic| (k_here; (with_reducible refine' hDivmod ?k1 ?k2 ?k3 ?k4 ?_); (k_dflt (skip; (case k1 => k_asm); (case k2 => k_asm); (case k3 => decide); (case k4 => decide))); intro _ _ _; (try dsimp only)))
local macro_rules | `(tactic| walk_at "eval Name") => `(tactic| (k_here; k_dflt (first | (refine' ld ?k1 ?k2 ?_; (case k1 => k_asm); (case k2 => exact rfl); k_whole) | (refine' name_K ?k0 ?k1 ?k2 ?k3 ?_; (case k0 => k_asm); (case k1 => k_asm); (case k2 => k_asm); (case k3 => k_is); k_whole))))
local macro_rules | `(tactic| walk_at "exec If") => `(tactic| ((with_reducible refine wpAny_If ?_); try dsimp only))
local macro_rules | `(tactic| walk_at "execs cons") => `(tactic| ((with_reducible refine wpAny_execs_cons ?_); try dsimp only))
local macro_rules | `(tactic| walk_at "execs nil") => `(tactic| ((with_reducible refine wpAny_execs_nil ?_); try dsimp only))
local macro_rules | `(tactic| walk_at "eval Call") => `(tactic| (k_here; (with_reducible show wpAny _ _ (eval (Expr.Call (Expr.Name _ _) _ [] _) _) _ _ _); k_dflt (refine Call_ ?_)))
local macro_rules | `(tactic| walk_at "call ref") => `(tactic| (k_here; (with_reducible show wpAny _ _ (call (Value.ref 50) [Value.int _ _]) _ _ _); k_dflt (refine' use (c_isleap _ _ _ _ _ _) ?k1 ?k2 ?k3 ?k4 ?k5 ?kK ?kd ?ku ?_; (case k1 => k_asm); (case k2 => k_asm); (case k3 => k_asm); (case k4 => k_asm); (case k5 => k_asm); (case kK => first | exact rfl | assumption); (case kd => ktr_room); (case ku => ktr_units)); intro t9 h9 tk9 hp9 F9 N9; (try dsimp only); (try k_fold)))
local macro_rules | `(tactic| walk_at "call ref") => `(tactic| (k_here; (with_reducible show wpAny _ _ (call (Value.ref 78) [Value.int _ _]) _ _ _); k_dflt (refine' use (c_leap _ _ _ _ _ _) ?k1 ?k2 ?k3 ?k4 ?k5 ?kK ?kd ?ku ?_; (case k1 => k_asm); (case k2 => k_asm); (case k3 => k_asm); (case k4 => k_asm); (case k5 => k_asm); (case kK => first | exact rfl | assumption); (case kd => ktr_room); (case ku => ktr_units)); intro t9 h9 tk9 hp9 F9 N9; (try dsimp only); (try k_fold)))
local macro_rules | `(tactic| walk_at "call ref") => `(tactic| (k_here; (with_reducible show wpAny _ _ (call (Value.ref 85) [Value.int _ _]) _ _ _); k_dflt (refine' use (c_year_months _ _ _ _ _ _) ?k1 ?k2 ?k3 ?k4 ?k5 ?kK ?kd ?ku ?_; (case k1 => k_asm); (case k2 => k_asm); (case k3 => k_asm); (case k4 => k_asm); (case k5 => k_asm); (case kK => first | exact rfl | assumption); (case kd => ktr_room); (case ku => ktr_units)); intro t9 h9 tk9 hp9 F9 N9; (try dsimp only); (try k_fold)))
local macro_rules | `(tactic| walk_at "call ref") => `(tactic| (k_here; (with_reducible show wpAny _ _ (call (Value.ref 92) [Value.int _ _]) _ _ _); k_dflt (refine' use (c_delay_1 _ _ _ _ _ _ ?hy) ?k1 ?k2 ?k3 ?k4 ?k5 ?kK ?kd ?ku ?_; (case k1 => k_asm); (case k2 => k_asm); (case k3 => k_asm); (case k4 => k_asm); (case k5 => k_asm); (case kK => first | exact rfl | assumption); (case kd => ktr_room); (case ku => ktr_units); (case hy => omega)); intro t9 h9 tk9 hp9 F9 N9; (try dsimp only); (try k_fold)))
local macro_rules | `(tactic| walk_at "call ref") => `(tactic| (k_here; (with_reducible show wpAny _ _ (call (Value.ref 99) [Value.int _ _]) _ _ _); k_dflt (refine' use (c_delay_2 _ _ _ _ _ _ ?hy) ?k1 ?k2 ?k3 ?k4 ?k5 ?kK ?kd ?ku ?_; (case k1 => k_asm); (case k2 => k_asm); (case k3 => k_asm); (case k4 => k_asm); (case k5 => k_asm); (case kK => first | exact rfl | assumption); (case kd => ktr_room); (case ku => ktr_units); (case hy => omega)); intro t9 h9 tk9 hp9 F9 N9; (try dsimp only); (try k_fold)))

theorem c_tojd7 (w : World) (mean : ExcName → Option Value) (mg mb : Str → Option Value) (y d : Int) (ty tm td : Tok) (hy : -999 ≤ y ∧ y ≤ 24999) (hd : 0 ≤ d ∧ d ≤ 1000) :
    Claim 3 w mean mg mb 127 [.int y ty, .int 7 tm, .int d td] (fun t => .float (H (2 * tr (J7 y d) + 1)) t) (-400000 ≤ J7 y d ∧ J7 y d ≤ 21000000 ∧ 2 * tr (J7 y d) ≤ J7 y d + 1 ∧ J7 y d - 1 ≤ 2 * tr (J7 y d)) := by
  w_on
  dsimp only [Claim, ClaimG]
  k_fill
  intros
  rename_i hret
  refine wpAny_call ?_
  k_dflt cell_enter
  k_steps
  all_goals (refine ret_flt hret ?_ (by have := J7_bd (y := y) (d := d) (by omega) hd; have := tr_bd (J7 y d); omega) (by k_asm) (by k_asm))
  all_goals rfl
end Mine
namespace Mine
open PySem PySem.W PyProof.Rows PySem.Calls PySem.Spec

local macro_rules | `(tactic| walk_at "binaryOp Add int int") => `(tactic| (k_here; (with_reducible refine' hAdd_ii ?_); k_dflt (skip); intro _ _; (try dsimp only)))
local macro_rules | `(tactic| walk_at "binaryOp Sub int int") => `(tactic| (k_here; (with_reducible refine' hSub_ii ?_); k_dflt (skip); intro _ _; (try dsimp only)))
local macro_rules | `(tactic| walk_at "binaryOp Mult int int") => `(tactic| (k_here; (with_reducible refine' hMul_ii ?ok ?_); k_dflt (skip; (case ok => mul_fits)); intro _ _; (try dsimp only)))
local macro_rules | `(tactic| walk_at "unaryOp USub int") => `(tactic| (k_here; (with_reducible refine' hNeg_i ?_); k_dflt (skip); intro _ _; (try dsimp only)))
local macro_rules | `(tactic| walk_at "binaryOp Add float int") => `(tactic| (k_here; (with_reducible refine' hAdd_fi0 ?hn ?_); k_dflt (skip; (case hn => omega)); intro _ _; (try dsimp only)))
local macro_rules | `(tactic| walk_at "binaryOp Add float int") => `(tactic| (k_here; (with_reducible refine' hAdd_fi ?hx ?ha ?hn ?_); k_dflt (skip; (case hx => (with_reducible first | exact rfl | exact epoch_g | exact epoch_h | exact half_f | exact mean_n | exact mean_d)); (case ha => omega); (case hn => omega)); intro _ _; (try dsimp only)))
local macro_rules | `(tactic| walk_at "binaryOp Add int float") => `(tactic| (k_here; (with_reducible refine' hAdd_if ?hx ?ha ?hn ?_); k_dflt (skip; (case hx => (with_reducible first | exact rfl | exact epoch_g | exact epoch_h | exact half_f | exact mean_n | exact mean_d)); (case ha => omega); (case hn => omega)); intro _ _; (try dsimp only)))
local macro_rules | `(tactic| walk_at "binaryOp Add float float") => `(tactic| (k_here; (with_reducible refine' hAdd_ff ?hx ?hy ?ha ?hb ?_); k_dflt (skip; (case hx => (with_reducible first | exact rfl | exact epoch_g | exact epoch_h | exact half_f | exact mean_n | exact mean_d)); (case hy => (with_reducible first | exact rfl | exact epoch_g | exact epoch_h | exact half_f | exact mean_n | exact mean_d)); (case ha => omega); (case hb => omega)); intro _ _; (try dsimp only)))
local macro_rules | `(tactic| walk_at "binaryOp Sub float int") => `(tactic| (k_here; (with_reducible refine' hSub_fi ?hx ?ha ?hn ?_); k_dflt (skip; (case hx => (with_reducible first | exact rfl | exact epoch_g | exact epoch_h | exact half_f | exact mean_n | exact mean_d)); (case ha => omega); (case hn => omega)); intro _ _; (try dsimp only)))
local macro_rules | `(tactic| walk_at "binaryOp Sub float float") => `(tactic| (k_here; (with_reducible refine' hSub_ff ?hx ?hy ?ha ?hb ?_); k_dflt (skip; (case hx => (with_reducible first | exact rfl | exact epoch_g | exact epoch_h | exact half_f | exact mean_n | exact mean_d)); (case hy => (with_reducible first | exact rfl | exact epoch_g | exact epoch_h | exact half_f | exact mean_n | exact mean_d)); (case ha => omega); (case hb => omega)); intro _ _; (try dsimp only)))
local macro_rules | `(tactic| walk_at "inplaceOp Add float int") => `(tactic| (k_here; (with_reducible refine' hIadd_fi ?hh ?hx ?ha ?hn ?_); k_dflt (skip; (case hh => exact rfl); (case hx => (with_reducible first | exact rfl | exact epoch_g | exact epoch_h | exact half_f | exact mean_n | exact mean_d)); (case ha => omega); (case hn => omega)); intro _ _; (try dsimp only)))
local macro_rules | `(tactic| walk_at "binaryOp Mult float int") => `(tactic| (k_here; (with_reducible refine' hMul_fi ?hx ?h0 ?ha ?hn ?hab ?_); k_dflt (skip; (case hx => (with_reducible first | exact rfl | exact epoch_g | exact epoch_h | exact half_f | exact mean_n | exact mean_d)); (case h0 => decide); (case ha => omega); (case hn => decide); (case hab => omega)); intro _ _; (try dsimp only)))
local macro_rules | `(tactic| walk_at "binaryOp Mult float float") => `(tactic| (k_here; (with_reducible refine' hMul_ff (n := 98496) ?hx ?hy ?h0 ?ha ?hn ?hab ?_); k_dflt (skip; (case hx => (with_reducible first | exact rfl | exact epoch_g | exact epoch_h | exact half_f | exact mean_n | exact mean_d)); (case hy => (with_reducible exact mean_n2)); (case h0 => decide); (case ha => omega); (case hn => decide); (case hab => omega)); intro _ _; (try dsimp only)))
local macro_rules | `(tactic| walk_at "binaryOp Div int int") => `(tactic| (k_here; (with_reducible refine' hDiv_ii ?hh ?ha ?hb ?_); k_dflt (skip; (case hh => exact rfl); (case ha => omega); (case hb => decide)); intro _ _; (try dsimp only)))
local macro_rules | `(tactic| walk_at "binaryOp Div float int") => `(tactic| (k_here; (with_reducible refine' hDiv_fi ?hh ?hn ?hb ?_); k_dflt (skip; (case hh => exact rfl); (case hn => decide); (case hb => decide)); intro _ _; (try dsimp only)))
local macro_rules | `(tactic| walk_at "binaryOp Div float float") => `(tactic| (k_here; (with_reducible refine' hDiv_ff ?hh ?hy ?hn ?hb ?_); k_dflt (skip; (case hh => exact rfl); (case hy => (with_reducible first | exact rfl | exact epoch_g | exact epoch_h | exact half_f | exact mean_n | exact mean_d)); (case hn => decide); (case hb => decide)); intro _ _; (try dsimp only)))
local macro_rules | `(tactic| walk_at "binaryOp Mod float int") => `(tactic| (k_here; (with_reducible refine' hMod_fi ?hh ?hx ?h2 ?ha ?h0 ?hn ?_); k_dflt (skip; (case hh => exact rfl); (case hx => (with_reducible first | exact rfl | exact epoch_g | exact epoch_h | exact half_f | exact mean_n | exact mean_d)); (case h2 => omega); (case ha => omega); (case h0 => decide); (case hn => decide)); intro _ _; (try dsimp only)))
local macro_rules | `(tactic| walk_at "call builtin:math.floor") => `(tactic| (k_here; (with_reducible refine' hFloor_fi ?hh ?hx ?ha ?hb ?hb2 ?hq ?_); k_dflt (skip; (case hh => exact rfl); (case hx => (with_reducible first | exact rfl | exact epoch_g | exact epoch_h | exact half_f | exact mean_n | exact mean_d)); (case ha => omega); (case hb => decide); (case hb2 => decide); (case hq => omega)); intro _ _; (try dsimp only)))
local macro_rules | `(tactic| walk_at "call builtin:math.floor") => `(tactic| (k_here; (with_reducible refine' hFloor_ff ?hh ?hx ?hy ?ha ?hb ?hb2 ?hq ?_); k_dflt (skip; (case hh => exact rfl); (case hx => (with_reducible first | exact rfl | exact epoch_g | exact epoch_h | exact half_f | exact mean_n | exact mean_d)); (case hy => (with_reducible first | exact rfl | exact epoch_g | exact epoch_h | exact half_f | exact mean_n | exact mean_d)); (case ha => omega); (case hb => decide); (case hb2 => decide); (case hq => omega)); intro _ _; (try dsimp only)))
local macro_rules | `(tactic| walk_at "call builtin:math.floor") => `(tactic| (k_here; (with_reducible refine' hFloor ?hh ?hx ?ha ?_); k_dflt (skip; (case hh => exact rfl); (case hx => (with_reducible first | exact rfl | exact epoch_g | exact epoch_h | exact half_f | exact mean_n | exact mean_d)); (case ha => omega)); intro _ _; (try dsimp only)))
local macro_rules | `(tactic| walk_at "call builtin:math.floor") => `(tactic| (k_here; (with_reducible refine' hFloor_ii ?hh ?hb ?hb2 ?hq ?_); k_dflt (skip; (case hh => exact rfl); (case hb => decide); (case hb2 => decide); (case hq => omega)); intro _ _; (try dsimp only)))
local macro_rules | `(tactic| walk_at "call builtin:math.floor") => `(tactic| (k_here; (with_reducible refine' hFloor_mo ?hh ?hm ?hd ?hl ?_); k_dflt (skip; (case hh => exact rfl); (case hm => omega); (case hd => omega); (case hl => omega)); intro _ _; (try dsimp only)))
local macro_rules | `(tactic| walk_at "call type:int") => `(tactic| (k_here; (with_reducible refine' hInt ?hh ?hx ?ha ?_); k_dflt (skip; (case hh => exact rfl); (case hx => (with_reducible first | exact rfl | exact epoch_g | exact epoch_h | exact half_f | exact mean_n | exact mean_d)); (case ha => omega)); intro _ _ _ _; (try dsimp only)))
local macro_rules | `(tactic| walk_at "call type:int") => `(tactic| (k_here; (with_reducible refine' hInt_pos ?hh ?hx ?h0 ?ha ?_); k_dflt (skip; (case hh => exact rfl); (case hx => (with_reducible first | exact rfl | exact epoch_g | exact epoch_h | exact half_f | exact mean_n | exact mean_d)); (case h0 => omega); (case ha => omega)); intro _ _; (try dsimp only)))
local macro_rules | `(tactic| walk_at "compareOp Lt float int") => `(tactic| (k_here; (with_reducible refine' hLt_fi ?hx ?ha ?_); k_dflt (skip; (case hx => (with_reducible first | exact rfl | exact epoch_g | exact epoch_h | exact half_f | exact mean_n | exact mean_d)); (case ha => omega)); (try dsimp only)))
local macro_rules | `(tactic| walk_at "compareOp NotEq float int") => `(tactic| (k_here; (with_reducible refine' hNe_fi ?hx ?ha ?_); k_dflt (skip; (case hx => (with_reducible first | exact rfl | exact epoch_g | exact epoch_h | exact half_f | exact mean_n | exact mean_d)); (case ha => omega)); (try dsimp only)))
local macro_rules | `(tactic| walk_at "compareOp Eq float int") => `(tactic| (k_here; (with_reducible refine' hEq_fi ?hx ?ha ?_); k_dflt (skip; (case hx => (with_reducible first | exact rfl | exact epoch_g | exact epoch_h | exact half_f | exact mean_n | exact mean_d)); (case ha => omega)); (try dsimp only)))
local macro_rules | `(tactic| walk_at "compareOp Lt float float") => `(tactic| (k_here; (with_reducible refine' hLt_ff ?hx ?hy ?ha ?hb ?_); k_dflt (skip; (case hx => (with_reducible first | exact rfl | exact epoch_g | exact epoch_h | exact half_f | exact mean_n | exact mean_d)); (case hy => (with_reducible first | exact rfl | exact epoch_g | exact epoch_h | exact half_f | exact mean_n | exact mean_d)); (case ha => omega); (case hb => omega)); (try dsimp only)))
local macro_rules | `(tactic| walk_at "compareOp Gt float float") => `(tactic| (k_here; (with_reducible refine' hGt_ff ?hx ?hy ?ha ?hb ?_); k_dflt (skip; (case hx => (with_reducible first | exact rfl | exact epoch_g | exact epoch_h | exact half_f | exact mean_n | exact mean_d)); (case hy => (with_reducible first | exact rfl | exact epoch_g | exact epoch_h | exact half_f | exact mean_n | exact mean_d)); (case ha => omega); (case hb => omega)); (try dsimp only)))
local macro_rules | `(tactic| walk_at "compareOp GtE float float") => `(tactic| (k_here; (with_reducible refine' hGe_ff ?hx ?hy ?ha ?hb ?_); k_dflt (skip; (case hx => (with_reducible first | exact rfl | exact epoch_g | exact epoch_h | exact half_f | exact mean_n | exact mean_d)); (case hy => (with_reducible first | exact rfl | exact epoch_g | exact epoch_h | exact half_f | exact mean_n | exact mean_d)); (case ha => omega); (case hb => omega)); (try dsimp only)))
local macro_rules | `(tactic| walk_at "compareOp Eq float float") => `(tactic| (k_here; (with_reducible refine' hEq_ff ?hx ?hy ?ha ?hb ?_); k_dflt (skip; (case hx => (with_reducible first | exact rfl | exact epoch_g | exact epoch_h | exact half_f | exact mean_n | exact mean_d)); (case hy => (with_reducible first | exact rfl | exact epoch_g | exact epoch_h | exact half_f | exact mean_n | exact mean_d)); (case ha => omega); (case hb => omega)); (try dsimp only)))
local macro_rules | `(tactic| walk_at "compareOp NotEq float float") => `(tactic| (k_here; (with_reducible refine' hNe_ff ?hx ?hy ?ha ?hb ?_); k_dflt (skip; (case hx => (with_reducible first | exact rfl | exact epoch_g | exact epoch_h | exact half_f | exact mean_n | exact mean_d)); (case hy => (with_reducible first | exact rfl | exact epoch_g | exact epoch_h | exact half_f | exact mean_n | exact mean_d)); (case ha => omega); (case hb => omega)); (try dsimp only)))
local macro_rules | `(tactic| walk_at "truthy float") => `(tactic| (k_here; (with_reducible refine' hTruthy ?hx ?ha ?_); k_dflt (skip; (case hx => (with_reducible first | exact rfl | exact epoch_g | exact epoch_h | exact half_f | exact mean_n | exact mean_d)); (case ha => omega)); (try dsimp only)))
local macro_rules | `(tactic| walk_at "ite") => `(tactic| (k_here; first | with_reducible refine ite_tt ?_ | with_reducible refine ite_ff ?_ | with_reducible refine split_not ?_ | (with_reducible refine ite_pos (by assumption) ?_) | (with_reducible refine pr_false (by assumption) ?_) | (with_reducible refine pr_decT (by k_dflt omega) ?_) | (with_reducible refine pr_decF (by k_dflt omega) ?_) | (with_reducible refine pr_ieqT (by k_dflt omega) ?_) | (with_reducible refine pr_ieqF (by k_dflt omega) ?_) | (with_reducible refine pr_ineT (by k_dflt omega) ?_) | (with_reducible refine pr_ineF (by k_dflt omega) ?_) | (with_reducible refine split_ine ?_ ?_ <;> intro _) | (with_reducible refine split_ieq ?_ ?_ <;> intro _) | (with_reducible refine PyProof.Rows.split_dec ?_ ?_ <;> intro _) | (with_reducible refine PyProof.Rows.split_bool ?_ ?_ <;> intro _)))
local macro_rules | `(tactic| walk_at "binaryOp Mod int int") => `(tactic| (k_here; (with_reducible refine' hMod_ii ?hb ?_); k_dflt (skip; (case hb => decide)); intro _ _; (try dsimp only)))
local macro_rules | `(tactic| walk_at "call builtin:divmod") => `(tactic| (k_here; (with_reducible refine' hDivmod ?k1 ?k2 ?k3 ?k4 ?_); (k_dflt (skip; (case k1 => k_asm); (case k2 => k_asm); (case k3 => decide); (case k4 => decide))); intro _ _ _; (try dsimp only)))
local macro_rules | `(tactic| walk_at "eval Name") => `(tactic| (k_here; k_dflt (first | (refine' ld ?k1 ?k2 ?_; (case k1 => k_asm); (case k2 => exact rfl); k_whole) | (refine' name_K ?k0 ?k1 ?k2 ?k3 ?_; (case k0 => k_asm); (case k1 => k_asm); (case k2 => k_asm); (case k3 => k_is); k_whole))))
local macro_rules | `(tactic| walk_at "exec If") => `(tactic| ((with_reducible refine wpAny_If ?_); try dsimp only))
local macro_rules | `(tactic| walk_at "execs cons") => `(tactic| ((with_reducible refine wpAny_execs_cons ?_); try dsimp only))
local macro_rules | `(tactic| walk_at "execs nil") => `(tactic| ((with_reducible refine wpAny_execs_nil ?_); try dsimp only))
local macro_rules | `(tactic| walk_at "eval Call") => `(tactic| (k_here; (with_reducible show wpAny _ _ (eval (Expr.Call (Expr.Name _ _) _ [] _) _) _ _ _); k_dflt (refine Call_ ?_)))
local macro_rules | `(tactic| walk_at "call ref") => `(tactic| (k_here; (with_reducible show wpAny _ _ (call (Value.ref 50) [Value.int _ _]) _ _ _); k_dflt (refine' use (c_isleap _ _ _ _ _ _) ?k1 ?k2 ?k3 ?k4 ?k5 ?kK ?kd ?ku ?_; (case k1 => k_asm); (case k2 => k_asm); (case k3 => k_asm); (case k4 => k_asm); (case k5 => k_asm); (case kK => first | exact rfl | assumption); (case kd => ktr_room); (case ku => ktr_units)); intro t9 h9 tk9 hp9 F9 N9; (try dsimp only); (try k_fold)))
local macro_rules | `(tactic| walk_at "call ref") => `(tactic| (k_here; (with_reducible show wpAny _ _ (call (Value.ref 78) [Value.int _ _]) _ _ _); k_dflt (refine' use (c_leap _ _ _ _ _ _) ?k1 ?k2 ?k3 ?k4 ?k5 ?kK ?kd ?ku ?_; (case k1 => k_asm); (case k2 => k_asm); (case k3 => k_asm); (case k4 => k_asm); (case k5 => k_asm); (case kK => first | exact rfl | assumption); (case kd => ktr_room); (case ku => ktr_units)); intro t9 h9 tk9 hp9 F9 N9; (try dsimp only); (try k_fold)))
local macro_rules | `(tactic| walk_at "call ref") => `(tactic| (k_here; (with_reducible show wpAny _ _ (call (Value.ref 85) [Value.int _ _]) _ _ _); k_dflt (refine' use (c_year_months _ _ _ _ _ _) ?k1 ?k2 ?k3 ?k4 ?k5 ?kK ?kd ?ku ?_; (case k1 => k_asm); (case k2 => k_asm); (case k3 => k_asm); (case k4 => k_asm); (case k5 => k_asm); (case kK => first | exact rfl | assumption); (case kd => ktr_room); (case ku => ktr_units)); intro t9 h9 tk9 hp9 F9 N9; (try dsimp only); (try k_fold)))
local macro_rules | `(tactic| walk_at "call ref") => `(tactic| (k_here; (with_reducible show wpAny _ _ (call (Value.ref 92) [Value.int _ _]) _ _ _); k_dflt (refine' use (c_delay_1 _ _ _ _ _ _ ?hy) ?k1 ?k2 ?k3 ?k4 ?k5 ?kK ?kd ?ku ?_; (case k1 => k_asm); (case k2 => k_asm); (case k3 => k_asm); (case k4 => k_asm); (case k5 => k_asm); (case kK => first | exact rfl | assumption); (case kd => ktr_room); (case ku => ktr_units); (case hy => omega)); intro t9 h9 tk9 hp9 F9 N9; (try dsimp only); (try k_fold)))
local macro_rules | `(tactic| walk_at "call ref") => `(tactic| (k_here; (with_reducible show wpAny _ _ (call (Value.ref 99) [Value.int _ _]) _ _ _); k_dflt (refine' use (c_delay_2 _ _ _ _ _ _ ?hy) ?k1 ?k2 ?k3 ?k4 ?k5 ?kK ?kd ?ku ?_; (case k1 => k_asm); (case k2 => k_asm); (case k3 => k_asm); (case k4 => k_asm); (case k5 => k_asm); (case kK => first | exact rfl | assumption); (case kd => ktr_room); (case ku => ktr_units); (case hy => omega)); intro t9 h9 tk9 hp9 F9 N9; (try dsimp only); (try k_fold)))
local macro_rules | `(tactic| walk_at "call ref") => `(tactic| (k_here; (with_reducible show wpAny _ _ (call (Value.ref 127) [Value.int _ _, Value.int _ _, Value.int _ _]) _ _ _); k_dflt (refine' use (c_tojd7 _ _ _ _ _ _ _ _ _ ?hy ?hd) ?k1 ?k2 ?k3 ?k4 ?k5 ?kK ?kd ?ku ?_; (case k1 => k_asm); (case k2 => k_asm); (case k3 => k_asm); (case k4 => k_asm); (case k5 => k_asm); (case kK => first | exact rfl | assumption); (case kd => ktr_room); (case ku => ktr_units); (case hy => omega); (case hd => omega)); intro t9 h9 tk9 hp9 F9 N9; (try dsimp only); (try k_fold)))

theorem c_year_days (w : World) (mean : ExcName → Option Value) (mg mb : Str → Option Value) (y : Int) (ty : Tok) (hy : -999 ≤ y ∧ y ≤ 24998) :
    Claim 4 w mean mg mb 106 [.int y ty] (fun t => .float (H (2 * YD y)) t) (-22000000 ≤ YD y ∧ YD y ≤ 22000000) := by
  w_on
  dsimp only [Claim, ClaimG]
  k_fill
  intros
  rename_i hret
  refine wpAny_call ?_
  k_dflt cell_enter
  k_steps
  all_goals (refine ret_flt hret ?_ (by exact YD_bd (by omega)) (by k_asm) (by k_asm))
  all_goals (unfold YD; omega)
local macro_rules | `(tactic| walk_at "call ref") => `(tactic| (k_here; (with_reducible show wpAny _ _ (call (Value.ref 106) [Value.int _ _]) _ _ _); k_dflt (refine' use (c_year_days _ _ _ _ _ _ ?hy) ?k1 ?k2 ?k3 ?k4 ?k5 ?kK ?kd ?ku ?_; (case k1 => k_asm); (case k2 => k_asm); (case k3 => k_asm); (case k4 => k_asm); (case k5 => k_asm); (case kK => first | exact rfl | assumption); (case kd => ktr_room); (case ku => ktr_units); (case hy => omega)); intro t9 h9 tk9 hp9 F9 N9; (try dsimp only); (try k_fold)))

theorem c_month_length (w : World) (mean : ExcName → Option Value) (mg mb : Str → Option Value) (y m : Int) (ty tm : Tok) (hy : -951 ≤ y ∧ y ≤ 24998) (hm : 1 ≤ m ∧ m ≤ 13) :
    Claim 5 w mean mg mb 113 [.int y ty, .int m tm] (fun t => .int (ML y m) t) (29 ≤ ML y m ∧ ML y m ≤ 30) := by
  w_on
  dsimp only [Claim, ClaimG]
  k_fill
  intros
  rename_i hret
  refine wpAny_call ?_
  k_dflt cell_enter
  k_steps
  all_goals (have hYD := YD_T hy.1)
  all_goals (refine ret_int hret ?_ (by exact ML_bd y m) (by first | k_asm | exact cb_drop1 (by assumption)) (by first | k_asm | exact cb_drop1 (by assumption)))
  all_goals first
    | exact ML_1 (any5T (by assumption))
    | (have hA := any5F (m := m) (by assumption); first | exact ML_2 (by omega) (by assumption) | exact ML_3 (by omega) (by omega) | exact ML_4 (by omega) (by omega) | exact ML_5 hA (by first | exact .inl (by omega) | exact .inr (by assumption)) (by omega) (by omega))
local macro_rules | `(tactic| walk_at "call ref") => `(tactic| (k_here; (with_reducible show wpAny _ _ (call (Value.ref 113) [Value.int _ _, Value.int _ _]) _ _ _); k_dflt (refine' use (c_month_length _ _ _ _ _ _ _ _ ?hy ?hm) ?k1 ?k2 ?k3 ?k4 ?k5 ?kK ?kd ?ku ?_; (case k1 => k_asm); (case k2 => k_asm); (case k3 => k_asm); (case k4 => k_asm); (case k5 => k_asm); (case kK => first | exact rfl | assumption); (case kd => ktr_room); (case ku => ktr_units); (case hy => omega); (case hm => omega)); intro t9 h9 tk9 hp9 F9 N9; (try dsimp only); (try k_fold)))

theorem c_month_days (w : World) (mean : ExcName → Option Value) (mg mb : Str → Option Value) (y m : Int) (ty tm : Tok) (hy : -951 ≤ y ∧ y ≤ 24998) (hm : 1 ≤ m ∧ m ≤ 13) :
    Claim 6 w mean mg mb 120 [.int y ty, .int m tm] (fun t => .int (ML y m) t) (29 ≤ ML y m ∧ ML y m ≤ 30) := by
  w_on
  dsimp only [Claim, ClaimG]
  k_fill
  intros
  rename_i hret
  refine wpAny_call ?_
  k_dflt cell_enter
  k_steps
  all_goals (refine ret_int hret ?_ (by exact ML_bd y m) (by k_asm) (by k_asm))
  all_goals rfl
end Mine
namespace Mine
open PySem PySem.W PyProof.Rows PySem.Calls PySem.Spec

local macro_rules | `(tactic| walk_at "binaryOp Add int int") => `(tactic| (k_here; (with_reducible refine' hAdd_ii ?_); k_dflt (skip); intro _ _; (try dsimp only)))
local macro_rules | `(tactic| walk_at "binaryOp Sub int int") => `(tactic| (k_here; (with_reducible refine' hSub_ii ?_); k_dflt (skip); intro _ _; (try dsimp only)))
local macro_rules | `(tactic| walk_at "binaryOp Mult int int") => `(tactic| (k_here; (with_reducible refine' hMul_ii ?ok ?_); k_dflt (skip; (case ok => mul_fits)); intro _ _; (try dsimp only)))
local macro_rules | `(tactic| walk_at "unaryOp USub int") => `(tactic| (k_here; (with_reducible refine' hNeg_i ?_); k_dflt (skip); intro _ _; (try dsimp only)))
local macro_rules | `(tactic| walk_at "binaryOp Add float int") => `(tactic| (k_here; (with_reducible refine' hAdd_fi0 ?hn ?_); k_dflt (skip; (case hn => omega)); intro _ _; (try dsimp only)))
local macro_rules | `(tactic| walk_at "binaryOp Add float int") => `(tactic| (k_here; (with_reducible refine' hAdd_fi ?hx ?ha ?hn ?_); k_dflt (skip; (case hx => (with_reducible first | exact rfl | exact epoch_g | exact epoch_h | exact half_f | exact mean_n | exact mean_d)); (case ha => omega); (case hn => omega)); intro _ _; (try dsimp only)))
local macro_rules | `(tactic| walk_at "binaryOp Add int float") => `(tactic| (k_here; (with_reducible refine' hAdd_if ?hx ?ha ?hn ?_); k_dflt (skip; (case hx => (with_reducible first | exact rfl | exact epoch_g | exact epoch_h | exact half_f | exact mean_n | exact mean_d)); (case ha => omega); (case hn => omega)); intro _ _; (try dsimp only)))
local macro_rules | `(tactic| walk_at "binaryOp Add float float") => `(tactic| (k_here; (with_reducible refine' hAdd_ff ?hx ?hy ?ha ?hb ?_); k_dflt (skip; (case hx => (with_reducible first | exact rfl | exact epoch_g | exact epoch_h | exact half_f | exact mean_n | exact mean_d)); (case hy => (with_reducible first | exact rfl | exact epoch_g | exact epoch_h | exact half_f | exact mean_n | exact mean_d)); (case ha => omega); (case hb => omega)); intro _ _; (try dsimp only)))
local macro_rules | `(tactic| walk_at "binaryOp Sub float int") => `(tactic| (k_here; (with_reducible refine' hSub_fi ?hx ?ha ?hn ?_); k_dflt (skip; (case hx => (with_reducible first | exact rfl | exact epoch_g | exact epoch_h | exact half_f | exact mean_n | exact mean_d)); (case ha => omega); (case hn => omega)); intro _ _; (try dsimp only)))
local macro_rules | `(tactic| walk_at "binaryOp Sub float float") => `(tactic| (k_here; (with_reducible refine' hSub_ff ?hx ?hy ?ha ?hb ?_); k_dflt (skip; (case hx => (with_reducible first | exact rfl | exact epoch_g | exact epoch_h | exact half_f | exact mean_n | exact mean_d)); (case hy => (with_reducible first | exact rfl | exact epoch_g | exact epoch_h | exact half_f | exact mean_n | exact mean_d)); (case ha => omega); (case hb => omega)); intro _ _; (try dsimp only)))
local macro_rules | `(tactic| walk_at "inplaceOp Add float int") => `(tactic| (k_here; (with_reducible refine' hIadd_fi ?hh ?hx ?ha ?hn ?_); k_dflt (skip; (case hh => exact rfl); (case hx => (with_reducible first | exact rfl | exact epoch_g | exact epoch_h | exact half_f | exact mean_n | exact mean_d)); (case ha => omega); (case hn => omega)); intro _ _; (try dsimp only)))
local macro_rules | `(tactic| walk_at "binaryOp Mult float int") => `(tactic| (k_here; (with_reducible refine' hMul_fi ?hx ?h0 ?ha ?hn ?hab ?_); k_dflt (skip; (case hx => (with_reducible first | exact rfl | exact epoch_g | exact epoch_h | exact half_f | exact mean_n | exact mean_d)); (case h0 => decide); (case ha => omega); (case hn => decide); (case hab => omega)); intro _ _; (try dsimp only)))
local macro_rules | `(tactic| walk_at "binaryOp Mult float float") => `(tactic| (k_here; (with_reducible refine' hMul_ff (n := 98496) ?hx ?hy ?h0 ?ha ?hn ?hab ?_); k_dflt (skip; (case hx => (with_reducible first | exact rfl | exact epoch_g | exact epoch_h | exact half_f | exact mean_n | exact mean_d)); (case hy => (with_reducible exact mean_n2)); (case h0 => decide); (case ha => omega); (case hn => decide); (case hab => omega)); intro _ _; (try dsimp only)))
local macro_rules | `(tactic| walk_at "binaryOp Div int int") => `(tactic| (k_here; (with_reducible refine' hDiv_ii ?hh ?ha ?hb ?_); k_dflt (skip; (case hh => exact rfl); (case ha => omega); (case hb => decide)); intro _ _; (try dsimp only)))
local macro_rules | `(tactic| walk_at "binaryOp Div float int") => `(tactic| (k_here; (with_reducible refine' hDiv_fi ?hh ?hn ?hb ?_); k_dflt (skip; (case hh => exact rfl); (case hn => decide); (case hb => decide)); intro _ _; (try dsimp only)))
local macro_rules | `(tactic| walk_at "binaryOp Div float float") => `(tactic| (k_here; (with_reducible refine' hDiv_ff ?hh ?hy ?hn ?hb ?_); k_dflt (skip; (case hh => exact rfl); (case hy => (with_reducible first | exact rfl | exact epoch_g | exact epoch_h | exact half_f | exact mean_n | exact mean_d)); (case hn => decide); (case hb => decide)); intro _ _; (try dsimp only)))
local macro_rules | `(tactic| walk_at "binaryOp Mod float int") => `(tactic| (k_here; (with_reducible refine' hMod_fi ?hh ?hx ?h2 ?ha ?h0 ?hn ?_); k_dflt (skip; (case hh => exact rfl); (case hx => (with_reducible first | exact rfl | exact epoch_g | exact epoch_h | exact half_f | exact mean_n | exact mean_d)); (case h2 => omega); (case ha => omega); (case h0 => decide); (case hn => decide)); intro _ _; (try dsimp only)))
local macro_rules | `(tactic| walk_at "call builtin:math.floor") => `(tactic| (k_here; (with_reducible refine' hFloor_fi ?hh ?hx ?ha ?hb ?hb2 ?hq ?_); k_dflt (skip; (case hh => exact rfl); (case hx => (with_reducible first | exact rfl | exact epoch_g | exact epoch_h | exact half_f | exact mean_n | exact mean_d)); (case ha => omega); (case hb => decide); (case hb2 => decide); (case hq => omega)); intro _ _; (try dsimp only)))
local macro_rules | `(tactic| walk_at "call builtin:math.floor") => `(tactic| (k_here; (with_reducible refine' hFloor_ff ?hh ?hx ?hy ?ha ?hb ?hb2 ?hq ?_); k_dflt (skip; (case hh => exact rfl); (case hx => (with_reducible first | exact rfl | exact epoch_g | exact epoch_h | exact half_f | exact mean_n | exact mean_d)); (case hy => (with_reducible first | exact rfl | exact epoch_g | exact epoch_h | exact half_f | exact mean_n | exact mean_d)); (case ha => omega); (case hb => decide); (case hb2 => decide); (case hq => omega)); intro _ _; (try dsimp only)))
local macro_rules | `(tactic| walk_at "call builtin:math.floor") => `(tactic| (k_here; (with_reducible refine' hFloor ?hh ?hx ?ha ?_); k_dflt (skip; (case hh => exact rfl); (case hx => (with_reducible first | exact rfl | exact epoch_g | exact epoch_h | exact half_f | exact mean_n | exact mean_d)); (case ha => omega)); intro _ _; (try dsimp only)))
local macro_rules | `(tactic| walk_at "call builtin:math.floor") => `(tactic| (k_here; (with_reducible refine' hFloor_ii ?hh ?hb ?hb2 ?hq ?_); k_dflt (skip; (case hh => exact rfl); (case hb => decide); (case hb2 => decide); (case hq => omega)); intro _ _; (try dsimp only)))
local macro_rules | `(tactic| walk_at "call builtin:math.floor") => `(tactic| (k_here; (with_reducible refine' hFloor_mo ?hh ?hm ?hd ?hl ?_); k_dflt (skip; (case hh => exact rfl); (case hm => omega); (case hd => omega); (case hl => omega)); intro _ _; (try dsimp only)))
local macro_rules | `(tactic| walk_at "call type:int") => `(tactic| (k_here; (with_reducible refine' hInt ?hh ?hx ?ha ?_); k_dflt (skip; (case hh => exact rfl); (case hx => (with_reducible first | exact rfl | exact epoch_g | exact epoch_h | exact half_f | exact mean_n | exact mean_d)); (case ha => omega)); intro _ _ _ _; (try dsimp only)))
local macro_rules | `(tactic| walk_at "call type:int") => `(tactic| (k_here; (with_reducible refine' hInt_pos ?hh ?hx ?h0 ?ha ?_); k_dflt (skip; (case hh => exact rfl); (case hx => (with_reducible first | exact rfl | exact epoch_g | exact epoch_h | exact half_f | exact mean_n | exact mean_d)); (case h0 => omega); (case ha => omega)); intro _ _; (try dsimp only)))
local macro_rules | `(tactic| walk_at "compareOp Lt float int") => `(tactic| (k_here; (with_reducible refine' hLt_fi ?hx ?ha ?_); k_dflt (skip; (case hx => (with_reducible first | exact rfl | exact epoch_g | exact epoch_h | exact half_f | exact mean_n | exact mean_d)); (case ha => omega)); (try dsimp only)))
local macro_rules | `(tactic| walk_at "compareOp NotEq float int") => `(tactic| (k_here; (with_reducible refine' hNe_fi ?hx ?ha ?_); k_dflt (skip; (case hx => (with_reducible first | exact rfl | exact epoch_g | exact epoch_h | exact half_f | exact mean_n | exact mean_d)); (case ha => omega)); (try dsimp only)))
local macro_rules | `(tactic| walk_at "compareOp Eq float int") => `(tactic| (k_here; (with_reducible refine' hEq_fi ?hx ?ha ?_); k_dflt (skip; (case hx => (with_reducible first | exact rfl | exact epoch_g | exact epoch_h | exact half_f | exact mean_n | exact mean_d)); (case ha => omega)); (try dsimp only)))
local macro_rules | `(tactic| walk_at "compareOp Lt float float") => `(tactic| (k_here; (with_reducible refine' hLt_ff ?hx ?hy ?ha ?hb ?_); k_dflt (skip; (case hx => (with_reducible first | exact rfl | exact epoch_g | exact epoch_h | exact half_f | exact mean_n | exact mean_d)); (case hy => (with_reducible first | exact rfl | exact epoch_g | exact epoch_h | exact half_f | exact mean_n | exact mean_d)); (case ha => omega); (case hb => omega)); (try dsimp only)))
local macro_rules | `(tactic| walk_at "compareOp Gt float float") => `(tactic| (k_here; (with_reducible refine' hGt_ff ?hx ?hy ?ha ?hb ?_); k_dflt (skip; (case hx => (with_reducible first | exact rfl | exact epoch_g | exact epoch_h | exact half_f | exact mean_n | exact mean_d)); (case hy => (with_reducible first | exact rfl | exact epoch_g | exact epoch_h | exact half_f | exact mean_n | exact mean_d)); (case ha => omega); (case hb => omega)); (try dsimp only)))
local macro_rules | `(tactic| walk_at "compareOp GtE float float") => `(tactic| (k_here; (with_reducible refine' hGe_ff ?hx ?hy ?ha ?hb ?_); k_dflt (skip; (case hx => (with_reducible first | exact rfl | exact epoch_g | exact epoch_h | exact half_f | exact mean_n | exact mean_d)); (case hy => (with_reducible first | exact rfl | exact epoch_g | exact epoch_h | exact half_f | exact mean_n | exact mean_d)); (case ha => omega); (case hb => omega)); (try dsimp only)))
local macro_rules | `(tactic| walk_at "compareOp Eq float float") => `(tactic| (k_here; (with_reducible refine' hEq_ff ?hx ?hy ?ha ?hb ?_); k_dflt (skip; (case hx => (with_reducible first | exact rfl | exact epoch_g | exact epoch_h | exact half_f | exact mean_n | exact mean_d)); (case hy => (with_reducible first | exact rfl | exact epoch_g | exact epoch_h | exact half_f | exact mean_n | exact mean_d)); (case ha => omega); (case hb => omega)); (try dsimp only)))
local macro_rules | `(tactic| walk_at "compareOp NotEq float float") => `(tactic| (k_here; (with_reducible refine' hNe_ff ?hx ?hy ?ha ?hb ?_); k_dflt (skip; (case hx => (with_reducible first | exact rfl | exact epoch_g | exact epoch_h | exact half_f | exact mean_n | exact mean_d)); (case hy => (with_reducible first | exact rfl | exact epoch_g | exact epoch_h | exact half_f | exact mean_n | exact mean_d)); (case ha => omega); (case hb => omega)); (try dsimp only)))
local macro_rules | `(tactic| walk_at "truthy float") => `(tactic| (k_here; (with_reducible refine' hTruthy ?hx ?ha ?_); k_dflt (skip; (case hx => (with_reducible first | exact rfl | exact epoch_g | exact epoch_h | exact half_f | exact mean_n | exact mean_d)); (case ha => omega)); (try dsimp only)))
local macro_rules | `(tactic| walk_at "ite") => `(tactic| (k_here; first | with_reducible refine ite_tt ?_ | with_reducible refine ite_ff ?_ | with_reducible refine split_not ?_ | (with_reducible refine ite_pos (by assumption) ?_) | (with_reducible refine pr_false (by assumption) ?_) | (with_reducible refine pr_decT (by k_dflt omega) ?_) | (with_reducible refine pr_decF (by k_dflt omega) ?_) | (with_reducible refine pr_ieqT (by k_dflt omega) ?_) | (with_reducible refine pr_ieqF (by k_dflt omega) ?_) | (with_reducible refine pr_ineT (by k_dflt omega) ?_) | (with_reducible refine pr_ineF (by k_dflt omega) ?_) | (with_reducible refine split_ine ?_ ?_ <;> intro _) | (with_reducible refine split_ieq ?_ ?_ <;> intro _) | (with_reducible refine PyProof.Rows.split_dec ?_ ?_ <;> intro _) | (with_reducible refine PyProof.Rows.split_bool ?_ ?_ <;> intro _)))
local macro_rules | `(tactic| walk_at "binaryOp Mod int int") => `(tactic| (k_here; (with_reducible refine' hMod_ii ?hb ?_); k_dflt (skip; (case hb => decide)); intro _ _; (try dsimp only)))
local macro_rules | `(tactic| walk_at "call builtin:divmod") => `(tactic| (k_here; (with_reducible refine' hDivmod ?k1 ?k2 ?k3 ?k4 ?_); (k_dflt (skip; (case k1 => k_asm); (case k2 => k_asm); (case k3 => decide); (case k4 => decide))); intro _ _ _; (try dsimp only)))
local macro_rules | `(tactic| walk_at "eval Name") => `(tactic| (k_here; k_dflt (first | (refine' ld ?k1 ?k2 ?_; (case k1 => k_asm); (case k2 => exact rfl); k_whole) | (refine' name_K ?k0 ?k1 ?k2 ?k3 ?_; (case k0 => k_asm); (case k1 => k_asm); (case k2 => k_asm); (case k3 => k_is); k_whole))))
local macro_rules | `(tactic| walk_at "exec If") => `(tactic| ((with_reducible refine wpAny_If ?_); try dsimp only))
local macro_rules | `(tactic| walk_at "execs cons") => `(tactic| ((with_reducible refine wpAny_execs_cons ?_); try dsimp only))
local macro_rules | `(tactic| walk_at "execs nil") => `(tactic| ((with_reducible refine wpAny_execs_nil ?_); try dsimp only))
local macro_rules | `(tactic| walk_at "eval Call") => `(tactic| (k_here; (with_reducible show wpAny _ _ (eval (Expr.Call (Expr.Name _ _) _ [] _) _) _ _ _); k_dflt (refine Call_ ?_)))
local macro_rules | `(tactic| walk_at "exec For Name Call cons nil") => `(tactic| (k_here; (rename Fr _ _ _ _ => lF'); (with_unfolding_all refine' For_invVF lF' ?k1 ?k2 ?_; (case k1 => exact rfl); (case k2 => exact rfl); k_whole)))
local macro_rules | `(tactic| walk_at "InvEndN") => `(tactic| (refine InvEndN.intro (by assumption) (by assumption) ⟨rfl, flt_eq (by with_unfolding_all rfl) (by k_dflt omega), by k_same2⟩ (by rfl) (by (with_unfolding_all ((try simp only [List.nil_append, List.cons_append]); (intro p hp; exact List.mem_append.mpr (.inl hp))))) (by (intro p hp; exact List.mem_append.mpr (.inr hp)))))
local macro_rules | `(tactic| walk_at "call ref") => `(tactic| (k_here; (with_reducible show wpAny _ _ (call (Value.ref 85) [Value.int _ _]) _ _ _); k_dflt (refine' use (c_year_months _ _ _ _ _ _) ?k1 ?k2 ?k3 ?k4 ?k5 ?kK ?kd ?ku ?_; (case k1 => k_asm); (case k2 => k_asm); (case k3 => k_asm); (case k4 => k_asm); (case k5 => k_asm); (case kK => first | exact rfl | assumption); (case kd => ktr_room); (case ku => ktr_units)); intro t9 h9 tk9 hp9 F9 N9; (try dsimp only); (try k_fold)))
local macro_rules | `(tactic| walk_at "call ref") => `(tactic| (k_here; (with_reducible show wpAny _ _ (call (Value.ref 92) [Value.int _ _]) _ _ _); k_dflt (refine' use (c_delay_1 _ _ _ _ _ _ ?hy) ?k1 ?k2 ?k3 ?k4 ?k5 ?kK ?kd ?ku ?_; (case k1 => k_asm); (case k2 => k_asm); (case k3 => k_asm); (case k4 => k_asm); (case k5 => k_asm); (case kK => first | exact rfl | assumption); (case kd => ktr_room); (case ku => ktr_units); (case hy => omega)); intro t9 h9 tk9 hp9 F9 N9; (try dsimp only); (try k_fold)))
local macro_rules | `(tactic| walk_at "call ref") => `(tactic| (k_here; (with_reducible show wpAny _ _ (call (Value.ref 99) [Value.int _ _]) _ _ _); k_dflt (refine' use (c_delay_2 _ _ _ _ _ _ ?hy) ?k1 ?k2 ?k3 ?k4 ?k5 ?kK ?kd ?ku ?_; (case k1 => k_asm); (case k2 => k_asm); (case k3 => k_asm); (case k4 => k_asm); (case k5 => k_asm); (case kK => first | exact rfl | assumption); (case kd => ktr_room); (case ku => ktr_units); (case hy => omega)); intro t9 h9 tk9 hp9 F9 N9; (try dsimp only); (try k_fold)))
local macro_rules | `(tactic| walk_at "call ref") => `(tactic| (k_here; (with_reducible show wpAny _ _ (call (Value.ref 120) [Value.int _ _, Value.int _ _]) _ _ _); k_dflt (refine' use (c_month_days _ _ _ _ _ _ _ _ ?hy ?hm) ?k1 ?k2 ?k3 ?k4 ?k5 ?kK ?kd ?ku ?_; (case k1 => k_asm); (case k2 => k_asm); (case k3 => k_asm); (case k4 => k_asm); (case k5 => k_asm); (case kK => first | exact rfl | assumption); (case kd => ktr_room); (case ku => ktr_units); (case hy => omega); (case hm => omega)); intro t9 h9 tk9 hp9 F9 N9; (try dsimp only); (try k_fold)))

theorem c_to_jd (w : World) (mean : ExcName → Option Value) (mg mb : Str → Option Value) (y m d : Int) (ty tm td : Tok) (hy : -951 ≤ y ∧ y ≤ 24998) (hm : 1 ≤ m ∧ m ≤ 13) (hd : 0 ≤ d ∧ d ≤ 1000) :
    Claim 7 w mean mg mb 127 [.int y ty, .int m tm, .int d td] (fun t => .float (H (2 * tr (HN y m d) + 1)) t) (-400000 ≤ HN y m d ∧ HN y m d ≤ 21001000 ∧ 2 * tr (HN y m d) ≤ HN y m d + 1 ∧ HN y m d - 1 ≤ 2 * tr (HN y m d)) := by
  w_on
  dsimp only [Claim, ClaimG]
  k_fill
  intros
  rename_i hret
  refine wpAny_call ?_
  k_dflt cell_enter
  have hmb := mY_bd y
  repeat' ((fail_if_success (with_reducible show wpAny _ _ (pyIter _) _ _ _)); first | (k_unfold; (try dsimp only)) | (k_end; wrow_close) | walk1 | (dsimp only; walk1))
  · ((try dsimp only); (rename Fr _ _ _ _ => lF'); (rename News _ _ _ _ => lN'); (rename IsRange _ _ _ _ _ _ _ _ => rgX); (with_unfolding_all refine' loopH (y := Str.ofString "jd") (SM y 7) (ML y) rfl (fun _ => rfl) (by rfl) (by first | exact rgX | assumption) (by first | exact small_one (by l_bnd) (by l_bnd) (by l_bnd) (by l_bnd) | decide) (by first | exact rangeSize_nat _ _ | rfl) lF' lN' (by rfl) (fun i k t ta h tk own hi hk hS hoff F' N' => ?_) (fun u t h tk F' N' => ?_)); (all_goals (try clear lF' lN')); (all_goals (try simp only [List.nil_append, List.cons_append, List.append_nil] at N')); (all_goals (try k_fold)))
    · have hb := SM_bd y 7 i
      k_steps
    · have hb := SM_bd y 7 (mY y + 1 - 7).toNat
      repeat ((fail_if_success (with_reducible show wpAny _ _ (pyIter _) _ _ _)); (first | (k_unfold; (try dsimp only)) | (k_end; wrow_close) | walk1 | (dsimp only; walk1) | (leave1; walk_say "STEP leave1"; try dsimp only)))
      ((try dsimp only); (rename Fr _ _ _ _ => lF'); (rename News _ _ _ _ => lN'); (rename IsRange _ _ _ _ _ _ _ _ => rgX); (with_unfolding_all refine' loopH (y := Str.ofString "jd") (SM y 1) (ML y) rfl (fun _ => rfl) (by rfl) (by first | exact rgX | assumption) (by first | exact small_one (by l_bnd) (by l_bnd) (by l_bnd) (by l_bnd) | decide) (by first | exact rangeSize_nat _ _ | rfl) lF' lN' (by rfl) (fun i k t ta h tk own hi hk hS hoff F' N' => ?_) (fun u t h tk F' N' => ?_)); (all_goals (try clear lF' lN')); (all_goals (try simp only [List.nil_append, List.cons_append, List.append_nil] at N')); (all_goals (try k_fold)))
      · have hb := SM_bd y 1 i
        k_steps
      · have hb := SM_bd y 1 (m - 1).toNat
        k_steps
        all_goals (refine ret_flt hret ?_ (by exact HN_bd (by omega) hm hd) (by k_asm) (by k_asm))
        all_goals exact tr_congr (by unfold HN J7; rw [offH_1 (by assumption)]; omega)
  · ((try dsimp only); (rename Fr _ _ _ _ => lF'); (rename News _ _ _ _ => lN'); (rename IsRange _ _ _ _ _ _ _ _ => rgX); (with_unfolding_all refine' loopH (y := Str.ofString "jd") (SM y 7) (ML y) rfl (fun _ => rfl) (by rfl) (by first | exact rgX | assumption) (by first | exact small_one (by l_bnd) (by l_bnd) (by l_bnd) (by l_bnd) | decide) (by first | exact rangeSize_nat _ _ | rfl) lF' lN' (by rfl) (fun i k t ta h tk own hi hk hS hoff F' N' => ?_) (fun u t h tk F' N' => ?_)); (all_goals (try clear lF' lN')); (all_goals (try simp only [List.nil_append, List.cons_append, List.append_nil] at N')); (all_goals (try k_fold)))
    · have hb := SM_bd y 7 i
      k_steps
    · have hb := SM_bd y 7 (m - 7).toNat
      k_steps
      all_goals (refine ret_flt hret ?_ (by exact HN_bd (by omega) hm hd) (by k_asm) (by k_asm))
      all_goals exact tr_congr (by unfold HN J7; rw [offH_2 (by assumption)]; omega)
end Mine
namespace Mine
open PySem PySem.W PyProof.Rows PySem.Calls PySem.Spec

local macro_rules | `(tactic| walk_at "binaryOp Add int int") => `(tactic| (k_here; (with_reducible refine' hAdd_ii ?_); k_dflt (skip); intro _ _; (try dsimp only)))
local macro_rules | `(tactic| walk_at "binaryOp Sub int int") => `(tactic| (k_here; (with_reducible refine' hSub_ii ?_); k_dflt (skip); intro _ _; (try dsimp only)))
local macro_rules | `(tactic| walk_at "binaryOp Mult int int") => `(tactic| (k_here; (with_reducible refine' hMul_ii ?ok ?_); k_dflt (skip; (case ok => mul_fits)); intro _ _; (try dsimp only)))
local macro_rules | `(tactic| walk_at "unaryOp USub int") => `(tactic| (k_here; (with_reducible refine' hNeg_i ?_); k_dflt (skip); intro _ _; (try dsimp only)))
local macro_rules | `(tactic| walk_at "binaryOp Add float int") => `(tactic| (k_here; (with_reducible refine' hAdd_fi0 ?hn ?_); k_dflt (skip; (case hn => omega)); intro _ _; (try dsimp only)))
local macro_rules | `(tactic| walk_at "binaryOp Add float int") => `(tactic| (k_here; (with_reducible refine' hAdd_fi ?hx ?ha ?hn ?_); k_dflt (skip; (case hx => (with_reducible first | exact rfl | exact epoch_g | exact epoch_h | exact half_f | exact mean_n | exact mean_d)); (case ha => omega); (case hn => omega)); intro _ _; (try dsimp only)))
local macro_rules | `(tactic| walk_at "binaryOp Add int float") => `(tactic| (k_here; (with_reducible refine' hAdd_if ?hx ?ha ?hn ?_); k_dflt (skip; (case hx => (with_reducible first | exact rfl | exact epoch_g | exact epoch_h | exact half_f | exact mean_n | exact mean_d)); (case ha => omega); (case hn => omega)); intro _ _; (try dsimp only)))
local macro_rules | `(tactic| walk_at "binaryOp Add float float") => `(tactic| (k_here; (with_reducible refine' hAdd_ff ?hx ?hy ?ha ?hb ?_); k_dflt (skip; (case hx => (with_reducible first | exact rfl | exact epoch_g | exact epoch_h | exact half_f | exact mean_n | exact mean_d)); (case hy => (with_reducible first | exact rfl | exact epoch_g | exact epoch_h | exact half_f | exact mean_n | exact mean_d)); (case ha => omega); (case hb => omega)); intro _ _; (try dsimp only)))
local macro_rules | `(tactic| walk_at "binaryOp Sub float int") => `(tactic| (k_here; (with_reducible refine' hSub_fi ?hx ?ha ?hn ?_); k_dflt (skip; (case hx => (with_reducible first | exact rfl | exact epoch_g | exact epoch_h | exact half_f | exact mean_n | exact mean_d)); (case ha => omega); (case hn => omega)); intro _ _; (try dsimp only)))
local macro_rules | `(tactic| walk_at "binaryOp Sub float float") => `(tactic| (k_here; (with_reducible refine' hSub_ff ?hx ?hy ?ha ?hb ?_); k_dflt (skip; (case hx => (with_reducible first | exact rfl | exact epoch_g | exact epoch_h | exact half_f | exact mean_n | exact mean_d)); (case hy => (with_reducible first | exact rfl | exact epoch_g | exact epoch_h | exact half_f | exact mean_n | exact mean_d)); (case ha => omega); (case hb => omega)); intro _ _; (try dsimp only)))
local macro_rules | `(tactic| walk_at "inplaceOp Add float int") => `(tactic| (k_here; (with_reducible refine' hIadd_fi ?hh ?hx ?ha ?hn ?_); k_dflt (skip; (case hh => exact rfl); (case hx => (with_reducible first | exact rfl | exact epoch_g | exact epoch_h | exact half_f | exact mean_n | exact mean_d)); (case ha => omega); (case hn => omega)); intro _ _; (try dsimp only)))
local macro_rules | `(tactic| walk_at "binaryOp Mult float int") => `(tactic| (k_here; (with_reducible refine' hMul_fi ?hx ?h0 ?ha ?hn ?hab ?_); k_dflt (skip; (case hx => (with_reducible first | exact rfl | exact epoch_g | exact epoch_h | exact half_f | exact mean_n | exact mean_d)); (case h0 => decide); (case ha => omega); (case hn => decide); (case hab => omega)); intro _ _; (try dsimp only)))
local macro_rules | `(tactic| walk_at "binaryOp Mult float float") => `(tactic| (k_here; (with_reducible refine' hMul_ff (n := 98496) ?hx ?hy ?h0 ?ha ?hn ?hab ?_); k_dflt (skip; (case hx => (with_reducible first | exact rfl | exact epoch_g | exact epoch_h | exact half_f | exact mean_n | exact mean_d)); (case hy => (with_reducible exact mean_n2)); (case h0 => decide); (case ha => omega); (case hn => decide); (case hab => omega)); intro _ _; (try dsimp only)))
local macro_rules | `(tactic| walk_at "binaryOp Div int int") => `(tactic| (k_here; (with_reducible refine' hDiv_ii ?hh ?ha ?hb ?_); k_dflt (skip; (case hh => exact rfl); (case ha => omega); (case hb => decide)); intro _ _; (try dsimp only)))
local macro_rules | `(tactic| walk_at "binaryOp Div float int") => `(tactic| (k_here; (with_reducible refine' hDiv_fi ?hh ?hn ?hb ?_); k_dflt (skip; (case hh => exact rfl); (case hn => decide); (case hb => decide)); intro _ _; (try dsimp only)))
local macro_rules | `(tactic| walk_at "binaryOp Div float float") => `(tactic| (k_here; (with_reducible refine' hDiv_ff ?hh ?hy ?hn ?hb ?_); k_dflt (skip; (case hh => exact rfl); (case hy => (with_reducible first | exact rfl | exact epoch_g | exact epoch_h | exact half_f | exact mean_n | exact mean_d)); (case hn => decide); (case hb => decide)); intro _ _; (try dsimp only)))
local macro_rules | `(tactic| walk_at "binaryOp Mod float int") => `(tactic| (k_here; (with_reducible refine' hMod_fi ?hh ?hx ?h2 ?ha ?h0 ?hn ?_); k_dflt (skip; (case hh => exact rfl); (case hx => (with_reducible first | exact rfl | exact epoch_g | exact epoch_h | exact half_f | exact mean_n | exact mean_d)); (case h2 => omega); (case ha => omega); (case h0 => decide); (case hn => decide)); intro _ _; (try dsimp only)))
local macro_rules | `(tactic| walk_at "call builtin:math.floor") => `(tactic| (k_here; (with_reducible refine' hFloor_fi ?hh ?hx ?ha ?hb ?hb2 ?hq ?_); k_dflt (skip; (case hh => exact rfl); (case hx => (with_reducible first | exact rfl | exact epoch_g | exact epoch_h | exact half_f | exact mean_n | exact mean_d)); (case ha => omega); (case hb => decide); (case hb2 => decide); (case hq => omega)); intro _ _; (try dsimp only)))
local macro_rules | `(tactic| walk_at "call builtin:math.floor") => `(tactic| (k_here; (with_reducible refine' hFloor_ff ?hh ?hx ?hy ?ha ?hb ?hb2 ?hq ?_); k_dflt (skip; (case hh => exact rfl); (case hx => (with_reducible first | exact rfl | exact epoch_g | exact epoch_h | exact half_f | exact mean_n | exact mean_d)); (case hy => (with_reducible first | exact rfl | exact epoch_g | exact epoch_h | exact half_f | exact mean_n | exact mean_d)); (case ha => omega); (case hb => decide); (case hb2 => decide); (case hq => omega)); intro _ _; (try dsimp only)))
local macro_rules | `(tactic| walk_at "call builtin:math.floor") => `(tactic| (k_here; (with_reducible refine' hFloor ?hh ?hx ?ha ?_); k_dflt (skip; (case hh => exact rfl); (case hx => (with_reducible first | exact rfl | exact epoch_g | exact epoch_h | exact half_f | exact mean_n | exact mean_d)); (case ha => omega)); intro _ _; (try dsimp only)))
local macro_rules | `(tactic| walk_at "call builtin:math.floor") => `(tactic| (k_here; (with_reducible refine' hFloor_ii ?hh ?hb ?hb2 ?hq ?_); k_dflt (skip; (case hh => exact rfl); (case hb => decide); (case hb2 => decide); (case hq => omega)); intro _ _; (try dsimp only)))
local macro_rules | `(tactic| walk_at "call builtin:math.floor") => `(tactic| (k_here; (with_reducible refine' hFloor_mo ?hh ?hm ?hd ?hl ?_); k_dflt (skip; (case hh => exact rfl); (case hm => omega); (case hd => omega); (case hl => omega)); intro _ _; (try dsimp only)))
local macro_rules | `(tactic| walk_at "call type:int") => `(tactic| (k_here; (with_reducible refine' hInt ?hh ?hx ?ha ?_); k_dflt (skip; (case hh => exact rfl); (case hx => (with_reducible first | exact rfl | exact epoch_g | exact epoch_h | exact half_f | exact mean_n | exact mean_d)); (case ha => omega)); intro _ _ _ _; (try dsimp only)))
local macro_rules | `(tactic| walk_at "call type:int") => `(tactic| (k_here; (with_reducible refine' hInt_pos ?hh ?hx ?h0 ?ha ?_); k_dflt (skip; (case hh => exact rfl); (case hx => (with_reducible first | exact rfl | exact epoch_g | exact epoch_h | exact half_f | exact mean_n | exact mean_d)); (case h0 => omega); (case ha => omega)); intro _ _; (try dsimp only)))
local macro_rules | `(tactic| walk_at "compareOp Lt float int") => `(tactic| (k_here; (with_reducible refine' hLt_fi ?hx ?ha ?_); k_dflt (skip; (case hx => (with_reducible first | exact rfl | exact epoch_g | exact epoch_h | exact half_f | exact mean_n | exact mean_d)); (case ha => omega)); (try dsimp only)))
local macro_rules | `(tactic| walk_at "compareOp NotEq float int") => `(tactic| (k_here; (with_reducible refine' hNe_fi ?hx ?ha ?_); k_dflt (skip; (case hx => (with_reducible first | exact rfl | exact epoch_g | exact epoch_h | exact half_f | exact mean_n | exact mean_d)); (case ha => omega)); (try dsimp only)))
local macro_rules | `(tactic| walk_at "compareOp Eq float int") => `(tactic| (k_here; (with_reducible refine' hEq_fi ?hx ?ha ?_); k_dflt (skip; (case hx => (with_reducible first | exact rfl | exact epoch_g | exact epoch_h | exact half_f | exact mean_n | exact mean_d)); (case ha => omega)); (try dsimp only)))
local macro_rules | `(tactic| walk_at "compareOp Lt float float") => `(tactic| (k_here; (with_reducible refine' hLt_ff ?hx ?hy ?ha ?hb ?_); k_dflt (skip; (case hx => (with_reducible first | exact rfl | exact epoch_g | exact epoch_h | exact half_f | exact mean_n | exact mean_d)); (case hy => (with_reducible first | exact rfl | exact epoch_g | exact epoch_h | exact half_f | exact mean_n | exact mean_d)); (case ha => omega); (case hb => omega)); (try dsimp only)))
local macro_rules | `(tactic| walk_at "compareOp Gt float float") => `(tactic| (k_here; (with_reducible refine' hGt_ff ?hx ?hy ?ha ?hb ?_); k_dflt (skip; (case hx => (with_reducible first | exact rfl | exact epoch_g | exact epoch_h | exact half_f | exact mean_n | exact mean_d)); (case hy => (with_reducible first | exact rfl | exact epoch_g | exact epoch_h | exact half_f | exact mean_n | exact mean_d)); (case ha => omega); (case hb => omega)); (try dsimp only)))
local macro_rules | `(tactic| walk_at "compareOp GtE float float") => `(tactic| (k_here; (with_reducible refine' hGe_ff ?hx ?hy ?ha ?hb ?_); k_dflt (skip; (case hx => (with_reducible first | exact rfl | exact epoch_g | exact epoch_h | exact half_f | exact mean_n | exact mean_d)); (case hy => (with_reducible first | exact rfl | exact epoch_g | exact epoch_h | exact half_f | exact mean_n | exact mean_d)); (case ha => omega); (case hb => omega)); (try dsimp only)))
local macro_rules | `(tactic| walk_at "compareOp Eq float float") => `(tactic| (k_here; (with_reducible refine' hEq_ff ?hx ?hy ?ha ?hb ?_); k_dflt (skip; (case hx => (with_reducible first | exact rfl | exact epoch_g | exact epoch_h | exact half_f | exact mean_n | exact mean_d)); (case hy => (with_reducible first | exact rfl | exact epoch_g | exact epoch_h | exact half_f | exact mean_n | exact mean_d)); (case ha => omega); (case hb => omega)); (try dsimp only)))
local macro_rules | `(tactic| walk_at "compareOp NotEq float float") => `(tactic| (k_here; (with_reducible refine' hNe_ff ?hx ?hy ?ha ?hb ?_); k_dflt (skip; (case hx => (with_reducible first | exact rfl | exact epoch_g | exact epoch_h | exact half_f | exact mean_n | exact mean_d)); (case hy => (with_reducible first | exact rfl | exact epoch_g | exact epoch_h | exact half_f | exact mean_n | exact mean_d)); (case ha => omega); (case hb => omega)); (try dsimp only)))
local macro_rules | `(tactic| walk_at "truthy float") => `(tactic| (k_here; (with_reducible refine' hTruthy ?hx ?ha ?_); k_dflt (skip; (case hx => (with_reducible first | exact rfl | exact epoch_g | exact epoch_h | exact half_f | exact mean_n | exact mean_d)); (case ha => omega)); (try dsimp only)))
local macro_rules | `(tactic| walk_at "ite") => `(tactic| (k_here; first | with_reducible refine ite_tt ?_ | with_reducible refine ite_ff ?_ | with_reducible refine split_not ?_ | (with_reducible refine ite_pos (by assumption) ?_) | (with_reducible refine pr_false (by assumption) ?_) | (with_reducible refine pr_decT (by k_dflt omega) ?_) | (with_reducible refine pr_decF (by k_dflt omega) ?_) | (with_reducible refine pr_ieqT (by k_dflt omega) ?_) | (with_reducible refine pr_ieqF (by k_dflt omega) ?_) | (with_reducible refine pr_ineT (by k_dflt omega) ?_) | (with_reducible refine pr_ineF (by k_dflt omega) ?_) | (with_reducible refine split_ine ?_ ?_ <;> intro _) | (with_reducible refine split_ieq ?_ ?_ <;> intro _) | (with_reducible refine PyProof.Rows.split_dec ?_ ?_ <;> intro _) | (with_reducible refine PyProof.Rows.split_bool ?_ ?_ <;> intro _)))
local macro_rules | `(tactic| walk_at "binaryOp Mod int int") => `(tactic| (k_here; (with_reducible refine' hMod_ii ?hb ?_); k_dflt (skip; (case hb => decide)); intro _ _; (try dsimp only)))
local macro_rules | `(tactic| walk_at "call builtin:divmod") => `(tactic| (k_here; (with_reducible refine' hDivmod ?k1 ?k2 ?k3 ?k4 ?_); (k_dflt (skip; (case k1 => k_asm); (case k2 => k_asm); (case k3 => decide); (case k4 => decide))); intro _ _ _; (try dsimp only)))
local macro_rules | `(tactic| walk_at "eval Name") => `(tactic| (k_here; k_dflt (first | (refine' ld ?k1 ?k2 ?_; (case k1 => k_asm); (case k2 => exact rfl); k_whole) | (refine' name_K ?k0 ?k1 ?k2 ?k3 ?_; (case k0 => k_asm); (case k1 => k_asm); (case k2 => k_asm); (case k3 => k_is); k_whole))))
local macro_rules | `(tactic| walk_at "exec If") => `(tactic| ((with_reducible refine wpAny_If ?_); try dsimp only))
local macro_rules | `(tactic| walk_at "execs cons") => `(tactic| ((with_reducible refine wpAny_execs_cons ?_); try dsimp only))
local macro_rules | `(tactic| walk_at "execs nil") => `(tactic| ((with_reducible refine wpAny_execs_nil ?_); try dsimp only))
local macro_rules | `(tactic| walk_at "eval Call") => `(tactic| (k_here; (with_reducible show wpAny _ _ (eval (Expr.Call (Expr.Name _ _) _ [] _) _) _ _ _); k_dflt (refine Call_ ?_)))
local macro_rules | `(tactic| walk_at "compareOp In int ref") => `(tactic| (k_here; k_dflt (refine' hIn_K ?F ?X ?l ?i ?_; (case F => k_asm); (case X => k_asm); (case l => k_is); (case i => repeat constructor); k_whole)))
local macro_rules | `(tactic| walk_at "compareOp In int ref") => `(tactic| (k_here; k_dflt (refine' in_tuple_ints (News.isTup ?N ?b) ?i ?_; (case N => k_asm); (case b => k_mem); (case i => repeat constructor); k_whole)))
local macro_rules | `(tactic| walk_at "call ref") => `(tactic| (k_here; (with_reducible show wpAny _ _ (call (Value.ref 50) [Value.int _ _]) _ _ _); k_dflt (refine' use (c_isleap _ _ _ _ _ _) ?k1 ?k2 ?k3 ?k4 ?k5 ?kK ?kd ?ku ?_; (case k1 => k_asm); (case k2 => k_asm); (case k3 => k_asm); (case k4 => k_asm); (case k5 => k_asm); (case kK => first | exact rfl | assumption); (case kd => ktr_room); (case ku => ktr_units)); intro t9 h9 tk9 hp9 F9 N9; (try dsimp only); (try k_fold)))

theorem c_legal_date (w : World) (mean : ExcName → Option Value) (mg mb : Str → Option Value) (y m d : Int) (ty tm td : Tok) (hm : 1 ≤ m ∧ m ≤ 12) (hd : 1 ≤ d ∧ d ≤ dim y m) :
    Claim 2 w mean mg mb 57 [.int y ty, .int m tm, .int d td] (fun _ => .bool true) True := by
  w_on
  dsimp only [Claim, ClaimG]
  k_fill
  intros
  rename_i hret
  refine wpAny_call ?_
  k_dflt cell_enter
  have hdb := dim_bd y m
  repeat ((fail_if_success (with_reducible show wpAny _ _ (exec (Stmt.If _ _ _ _) _) _ _ _)); (first | (k_unfold; (try dsimp only)) | (k_end; wrow_close) | walk1 | (dsimp only; walk1) | (leave1; walk_say "STEP leave1"; try dsimp only)))
  refine cutName (x := Str.ofString "daysinmonth") (dim y m) (by assumption) (by assumption) ?_ (fun t h' tk F' N' => ?_)
  · k_steps
    all_goals refine cut_end (by assumption) (by assumption) ?_
    all_goals first | exact (dim_1 (by omega) (by assumption)).symm | exact (dim_2 (by omega) (by assumption)).symm | exact (dim_3 (any4T (by assumption))).symm | exact (dim_4 (by omega) (any4F (by assumption))).symm
  · (try k_fold)
    k_steps
    all_goals (refine ret_bool hret ?_ (by trivial) (by k_asm) (by k_asm))
    all_goals rfl
local macro_rules | `(tactic| walk_at "call ref") => `(tactic| (k_here; (with_reducible show wpAny _ _ (call (Value.ref 57) [Value.int _ _, Value.int _ _, Value.int _ _]) _ _ _); k_dflt (refine' use (c_legal_date _ _ _ _ _ _ _ _ _ _ ?hm ?hd) ?k1 ?k2 ?k3 ?k4 ?k5 ?kK ?kd ?ku ?_; (case k1 => k_asm); (case k2 => k_asm); (case k3 => k_asm); (case k4 => k_asm); (case k5 => k_asm); (case kK => first | exact rfl | assumption); (case kd => ktr_room); (case ku => ktr_units); (case hm => omega); (case hd => omega)); intro t9 h9 tk9 hp9 F9 N9; (try dsimp only); (try k_fold)))

theorem c_gto_jd (w : World) (mean : ExcName → Option Value) (mg mb : Str → Option Value) (y m d : Int) (ty tm td : Tok) (hy : -5000 ≤ y ∧ y ≤ 25000) (hm : 1 ≤ m ∧ m ≤ 12) (hd : 1 ≤ d ∧ d ≤ dim y m) :
    Claim 3 w mean mg mb 64 [.int y ty, .int m tm, .int d td] (fun t => .float (H (2 * gN y m d - 1)) t) (-200000 ≤ gN y m d ∧ gN y m d ≤ 11000000) := by
  w_on
  dsimp only [Claim, ClaimG]
  k_fill
  intros
  rename_i hret
  refine wpAny_call ?_
  k_dflt cell_enter
  have hdb := dim_bd y m
  repeat ((fail_if_success (with_reducible show wpAny _ _ (exec (Stmt.If _ _ _ _) _) _ _ _)); (first | (k_unfold; (try dsimp only)) | (k_end; wrow_close) | walk1 | (dsimp only; walk1) | (leave1; walk_say "STEP leave1"; try dsimp only)))
  refine cutName (x := Str.ofString "leap_adj") (ladj y m) (by assumption) (by assumption) ?_ (fun t h' tk F' N' => ?_)
  · k_steps
    all_goals refine cut_end (by assumption) (by assumption) ?_
    all_goals first | exact (ladj_1 (by omega)).symm | exact (ladj_2 (by omega) (by assumption)).symm | exact (ladj_3 (by omega) (by assumption)).symm
  · (try k_fold)
    have hlb := ladj_bd y m
    k_steps
    all_goals (refine ret_flt hret ?_ (by exact gN_bd hy hm (by omega)) (by k_asm) (by k_asm))
    all_goals (unfold gN; omega)
end Mine
namespace Mine
open PySem PySem.W PyProof.Rows PySem.Calls PySem.Spec

local macro_rules | `(tactic| walk_at "binaryOp Add int int") => `(tactic| (k_here; (with_reducible refine' hAdd_ii ?_); k_dflt (skip); intro _ _; (try dsimp only)))
local macro_rules | `(tactic| walk_at "binaryOp Sub int int") => `(tactic| (k_here; (with_reducible refine' hSub_ii ?_); k_dflt (skip); intro _ _; (try dsimp only)))
local macro_rules | `(tactic| walk_at "binaryOp Mult int int") => `(tactic| (k_here; (with_reducible refine' hMul_ii ?ok ?_); k_dflt (skip; (case ok => mul_fits)); intro _ _; (try dsimp only)))
local macro_rules | `(tactic| walk_at "unaryOp USub int") => `(tactic| (k_here; (with_reducible refine' hNeg_i ?_); k_dflt (skip); intro _ _; (try dsimp only)))
local macro_rules | `(tactic| walk_at "binaryOp Add float int") => `(tactic| (k_here; (with_reducible refine' hAdd_fi0 ?hn ?_); k_dflt (skip; (case hn => omega)); intro _ _; (try dsimp only)))
local macro_rules | `(tactic| walk_at "binaryOp Add float int") => `(tactic| (k_here; (with_reducible refine' hAdd_fi ?hx ?ha ?hn ?_); k_dflt (skip; (case hx => (with_reducible first | exact rfl | exact epoch_g | exact epoch_h | exact half_f | exact mean_n | exact mean_d)); (case ha => omega); (case hn => omega)); intro _ _; (try dsimp only)))
local macro_rules | `(tactic| walk_at "binaryOp Add int float") => `(tactic| (k_here; (with_reducible refine' hAdd_if ?hx ?ha ?hn ?_); k_dflt (skip; (case hx => (with_reducible first | exact rfl | exact epoch_g | exact epoch_h | exact half_f | exact mean_n | exact mean_d)); (case ha => omega); (case hn => omega)); intro _ _; (try dsimp only)))
local macro_rules | `(tactic| walk_at "binaryOp Add float float") => `(tactic| (k_here; (with_reducible refine' hAdd_ff ?hx ?hy ?ha ?hb ?_); k_dflt (skip; (case hx => (with_reducible first | exact rfl | exact epoch_g | exact epoch_h | exact half_f | exact mean_n | exact mean_d)); (case hy => (with_reducible first | exact rfl | exact epoch_g | exact epoch_h | exact half_f | exact mean_n | exact mean_d)); (case ha => omega); (case hb => omega)); intro _ _; (try dsimp only)))
local macro_rules | `(tactic| walk_at "binaryOp Sub float int") => `(tactic| (k_here; (with_reducible refine' hSub_fi ?hx ?ha ?hn ?_); k_dflt (skip; (case hx => (with_reducible first | exact rfl | exact epoch_g | exact epoch_h | exact half_f | exact mean_n | exact mean_d)); (case ha => omega); (case hn => omega)); intro _ _; (try dsimp only)))
local macro_rules | `(tactic| walk_at "binaryOp Sub float float") => `(tactic| (k_here; (with_reducible refine' hSub_ff ?hx ?hy ?ha ?hb ?_); k_dflt (skip; (case hx => (with_reducible first | exact rfl | exact epoch_g | exact epoch_h | exact half_f | exact mean_n | exact mean_d)); (case hy => (with_reducible first | exact rfl | exact epoch_g | exact epoch_h | exact half_f | exact mean_n | exact mean_d)); (case ha => omega); (case hb => omega)); intro _ _; (try dsimp only)))
local macro_rules | `(tactic| walk_at "inplaceOp Add float int") => `(tactic| (k_here; (with_reducible refine' hIadd_fi ?hh ?hx ?ha ?hn ?_); k_dflt (skip; (case hh => exact rfl); (case hx => (with_reducible first | exact rfl | exact epoch_g | exact epoch_h | exact half_f | exact mean_n | exact mean_d)); (case ha => omega); (case hn => omega)); intro _ _; (try dsimp only)))
local macro_rules | `(tactic| walk_at "binaryOp Mult float int") => `(tactic| (k_here; (with_reducible refine' hMul_fi ?hx ?h0 ?ha ?hn ?hab ?_); k_dflt (skip; (case hx => (with_reducible first | exact rfl | exact epoch_g | exact epoch_h | exact half_f | exact mean_n | exact mean_d)); (case h0 => decide); (case ha => omega); (case hn => decide); (case hab => omega)); intro _ _; (try dsimp only)))
local macro_rules | `(tactic| walk_at "binaryOp Mult float float") => `(tactic| (k_here; (with_reducible refine' hMul_ff (n := 98496) ?hx ?hy ?h0 ?ha ?hn ?hab ?_); k_dflt (skip; (case hx => (with_reducible first | exact rfl | exact epoch_g | exact epoch_h | exact half_f | exact mean_n | exact mean_d)); (case hy => (with_reducible exact mean_n2)); (case h0 => decide); (case ha => omega); (case hn => decide); (case hab => omega)); intro _ _; (try dsimp only)))
local macro_rules | `(tactic| walk_at "binaryOp Div int int") => `(tactic| (k_here; (with_reducible refine' hDiv_ii ?hh ?ha ?hb ?_); k_dflt (skip; (case hh => exact rfl); (case ha => omega); (case hb => decide)); intro _ _; (try dsimp only)))
local macro_rules | `(tactic| walk_at "binaryOp Div float int") => `(tactic| (k_here; (with_reducible refine' hDiv_fi ?hh ?hn ?hb ?_); k_dflt (skip; (case hh => exact rfl); (case hn => decide); (case hb => decide)); intro _ _; (try dsimp only)))
local macro_rules | `(tactic| walk_at "binaryOp Div float float") => `(tactic| (k_here; (with_reducible refine' hDiv_ff ?hh ?hy ?hn ?hb ?_); k_dflt (skip; (case hh => exact rfl); (case hy => (with_reducible first | exact rfl | exact epoch_g | exact epoch_h | exact half_f | exact mean_n | exact mean_d)); (case hn => decide); (case hb => decide)); intro _ _; (try dsimp only)))
local macro_rules | `(tactic| walk_at "binaryOp Mod float int") => `(tactic| (k_here; (with_reducible refine' hMod_fi ?hh ?hx ?h2 ?ha ?h0 ?hn ?_); k_dflt (skip; (case hh => exact rfl); (case hx => (with_reducible first | exact rfl | exact epoch_g | exact epoch_h | exact half_f | exact mean_n | exact mean_d)); (case h2 => omega); (case ha => omega); (case h0 => decide); (case hn => decide)); intro _ _; (try dsimp only)))
local macro_rules | `(tactic| walk_at "call builtin:math.floor") => `(tactic| (k_here; (with_reducible refine' hFloor_fi ?hh ?hx ?ha ?hb ?hb2 ?hq ?_); k_dflt (skip; (case hh => exact rfl); (case hx => (with_reducible first | exact rfl | exact epoch_g | exact epoch_h | exact half_f | exact mean_n | exact mean_d)); (case ha => omega); (case hb => decide); (case hb2 => decide); (case hq => omega)); intro _ _; (try dsimp only)))
local macro_rules | `(tactic| walk_at "call builtin:math.floor") => `(tactic| (k_here; (with_reducible refine' hFloor_ff ?hh ?hx ?hy ?ha ?hb ?hb2 ?hq ?_); k_dflt (skip; (case hh => exact rfl); (case hx => (with_reducible first | exact rfl | exact epoch_g | exact epoch_h | exact half_f | exact mean_n | exact mean_d)); (case hy => (with_reducible first | exact rfl | exact epoch_g | exact epoch_h | exact half_f | exact mean_n | exact mean_d)); (case ha => omega); (case hb => decide); (case hb2 => decide); (case hq => omega)); intro _ _; (try dsimp only)))
local macro_rules | `(tactic| walk_at "call builtin:math.floor") => `(tactic| (k_here; (with_reducible refine' hFloor ?hh ?hx ?ha ?_); k_dflt (skip; (case hh => exact rfl); (case hx => (with_reducible first | exact rfl | exact epoch_g | exact epoch_h | exact half_f | exact mean_n | exact mean_d)); (case ha => omega)); intro _ _; (try dsimp only)))
local macro_rules | `(tactic| walk_at "call builtin:math.floor") => `(tactic| (k_here; (with_reducible refine' hFloor_ii ?hh ?hb ?hb2 ?hq ?_); k_dflt (skip; (case hh => exact rfl); (case hb => decide); (case hb2 => decide); (case hq => omega)); intro _ _; (try dsimp only)))
local macro_rules | `(tactic| walk_at "call builtin:math.floor") => `(tactic| (k_here; (with_reducible refine' hFloor_mo ?hh ?hm ?hd ?hl ?_); k_dflt (skip; (case hh => exact rfl); (case hm => omega); (case hd => omega); (case hl => omega)); intro _ _; (try dsimp only)))
local macro_rules | `(tactic| walk_at "call type:int") => `(tactic| (k_here; (with_reducible refine' hInt ?hh ?hx ?ha ?_); k_dflt (skip; (case hh => exact rfl); (case hx => (with_reducible first | exact rfl | exact epoch_g | exact epoch_h | exact half_f | exact mean_n | exact mean_d)); (case ha => omega)); intro _ _ _ _; (try dsimp only)))
local macro_rules | `(tactic| walk_at "call type:int") => `(tactic| (k_here; (with_reducible refine' hInt_pos ?hh ?hx ?h0 ?ha ?_); k_dflt (skip; (case hh => exact rfl); (case hx => (with_reducible first | exact rfl | exact epoch_g | exact epoch_h | exact half_f | exact mean_n | exact mean_d)); (case h0 => omega); (case ha => omega)); intro _ _; (try dsimp only)))
local macro_rules | `(tactic| walk_at "compareOp Lt float int") => `(tactic| (k_here; (with_reducible refine' hLt_fi ?hx ?ha ?_); k_dflt (skip; (case hx => (with_reducible first | exact rfl | exact epoch_g | exact epoch_h | exact half_f | exact mean_n | exact mean_d)); (case ha => omega)); (try dsimp only)))
local macro_rules | `(tactic| walk_at "compareOp NotEq float int") => `(tactic| (k_here; (with_reducible refine' hNe_fi ?hx ?ha ?_); k_dflt (skip; (case hx => (with_reducible first | exact rfl | exact epoch_g | exact epoch_h | exact half_f | exact mean_n | exact mean_d)); (case ha => omega)); (try dsimp only)))
local macro_rules | `(tactic| walk_at "compareOp Eq float int") => `(tactic| (k_here; (with_reducible refine' hEq_fi ?hx ?ha ?_); k_dflt (skip; (case hx => (with_reducible first | exact rfl | exact epoch_g | exact epoch_h | exact half_f | exact mean_n | exact mean_d)); (case ha => omega)); (try dsimp only)))
local macro_rules | `(tactic| walk_at "compareOp Lt float float") => `(tactic| (k_here; (with_reducible refine' hLt_ff ?hx ?hy ?ha ?hb ?_); k_dflt (skip; (case hx => (with_reducible first | exact rfl | exact epoch_g | exact epoch_h | exact half_f | exact mean_n | exact mean_d)); (case hy => (with_reducible first | exact rfl | exact epoch_g | exact epoch_h | exact half_f | exact mean_n | exact mean_d)); (case ha => omega); (case hb => omega)); (try dsimp only)))
local macro_rules | `(tactic| walk_at "compareOp Gt float float") => `(tactic| (k_here; (with_reducible refine' hGt_ff ?hx ?hy ?ha ?hb ?_); k_dflt (skip; (case hx => (with_reducible first | exact rfl | exact epoch_g | exact epoch_h | exact half_f | exact mean_n | exact mean_d)); (case hy => (with_reducible first | exact rfl | exact epoch_g | exact epoch_h | exact half_f | exact mean_n | exact mean_d)); (case ha => omega); (case hb => omega)); (try dsimp only)))
local macro_rules | `(tactic| walk_at "compareOp GtE float float") => `(tactic| (k_here; (with_reducible refine' hGe_ff ?hx ?hy ?ha ?hb ?_); k_dflt (skip; (case hx => (with_reducible first | exact rfl | exact epoch_g | exact epoch_h | exact half_f | exact mean_n | exact mean_d)); (case hy => (with_reducible first | exact rfl | exact epoch_g | exact epoch_h | exact half_f | exact mean_n | exact mean_d)); (case ha => omega); (case hb => omega)); (try dsimp only)))
local macro_rules | `(tactic| walk_at "compareOp Eq float float") => `(tactic| (k_here; (with_reducible refine' hEq_ff ?hx ?hy ?ha ?hb ?_); k_dflt (skip; (case hx => (with_reducible first | exact rfl | exact epoch_g | exact epoch_h | exact half_f | exact mean_n | exact mean_d)); (case hy => (with_reducible first | exact rfl | exact epoch_g | exact epoch_h | exact half_f | exact mean_n | exact mean_d)); (case ha => omega); (case hb => omega)); (try dsimp only)))
local macro_rules | `(tactic| walk_at "compareOp NotEq float float") => `(tactic| (k_here; (with_reducible refine' hNe_ff ?hx ?hy ?ha ?hb ?_); k_dflt (skip; (case hx => (with_reducible first | exact rfl | exact epoch_g | exact epoch_h | exact half_f | exact mean_n | exact mean_d)); (case hy => (with_reducible first | exact rfl | exact epoch_g | exact epoch_h | exact half_f | exact mean_n | exact mean_d)); (case ha => omega); (case hb => omega)); (try dsimp only)))
local macro_rules | `(tactic| walk_at "truthy float") => `(tactic| (k_here; (with_reducible refine' hTruthy ?hx ?ha ?_); k_dflt (skip; (case hx => (with_reducible first | exact rfl | exact epoch_g | exact epoch_h | exact half_f | exact mean_n | exact mean_d)); (case ha => omega)); (try dsimp only)))
local macro_rules | `(tactic| walk_at "ite") => `(tactic| (k_here; first | with_reducible refine ite_tt ?_ | with_reducible refine ite_ff ?_ | with_reducible refine split_not ?_ | (with_reducible refine ite_pos (by assumption) ?_) | (with_reducible refine pr_false (by assumption) ?_) | (with_reducible refine pr_decT (by k_dflt omega) ?_) | (with_reducible refine pr_decF (by k_dflt omega) ?_) | (with_reducible refine pr_ieqT (by k_dflt omega) ?_) | (with_reducible refine pr_ieqF (by k_dflt omega) ?_) | (with_reducible refine pr_ineT (by k_dflt omega) ?_) | (with_reducible refine pr_ineF (by k_dflt omega) ?_) | (with_reducible refine split_ine ?_ ?_ <;> intro _) | (with_reducible refine split_ieq ?_ ?_ <;> intro _) | (with_reducible refine PyProof.Rows.split_dec ?_ ?_ <;> intro _) | (with_reducible refine PyProof.Rows.split_bool ?_ ?_ <;> intro _)))
local macro_rules | `(tactic| walk_at "binaryOp Mod int int") => `(tactic| (k_here; (with_reducible refine' hMod_ii ?hb ?_); k_dflt (skip; (case hb => decide)); intro _ _; (try dsimp only)))
local macro_rules | `(tactic| walk_at "call builtin:divmod") => `(tactic| (k_here; (with_reducible refine' hDivmod ?k1 ?k2 ?k3 ?k4 ?_); (k_dflt (skip; (case k1 => k_asm); (case k2 => k_asm); (case k3 => decide); (case k4 => decide))); intro _ _ _; (try dsimp only)))
local macro_rules | `(tactic| walk_at "eval Name") => `(tactic| (k_here; k_dflt (first | (refine' ld ?k1 ?k2 ?_; (case k1 => k_asm); (case k2 => exact rfl); k_whole) | (refine' name_K ?k0 ?k1 ?k2 ?k3 ?_; (case k0 => k_asm); (case k1 => k_asm); (case k2 => k_asm); (case k3 => k_is); k_whole))))
local macro_rules | `(tactic| walk_at "exec If") => `(tactic| ((with_reducible refine wpAny_If ?_); try dsimp only))
local macro_rules | `(tactic| walk_at "execs cons") => `(tactic| ((with_reducible refine wpAny_execs_cons ?_); try dsimp only))
local macro_rules | `(tactic| walk_at "execs nil") => `(tactic| ((with_reducible refine wpAny_execs_nil ?_); try dsimp only))
local macro_rules | `(tactic| walk_at "eval Call") => `(tactic| (k_here; (with_reducible show wpAny _ _ (eval (Expr.Call (Expr.Name _ _) _ [] _) _) _ _ _); k_dflt (refine Call_ ?_)))
local macro_rules | `(tactic| walk_at "compareOp In int ref") => `(tactic| (k_here; k_dflt (refine' hIn_K ?F ?X ?l ?i ?_; (case F => k_asm); (case X => k_asm); (case l => k_is); (case i => repeat constructor); k_whole)))
local macro_rules | `(tactic| walk_at "compareOp In int ref") => `(tactic| (k_here; k_dflt (refine' in_tuple_ints (News.isTup ?N ?b) ?i ?_; (case N => k_asm); (case b => k_mem); (case i => repeat constructor); k_whole)))
local macro_rules | `(tactic| walk_at "storeName") => `(tactic| (k_here; (first | ((with_reducible show wpAny _ _ (storeName _ _ (Value.int _ _)) _ _ _); (fail_if_success (with_reducible refine store_skip (by assumption) ?_)); (with_reducible refine store_gen ?_)) | ((fail_if_success (with_reducible refine store_skipF (by assumption) ?_)); (with_reducible refine store_genF ?_))); intro _ _ _; walk_at "storeName"))
local macro_rules | `(tactic| walk_at "call ref") => `(tactic| (k_here; (with_reducible show wpAny _ _ (call (Value.ref 50) [Value.int _ _]) _ _ _); k_dflt (refine' use (c_isleap _ _ _ _ _ _) ?k1 ?k2 ?k3 ?k4 ?k5 ?kK ?kd ?ku ?_; (case k1 => k_asm); (case k2 => k_asm); (case k3 => k_asm); (case k4 => k_asm); (case k5 => k_asm); (case kK => first | exact rfl | assumption); (case kd => ktr_room); (case ku => ktr_units)); intro t9 h9 tk9 hp9 F9 N9; (try dsimp only); (try k_fold)))
local macro_rules | `(tactic| walk_at "call ref") => `(tactic| (k_here; (with_reducible show wpAny _ _ (call (Value.ref 64) [Value.int _ _, Value.int _ _, Value.int _ _]) _ _ _); k_dflt (refine' use (c_gto_jd _ _ _ _ _ _ _ _ _ _ ?hy ?hm ?hd) ?k1 ?k2 ?k3 ?k4 ?k5 ?kK ?kd ?ku ?_; (case k1 => k_asm); (case k2 => k_asm); (case k3 => k_asm); (case k4 => k_asm); (case k5 => k_asm); (case kK => first | exact rfl | assumption); (case kd => ktr_room); (case ku => ktr_units); (case hy => omega); (case hm => omega); (case hd => omega)); intro t9 h9 tk9 hp9 F9 N9; (try dsimp only); (try k_fold)))

theorem c_gfrom_jd (w : World) (mean : ExcName → Option Value) (mg mb : Str → Option Value) (y m d : Int) (tj : Tok) (hy : -5000 ≤ y ∧ y ≤ 25000) (hm : 1 ≤ m ∧ m ≤ 12) (hd : 1 ≤ d ∧ d ≤ dim y m) :
    ClaimT 4 w mean mg mb 71 [.float (H (2 * gN y m d - 1)) tj] y m d True := by
  w_on
  dsimp only [ClaimT, ClaimTG]
  k_fill
  intros
  rename_i hret
  refine wpAny_call ?_
  k_dflt cell_enter
  have hdb := dim_bd y m
  have hdb1 := dim_bd y 1
  have hdb2 := dim_bd y m
  have hN := gN_bd (d := d) hy hm (by omega)
  repeat ((fail_if_success (with_reducible show wpAny _ _ (exec (Stmt.If _ _ _ _) _) _ _ _)); (first | (k_unfold; (try dsimp only)) | (k_end; wrow_close) | walk1 | (dsimp only; walk1) | (leave1; walk_say "STEP leave1"; try dsimp only)))
  have hY := greg_walk hm hd (by assumption) (by assumption) (by assumption) (by assumption) (by assumption) (by assumption) (by assumption) (by assumption) (by assumption) (by assumption)
  refine cutName (x := Str.ofString "year") y (by assumption) (by assumption) ?_ (fun t h' tk F' N' => ?_)
  · k_steps
    all_goals first | exact cut_end (by assumption) (by assumption) (by omega) | exact cut_end0 (by assumption) (by assumption) (by with_unfolding_all rfl) (by omega)
  · (try k_fold)
    have e9 := hY.1
    clear hY
    (rename _ = 2 * ((2 * gN y m d - 1 - 1) / 2) + 1 => x9); clear x9
    (rename _ = _ / (2 * 146097) => x8); clear x8
    (rename _ = 2 * (_ / 2 % 146097) => x7); clear x7
    (rename _ = _ / (2 * 36524) => x6); clear x6
    (rename _ = 2 * (_ / 2 % 36524) => x5); clear x5
    (rename _ = _ / (2 * 1461) => x4); clear x4
    (rename _ = 2 * (_ / 2 % 1461) => x3); clear x3
    (rename _ = _ / (2 * 365) => x2); clear x2
    (rename _ = _ * 400 + _ * 100 + _ * 4 + _ => x1); clear x1
    repeat ((fail_if_success (with_reducible show wpAny _ _ (exec (Stmt.If _ _ _ _) _) _ _ _)); (first | (k_unfold; (try dsimp only)) | (k_end; wrow_close) | walk1 | (dsimp only; walk1) | (leave1; walk_say "STEP leave1"; try dsimp only)))
    refine cutName (x := Str.ofString "leap_adj") (lad y (gN y m d - gN y 1 1)) (by assumption) (by assumption) ?_ (fun t h' tk F' N' => ?_)
    · k_steps
      all_goals refine cut_end (by assumption) (by assumption) ?_
      all_goals first | exact lad_1 (by assumption) (by assumption) (by assumption) e9 | exact lad_2 (by assumption) (by assumption) (by assumption) (by assumption) e9 | exact lad_3 (by assumption) (by assumption) (by assumption) (by assumption) e9
    · (try k_fold)
      have hdd := gN_day y m d
      have hlb := lad_bd y (gN y m d - gN y 1 1)
      have hlm := lad_month hm hd rfl
      have hyd := yday_bd hm hd
      have hfb := feb_cases y
      repeat ((fail_if_success (with_reducible show wpAny _ _ (exec (Stmt.Assign _ _ _) _) _ _ _)); (first | (k_unfold; (try dsimp only)) | (k_end; wrow_close) | walk1 | (dsimp only; walk1) | (leave1; walk_say "STEP leave1"; try dsimp only)))
      refine cutName (x := Str.ofString "month") m (by assumption) (by assumption) ?_ (fun t h' tk F' N' => ?_)
      · k_steps
        all_goals refine cut_end (by assumption) (by assumption) (by omega)
      · (try k_fold)
        k_steps
        all_goals (refine ret_tup hret (by k_asm) (by k_asm) (by assumption) ⟨rfl, rfl, by omega⟩ (by trivial))
end Mine
namespace Mine
open PySem PySem.W PyProof.Rows PySem.Calls PySem.Spec

local macro_rules | `(tactic| walk_at "binaryOp Add int int") => `(tactic| (k_here; (with_reducible refine' hAdd_ii ?_); k_dflt (skip); intro _ _; (try dsimp only)))
local macro_rules | `(tactic| walk_at "binaryOp Sub int int") => `(tactic| (k_here; (with_reducible refine' hSub_ii ?_); k_dflt (skip); intro _ _; (try dsimp only)))
local macro_rules | `(tactic| walk_at "binaryOp Mult int int") => `(tactic| (k_here; (with_reducible refine' hMul_ii ?ok ?_); k_dflt (skip; (case ok => mul_fits)); intro _ _; (try dsimp only)))
local macro_rules | `(tactic| walk_at "unaryOp USub int") => `(tactic| (k_here; (with_reducible refine' hNeg_i ?_); k_dflt (skip); intro _ _; (try dsimp only)))
local macro_rules | `(tactic| walk_at "binaryOp Add float int") => `(tactic| (k_here; (with_reducible refine' hAdd_fi0 ?hn ?_); k_dflt (skip; (case hn => omega)); intro _ _; (try dsimp only)))
local macro_rules | `(tactic| walk_at "binaryOp Add float int") => `(tactic| (k_here; (with_reducible refine' hAdd_fi ?hx ?ha ?hn ?_); k_dflt (skip; (case hx => (with_reducible first | exact rfl | exact epoch_g | exact epoch_h | exact half_f | exact mean_n | exact mean_d)); (case ha => omega); (case hn => omega)); intro _ _; (try dsimp only)))
local macro_rules | `(tactic| walk_at "binaryOp Add int float") => `(tactic| (k_here; (with_reducible refine' hAdd_if ?hx ?ha ?hn ?_); k_dflt (skip; (case hx => (with_reducible first | exact rfl | exact epoch_g | exact epoch_h | exact half_f | exact mean_n | exact mean_d)); (case ha => omega); (case hn => omega)); intro _ _; (try dsimp only)))
local macro_rules | `(tactic| walk_at "binaryOp Add float float") => `(tactic| (k_here; (with_reducible refine' hAdd_ff ?hx ?hy ?ha ?hb ?_); k_dflt (skip; (case hx => (with_reducible first | exact rfl | exact epoch_g | exact epoch_h | exact half_f | exact mean_n | exact mean_d)); (case hy => (with_reducible first | exact rfl | exact epoch_g | exact epoch_h | exact half_f | exact mean_n | exact mean_d)); (case ha => omega); (case hb => omega)); intro _ _; (try dsimp only)))
local macro_rules | `(tactic| walk_at "binaryOp Sub float int") => `(tactic| (k_here; (with_reducible refine' hSub_fi ?hx ?ha ?hn ?_); k_dflt (skip; (case hx => (with_reducible first | exact rfl | exact epoch_g | exact epoch_h | exact half_f | exact mean_n | exact mean_d)); (case ha => omega); (case hn => omega)); intro _ _; (try dsimp only)))
local macro_rules | `(tactic| walk_at "binaryOp Sub float float") => `(tactic| (k_here; (with_reducible refine' hSub_ff ?hx ?hy ?ha ?hb ?_); k_dflt (skip; (case hx => (with_reducible first | exact rfl | exact epoch_g | exact epoch_h | exact half_f | exact mean_n | exact mean_d)); (case hy => (with_reducible first | exact rfl | exact epoch_g | exact epoch_h | exact half_f | exact mean_n | exact mean_d)); (case ha => omega); (case hb => omega)); intro _ _; (try dsimp only)))
local macro_rules | `(tactic| walk_at "inplaceOp Add float int") => `(tactic| (k_here; (with_reducible refine' hIadd_fi ?hh ?hx ?ha ?hn ?_); k_dflt (skip; (case hh => exact rfl); (case hx => (with_reducible first | exact rfl | exact epoch_g | exact epoch_h | exact half_f | exact mean_n | exact mean_d)); (case ha => omega); (case hn => omega)); intro _ _; (try dsimp only)))
local macro_rules | `(tactic| walk_at "binaryOp Mult float int") => `(tactic| (k_here; (with_reducible refine' hMul_fi ?hx ?h0 ?ha ?hn ?hab ?_); k_dflt (skip; (case hx => (with_reducible first | exact rfl | exact epoch_g | exact epoch_h | exact half_f | exact mean_n | exact mean_d)); (case h0 => decide); (case ha => omega); (case hn => decide); (case hab => omega)); intro _ _; (try dsimp only)))
local macro_rules | `(tactic| walk_at "binaryOp Mult float float") => `(tactic| (k_here; (with_reducible refine' hMul_ff (n := 98496) ?hx ?hy ?h0 ?ha ?hn ?hab ?_); k_dflt (skip; (case hx => (with_reducible first | exact rfl | exact epoch_g | exact epoch_h | exact half_f | exact mean_n | exact mean_d)); (case hy => (with_reducible exact mean_n2)); (case h0 => decide); (case ha => omega); (case hn => decide); (case hab => omega)); intro _ _; (try dsimp only)))
local macro_rules | `(tactic| walk_at "binaryOp Div int int") => `(tactic| (k_here; (with_reducible refine' hDiv_ii ?hh ?ha ?hb ?_); k_dflt (skip; (case hh => exact rfl); (case ha => omega); (case hb => decide)); intro _ _; (try dsimp only)))
local macro_rules | `(tactic| walk_at "binaryOp Div float int") => `(tactic| (k_here; (with_reducible refine' hDiv_fi ?hh ?hn ?hb ?_); k_dflt (skip; (case hh => exact rfl); (case hn => decide); (case hb => decide)); intro _ _; (try dsimp only)))
local macro_rules | `(tactic| walk_at "binaryOp Div float float") => `(tactic| (k_here; (with_reducible refine' hDiv_ff ?hh ?hy ?hn ?hb ?_); k_dflt (skip; (case hh => exact rfl); (case hy => (with_reducible first | exact rfl | exact epoch_g | exact epoch_h | exact half_f | exact mean_n | exact mean_d)); (case hn => decide); (case hb => decide)); intro _ _; (try dsimp only)))
local macro_rules | `(tactic| walk_at "binaryOp Mod float int") => `(tactic| (k_here; (with_reducible refine' hMod_fi ?hh ?hx ?h2 ?ha ?h0 ?hn ?_); k_dflt (skip; (case hh => exact rfl); (case hx => (with_reducible first | exact rfl | exact epoch_g | exact epoch_h | exact half_f | exact mean_n | exact mean_d)); (case h2 => omega); (case ha => omega); (case h0 => decide); (case hn => decide)); intro _ _; (try dsimp only)))
local macro_rules | `(tactic| walk_at "call builtin:math.floor") => `(tactic| (k_here; (with_reducible refine' hFloor_fi ?hh ?hx ?ha ?hb ?hb2 ?hq ?_); k_dflt (skip; (case hh => exact rfl); (case hx => (with_reducible first | exact rfl | exact epoch_g | exact epoch_h | exact half_f | exact mean_n | exact mean_d)); (case ha => omega); (case hb => decide); (case hb2 => decide); (case hq => omega)); intro _ _; (try dsimp only)))
local macro_rules | `(tactic| walk_at "call builtin:math.floor") => `(tactic| (k_here; (with_reducible refine' hFloor_ff ?hh ?hx ?hy ?ha ?hb ?hb2 ?hq ?_); k_dflt (skip; (case hh => exact rfl); (case hx => (with_reducible first | exact rfl | exact epoch_g | exact epoch_h | exact half_f | exact mean_n | exact mean_d)); (case hy => (with_reducible first | exact rfl | exact epoch_g | exact epoch_h | exact half_f | exact mean_n | exact mean_d)); (case ha => omega); (case hb => decide); (case hb2 => decide); (case hq => omega)); intro _ _; (try dsimp only)))
local macro_rules | `(tactic| walk_at "call builtin:math.floor") => `(tactic| (k_here; (with_reducible refine' hFloor ?hh ?hx ?ha ?_); k_dflt (skip; (case hh => exact rfl); (case hx => (with_reducible first | exact rfl | exact epoch_g | exact epoch_h | exact half_f | exact mean_n | exact mean_d)); (case ha => omega)); intro _ _; (try dsimp only)))
local macro_rules | `(tactic| walk_at "call builtin:math.floor") => `(tactic| (k_here; (with_reducible refine' hFloor_ii ?hh ?hb ?hb2 ?hq ?_); k_dflt (skip; (case hh => exact rfl); (case hb => decide); (case hb2 => decide); (case hq => omega)); intro _ _; (try dsimp only)))
local macro_rules | `(tactic| walk_at "call builtin:math.floor") => `(tactic| (k_here; (with_reducible refine' hFloor_mo ?hh ?hm ?hd ?hl ?_); k_dflt (skip; (case hh => exact rfl); (case hm => omega); (case hd => omega); (case hl => omega)); intro _ _; (try dsimp only)))
local macro_rules | `(tactic| walk_at "call type:int") => `(tactic| (k_here; (with_reducible refine' hInt ?hh ?hx ?ha ?_); k_dflt (skip; (case hh => exact rfl); (case hx => (with_reducible first | exact rfl | exact epoch_g | exact epoch_h | exact half_f | exact mean_n | exact mean_d)); (case ha => omega)); intro _ _ _ _; (try dsimp only)))
local macro_rules | `(tactic| walk_at "call type:int") => `(tactic| (k_here; (with_reducible refine' hInt_pos ?hh ?hx ?h0 ?ha ?_); k_dflt (skip; (case hh => exact rfl); (case hx => (with_reducible first | exact rfl | exact epoch_g | exact epoch_h | exact half_f | exact mean_n | exact mean_d)); (case h0 => omega); (case ha => omega)); intro _ _; (try dsimp only)))
local macro_rules | `(tactic| walk_at "compareOp Lt float int") => `(tactic| (k_here; (with_reducible refine' hLt_fi ?hx ?ha ?_); k_dflt (skip; (case hx => (with_reducible first | exact rfl | exact epoch_g | exact epoch_h | exact half_f | exact mean_n | exact mean_d)); (case ha => omega)); (try dsimp only)))
local macro_rules | `(tactic| walk_at "compareOp NotEq float int") => `(tactic| (k_here; (with_reducible refine' hNe_fi ?hx ?ha ?_); k_dflt (skip; (case hx => (with_reducible first | exact rfl | exact epoch_g | exact epoch_h | exact half_f | exact mean_n | exact mean_d)); (case ha => omega)); (try dsimp only)))
local macro_rules | `(tactic| walk_at "compareOp Eq float int") => `(tactic| (k_here; (with_reducible refine' hEq_fi ?hx ?ha ?_); k_dflt (skip; (case hx => (with_reducible first | exact rfl | exact epoch_g | exact epoch_h | exact half_f | exact mean_n | exact mean_d)); (case ha => omega)); (try dsimp only)))
local macro_rules | `(tactic| walk_at "compareOp Lt float float") => `(tactic| (k_here; (with_reducible refine' hLt_ff ?hx ?hy ?ha ?hb ?_); k_dflt (skip; (case hx => (with_reducible first | exact rfl | exact epoch_g | exact epoch_h | exact half_f | exact mean_n | exact mean_d)); (case hy => (with_reducible first | exact rfl | exact epoch_g | exact epoch_h | exact half_f | exact mean_n | exact mean_d)); (case ha => omega); (case hb => omega)); (try dsimp only)))
local macro_rules | `(tactic| walk_at "compareOp Gt float float") => `(tactic| (k_here; (with_reducible refine' hGt_ff ?hx ?hy ?ha ?hb ?_); k_dflt (skip; (case hx => (with_reducible first | exact rfl | exact epoch_g | exact epoch_h | exact half_f | exact mean_n | exact mean_d)); (case hy => (with_reducible first | exact rfl | exact epoch_g | exact epoch_h | exact half_f | exact mean_n | exact mean_d)); (case ha => omega); (case hb => omega)); (try dsimp only)))
local macro_rules | `(tactic| walk_at "compareOp GtE float float") => `(tactic| (k_here; (with_reducible refine' hGe_ff ?hx ?hy ?ha ?hb ?_); k_dflt (skip; (case hx => (with_reducible first | exact rfl | exact epoch_g | exact epoch_h | exact half_f | exact mean_n | exact mean_d)); (case hy => (with_reducible first | exact rfl | exact epoch_g | exact epoch_h | exact half_f | exact mean_n | exact mean_d)); (case ha => omega); (case hb => omega)); (try dsimp only)))
local macro_rules | `(tactic| walk_at "compareOp Eq float float") => `(tactic| (k_here; (with_reducible refine' hEq_ff ?hx ?hy ?ha ?hb ?_); k_dflt (skip; (case hx => (with_reducible first | exact rfl | exact epoch_g | exact epoch_h | exact half_f | exact mean_n | exact mean_d)); (case hy => (with_reducible first | exact rfl | exact epoch_g | exact epoch_h | exact half_f | exact mean_n | exact mean_d)); (case ha => omega); (case hb => omega)); (try dsimp only)))
local macro_rules | `(tactic| walk_at "compareOp NotEq float float") => `(tactic| (k_here; (with_reducible refine' hNe_ff ?hx ?hy ?ha ?hb ?_); k_dflt (skip; (case hx => (with_reducible first | exact rfl | exact epoch_g | exact epoch_h | exact half_f | exact mean_n | exact mean_d)); (case hy => (with_reducible first | exact rfl | exact epoch_g | exact epoch_h | exact half_f | exact mean_n | exact mean_d)); (case ha => omega); (case hb => omega)); (try dsimp only)))
local macro_rules | `(tactic| walk_at "truthy float") => `(tactic| (k_here; (with_reducible refine' hTruthy ?hx ?ha ?_); k_dflt (skip; (case hx => (with_reducible first | exact rfl | exact epoch_g | exact epoch_h | exact half_f | exact mean_n | exact mean_d)); (case ha => omega)); (try dsimp only)))
local macro_rules | `(tactic| walk_at "ite") => `(tactic| (k_here; first | with_reducible refine ite_tt ?_ | with_reducible refine ite_ff ?_ | with_reducible refine split_not ?_ | (with_reducible refine ite_pos (by assumption) ?_) | (with_reducible refine pr_false (by assumption) ?_) | (with_reducible refine pr_decT (by k_dflt omega) ?_) | (with_reducible refine pr_decF (by k_dflt omega) ?_) | (with_reducible refine pr_ieqT (by k_dflt omega) ?_) | (with_reducible refine pr_ieqF (by k_dflt omega) ?_) | (with_reducible refine pr_ineT (by k_dflt omega) ?_) | (with_reducible refine pr_ineF (by k_dflt omega) ?_) | (with_reducible refine split_ine ?_ ?_ <;> intro _) | (with_reducible refine split_ieq ?_ ?_ <;> intro _) | (with_reducible refine PyProof.Rows.split_dec ?_ ?_ <;> intro _) | (with_reducible refine PyProof.Rows.split_bool ?_ ?_ <;> intro _)))
local macro_rules | `(tactic| walk_at "binaryOp Mod int int") => `(tactic| (k_here; (with_reducible refine' hMod_ii ?hb ?_); k_dflt (skip; (case hb => decide)); intro _ _; (try dsimp only)))
local macro_rules | `(tactic| walk_at "call builtin:divmod") => `(tactic| (k_here; (with_reducible refine' hDivmod ?k1 ?k2 ?k3 ?k4 ?_); (k_dflt (skip; (case k1 => k_asm); (case k2 => k_asm); (case k3 => decide); (case k4 => decide))); intro _ _ _; (try dsimp only)))
local macro_rules | `(tactic| walk_at "eval Name") => `(tactic| (k_here; k_dflt (first | (refine' ld ?k1 ?k2 ?_; (case k1 => k_asm); (case k2 => exact rfl); k_whole) | (refine' name_K ?k0 ?k1 ?k2 ?k3 ?_; (case k0 => k_asm); (case k1 => k_asm); (case k2 => k_asm); (case k3 => k_is); k_whole))))
local macro_rules | `(tactic| walk_at "exec If") => `(tactic| ((with_reducible refine wpAny_If ?_); try dsimp only))
local macro_rules | `(tactic| walk_at "execs cons") => `(tactic| ((with_reducible refine wpAny_execs_cons ?_); try dsimp only))
local macro_rules | `(tactic| walk_at "execs nil") => `(tactic| ((with_reducible refine wpAny_execs_nil ?_); try dsimp only))
local macro_rules | `(tactic| walk_at "eval Call") => `(tactic| (k_here; (with_reducible show wpAny _ _ (eval (Expr.Call (Expr.Name _ _) _ [] _) _) _ _ _); k_dflt (refine Call_ ?_)))
local macro_rules | `(tactic| walk_at "compareOp In int ref") => `(tactic| (k_here; k_dflt (refine' hIn_K ?F ?X ?l ?i ?_; (case F => k_asm); (case X => k_asm); (case l => k_is); (case i => repeat constructor); k_whole)))
local macro_rules | `(tactic| walk_at "compareOp In int ref") => `(tactic| (k_here; k_dflt (refine' in_tuple_ints (News.isTup ?N ?b) ?i ?_; (case N => k_asm); (case b => k_mem); (case i => repeat constructor); k_whole)))
local macro_rules | `(tactic| walk_at "storeName") => `(tactic| (k_here; (first | ((with_reducible show wpAny _ _ (storeName _ _ (Value.int _ _)) _ _ _); (fail_if_success (with_reducible refine store_skip (by assumption) ?_)); (with_reducible refine store_gen ?_)) | ((fail_if_success (with_reducible refine store_skipF (by assumption) ?_)); (with_reducible refine store_genF ?_))); intro _ _ _; walk_at "storeName"))
local macro_rules | `(tactic| walk_at "subscriptTail Name BinOp ref int") => `(tactic| (k_here; (with_reducible show wpAny _ _ (subscriptTail _ _ (Value.ref 156) (Value.int _ _)) _ _ _); k_dflt (refine' moons_K ?F ?X ?l ?i ?h0 ?h1 ?_; (case F => k_asm); (case X => k_asm); (case l => k_is); (case i => repeat constructor); (case h0 => omega); (case h1 => omega); k_whole); intro _))
local macro_rules | `(tactic| walk_at "subscriptTail Name Name ref int") => `(tactic| (k_here; (with_reducible show wpAny _ _ (subscriptTail _ _ (Value.ref 156) (Value.int _ _)) _ _ _); k_dflt (refine' moons_K ?F ?X ?l ?i ?h0 ?h1 ?_; (case F => k_asm); (case X => k_asm); (case l => k_is); (case i => repeat constructor); (case h0 => omega); (case h1 => omega); k_whole); intro _))

theorem c_thirteen (w : World) (mean : ExcName → Option Value) (mg mb : Str → Option Value) (y : Int) (ty : Tok) :
    Claim 1 w mean mg mb 163 [.int y ty] (fun _ => .bool (leapH y)) True := by
  w_on
  dsimp only [Claim, ClaimG]
  k_fill
  intros
  rename_i hret
  refine wpAny_call ?_
  k_dflt cell_enter
  k_steps
  all_goals (refine ret_bool hret ?_ (by trivial) (by k_asm) (by k_asm))
  all_goals (have e := thirteen_eq y; (rename _ = (y - 1) % 19 => x1); rw [x1]; exact e)
local macro_rules | `(tactic| walk_at "call ref") => `(tactic| (k_here; (with_reducible show wpAny _ _ (call (Value.ref 163) [Value.int _ _]) _ _ _); k_dflt (refine' use (c_thirteen _ _ _ _ _ _) ?k1 ?k2 ?k3 ?k4 ?k5 ?kK ?kd ?ku ?_; (case k1 => k_asm); (case k2 => k_asm); (case k3 => k_asm); (case k4 => k_asm); (case k5 => k_asm); (case kK => first | exact rfl | assumption); (case kd => ktr_room); (case ku => ktr_units)); intro t9 h9 tk9 hp9 F9 N9; (try dsimp only); (try k_fold)))

theorem c_january (w : World) (mean : ExcName → Option Value) (mg mb : Str → Option Value) (y : Int) (ty : Tok) :
    Claim 1 w mean mg mb 184 [.int y ty] (fun t => .int (gN y 1 1) t) True := by
  w_on
  dsimp only [Claim, ClaimG]
  k_fill
  intros
  rename_i hret
  refine wpAny_call ?_
  k_dflt cell_enter
  k_steps
  all_goals (refine ret_int hret ?_ (by trivial) (by k_asm) (by first | k_asm | exact cb_drop (by assumption) (by kcj_all)))
  all_goals exact jan_eq (by assumption) (by assumption) (by assumption) (by assumption) (by assumption) (by assumption)
local macro_rules | `(tactic| walk_at "call ref") => `(tactic| (k_here; (with_reducible show wpAny _ _ (call (Value.ref 184) [Value.int _ _]) _ _ _); k_dflt (refine' use (c_january _ _ _ _ _ _) ?k1 ?k2 ?k3 ?k4 ?k5 ?kK ?kd ?ku ?_; (case k1 => k_asm); (case k2 => k_asm); (case k3 => k_asm); (case k4 => k_asm); (case k5 => k_asm); (case kK => first | exact rfl | assumption); (case kd => ktr_room); (case ku => ktr_units)); intro t9 h9 tk9 hp9 F9 N9; (try dsimp only); (try k_fold)))

theorem c_sizes (w : World) (mean : ExcName → Option Value) (mg mb : Str → Option Value) (y : Int) (ty : Tok) :
    ClaimS 2 w mean mg mb 191 [.int y ty] (sizesL y) := by
  w_on
  dsimp only [ClaimS, ClaimSG]
  k_fill
  intros
  rename_i hret
  refine wpAny_call ?_
  k_dflt cell_enter
  have hfb := feb_jan y
  k_steps
  (rename _ = gN (y + 1) 1 1 - gN y 1 1 - 337 => x1)
  rw [hfb] at x1
  subst x1
  all_goals (refine ret_tupS hret (by k_asm) (by k_asm) (by assumption) (by unfold sizesL; repeat constructor))
local macro_rules | `(tactic| walk_at "call ref") => `(tactic| (k_here; (with_reducible show wpAny _ _ (call (Value.ref 191) [Value.int _ _]) _ _ _); k_dflt (refine' useS (c_sizes _ _ _ _ _ _) ?k1 ?k2 ?k3 ?k4 ?k5 ?kK ?kd ?ku ?_; (case k1 => k_asm); (case k2 => k_asm); (case k3 => k_asm); (case k4 => k_asm); (case k5 => k_asm); (case kK => first | exact rfl | assumption); (case kd => ktr_room); (case ku => ktr_units)); intro D9 vs9 h9 tk9 hi9 F9 N9 l9; (try dsimp only); (try k_fold)))

theorem c_tishri (w : World) (mean : ExcName → Option Value) (mg mb : Str → Option Value) (y : Int) (ty : Tok) (hy : -1000 ≤ y ∧ y ≤ 25000) :
    Claim 2 w mean mg mb 170 [.int y ty] (fun t => .int (TL y) t) True := by
  w_on
  dsimp only [Claim, ClaimG]
  k_fill
  intros
  rename_i hret
  refine wpAny_call ?_
  k_dflt cell_enter
  have hms := mon_split y
  repeat ((fail_if_success (with_reducible show wpAny _ _ (exec (Stmt.If _ _ _ _) _) _ _ _)); (first | (k_unfold; (try dsimp only)) | (k_end; wrow_close) | walk1 | (dsimp only; walk1) | (leave1; walk_say "STEP leave1"; try dsimp only)))
  have hE := tishri_walk (by assumption) (by assumption) (by assumption) (by assumption)
  clear hms
  (rename _ = (y - 1) / 19 => x1); clear x1
  (rename _ = (y - 1) % 19 => x2); clear x2
  (rename _ = _ / 25920 => x3); clear x3
  (rename _ = _ % 25920 => x4); clear x4
  refine cutName (x := Str.ofString "evening") (ev y) (by assumption) (by assumption) ?_ (fun t h' tk F' N' => ?_)
  · k_steps
    all_goals first | refine cut_end (by assumption) (by assumption) ?_ | refine cut_end0 (by assumption) (by assumption) (by with_unfolding_all rfl) ?_
    all_goals first
      | (rw [ev_1 (by omega)]; omega)
      | (rw [ev_2 (by omega) (by omega) (by omega) (by assumption)]; omega)
      | (rw [ev_3 (by omega) (by omega) (by omega) (by assumption)]; omega)
      | (rw [ev_4 (by omega) (by first | exact .inl (by omega) | exact .inr (.inl (by omega)) | exact .inr (.inr (by assumption))) (by first | exact .inl (by omega) | exact .inr (.inl (by omega)) | exact .inr (.inr (by assumption)))]; omega)
  · (try k_fold)
    k_steps
    all_goals (refine ret_int hret ?_ (by trivial) (by k_asm) (by first | k_asm | exact cb_drop (by assumption) (by kcj_all)))
    all_goals first
      | (rw [TL_1 (any3T (by assumption))]; omega)
      | (rw [TL_2 (any3F (by assumption))])
local macro_rules | `(tactic| walk_at "call ref") => `(tactic| (k_here; (with_reducible show wpAny _ _ (call (Value.ref 170) [Value.int _ _]) _ _ _); k_dflt (refine' use (c_tishri _ _ _ _ _ _ ?hy) ?k1 ?k2 ?k3 ?k4 ?k5 ?kK ?kd ?ku ?_; (case k1 => k_asm); (case k2 => k_asm); (case k3 => k_asm); (case k4 => k_asm); (case k5 => k_asm); (case kK => first | exact rfl | assumption); (case kd => ktr_room); (case ku => ktr_units); (case hy => omega)); intro t9 h9 tk9 hp9 F9 N9; (try dsimp only); (try k_fold)))
end Mine
namespace Mine
open PySem PySem.W PyProof.Rows PySem.Calls PySem.Spec

local macro_rules | `(tactic| walk_at "binaryOp Add int int") => `(tactic| (k_here; (with_reducible refine' hAdd_ii ?_); k_dflt (skip); intro _ _; (try dsimp only)))
local macro_rules | `(tactic| walk_at "binaryOp Sub int int") => `(tactic| (k_here; (with_reducible refine' hSub_ii ?_); k_dflt (skip); intro _ _; (try dsimp only)))
local macro_rules | `(tactic| walk_at "binaryOp Mult int int") => `(tactic| (k_here; (with_reducible refine' hMul_ii ?ok ?_); k_dflt (skip; (case ok => mul_fits)); intro _ _; (try dsimp only)))
local macro_rules | `(tactic| walk_at "unaryOp USub int") => `(tactic| (k_here; (with_reducible refine' hNeg_i ?_); k_dflt (skip); intro _ _; (try dsimp only)))
local macro_rules | `(tactic| walk_at "binaryOp Add float int") => `(tactic| (k_here; (with_reducible refine' hAdd_fi0 ?hn ?_); k_dflt (skip; (case hn => omega)); intro _ _; (try dsimp only)))
local macro_rules | `(tactic| walk_at "binaryOp Add float int") => `(tactic| (k_here; (with_reducible refine' hAdd_fi ?hx ?ha ?hn ?_); k_dflt (skip; (case hx => (with_reducible first | exact rfl | exact epoch_g | exact epoch_h | exact half_f | exact mean_n | exact mean_d)); (case ha => omega); (case hn => omega)); intro _ _; (try dsimp only)))
local macro_rules | `(tactic| walk_at "binaryOp Add int float") => `(tactic| (k_here; (with_reducible refine' hAdd_if ?hx ?ha ?hn ?_); k_dflt (skip; (case hx => (with_reducible first | exact rfl | exact epoch_g | exact epoch_h | exact half_f | exact mean_n | exact mean_d)); (case ha => omega); (case hn => omega)); intro _ _; (try dsimp only)))
local macro_rules | `(tactic| walk_at "binaryOp Add float float") => `(tactic| (k_here; (with_reducible refine' hAdd_ff ?hx ?hy ?ha ?hb ?_); k_dflt (skip; (case hx => (with_reducible first | exact rfl | exact epoch_g | exact epoch_h | exact half_f | exact mean_n | exact mean_d)); (case hy => (with_reducible first | exact rfl | exact epoch_g | exact epoch_h | exact half_f | exact mean_n | exact mean_d)); (case ha => omega); (case hb => omega)); intro _ _; (try dsimp only)))
local macro_rules | `(tactic| walk_at "binaryOp Sub float int") => `(tactic| (k_here; (with_reducible refine' hSub_fi ?hx ?ha ?hn ?_); k_dflt (skip; (case hx => (with_reducible first | exact rfl | exact epoch_g | exact epoch_h | exact half_f | exact mean_n | exact mean_d)); (case ha => omega); (case hn => omega)); intro _ _; (try dsimp only)))
local macro_rules | `(tactic| walk_at "binaryOp Sub float float") => `(tactic| (k_here; (with_reducible refine' hSub_ff ?hx ?hy ?ha ?hb ?_); k_dflt (skip; (case hx => (with_reducible first | exact rfl | exact epoch_g | exact epoch_h | exact half_f | exact mean_n | exact mean_d)); (case hy => (with_reducible first | exact rfl | exact epoch_g | exact epoch_h | exact half_f | exact mean_n | exact mean_d)); (case ha => omega); (case hb => omega)); intro _ _; (try dsimp only)))
local macro_rules | `(tactic| walk_at "inplaceOp Add float int") => `(tactic| (k_here; (with_reducible refine' hIadd_fi ?hh ?hx ?ha ?hn ?_); k_dflt (skip; (case hh => exact rfl); (case hx => (with_reducible first | exact rfl | exact epoch_g | exact epoch_h | exact half_f | exact mean_n | exact mean_d)); (case ha => omega); (case hn => omega)); intro _ _; (try dsimp only)))
local macro_rules | `(tactic| walk_at "binaryOp Mult float int") => `(tactic| (k_here; (with_reducible refine' hMul_fi ?hx ?h0 ?ha ?hn ?hab ?_); k_dflt (skip; (case hx => (with_reducible first | exact rfl | exact epoch_g | exact epoch_h | exact half_f | exact mean_n | exact mean_d)); (case h0 => decide); (case ha => omega); (case hn => decide); (case hab => omega)); intro _ _; (try dsimp only)))
local macro_rules | `(tactic| walk_at "binaryOp Mult float float") => `(tactic| (k_here; (with_reducible refine' hMul_ff (n := 98496) ?hx ?hy ?h0 ?ha ?hn ?hab ?_); k_dflt (skip; (case hx => (with_reducible first | exact rfl | exact epoch_g | exact epoch_h | exact half_f | exact mean_n | exact mean_d)); (case hy => (with_reducible exact mean_n2)); (case h0 => decide); (case ha => omega); (case hn => decide); (case hab => omega)); intro _ _; (try dsimp only)))
local macro_rules | `(tactic| walk_at "binaryOp Div int int") => `(tactic| (k_here; (with_reducible refine' hDiv_ii ?hh ?ha ?hb ?_); k_dflt (skip; (case hh => exact rfl); (case ha => omega); (case hb => decide)); intro _ _; (try dsimp only)))
local macro_rules | `(tactic| walk_at "binaryOp Div float int") => `(tactic| (k_here; (with_reducible refine' hDiv_fi ?hh ?hn ?hb ?_); k_dflt (skip; (case hh => exact rfl); (case hn => decide); (case hb => decide)); intro _ _; (try dsimp only)))
local macro_rules | `(tactic| walk_at "binaryOp Div float float") => `(tactic| (k_here; (with_reducible refine' hDiv_ff ?hh ?hy ?hn ?hb ?_); k_dflt (skip; (case hh => exact rfl); (case hy => (with_reducible first | exact rfl | exact epoch_g | exact epoch_h | exact half_f | exact mean_n | exact mean_d)); (case hn => decide); (case hb => decide)); intro _ _; (try dsimp only)))
local macro_rules | `(tactic| walk_at "binaryOp Mod float int") => `(tactic| (k_here; (with_reducible refine' hMod_fi ?hh ?hx ?h2 ?ha ?h0 ?hn ?_); k_dflt (skip; (case hh => exact rfl); (case hx => (with_reducible first | exact rfl | exact epoch_g | exact epoch_h | exact half_f | exact mean_n | exact mean_d)); (case h2 => omega); (case ha => omega); (case h0 => decide); (case hn => decide)); intro _ _; (try dsimp only)))
local macro_rules | `(tactic| walk_at "call builtin:math.floor") => `(tactic| (k_here; (with_reducible refine' hFloor_fi ?hh ?hx ?ha ?hb ?hb2 ?hq ?_); k_dflt (skip; (case hh => exact rfl); (case hx => (with_reducible first | exact rfl | exact epoch_g | exact epoch_h | exact half_f | exact mean_n | exact mean_d)); (case ha => omega); (case hb => decide); (case hb2 => decide); (case hq => omega)); intro _ _; (try dsimp only)))
local macro_rules | `(tactic| walk_at "call builtin:math.floor") => `(tactic| (k_here; (with_reducible refine' hFloor_ff ?hh ?hx ?hy ?ha ?hb ?hb2 ?hq ?_); k_dflt (skip; (case hh => exact rfl); (case hx => (with_reducible first | exact rfl | exact epoch_g | exact epoch_h | exact half_f | exact mean_n | exact mean_d)); (case hy => (with_reducible first | exact rfl | exact epoch_g | exact epoch_h | exact half_f | exact mean_n | exact mean_d)); (case ha => omega); (case hb => decide); (case hb2 => decide); (case hq => omega)); intro _ _; (try dsimp only)))
local macro_rules | `(tactic| walk_at "call builtin:math.floor") => `(tactic| (k_here; (with_reducible refine' hFloor ?hh ?hx ?ha ?_); k_dflt (skip; (case hh => exact rfl); (case hx => (with_reducible first | exact rfl | exact epoch_g | exact epoch_h | exact half_f | exact mean_n | exact mean_d)); (case ha => omega)); intro _ _; (try dsimp only)))
local macro_rules | `(tactic| walk_at "call builtin:math.floor") => `(tactic| (k_here; (with_reducible refine' hFloor_ii ?hh ?hb ?hb2 ?hq ?_); k_dflt (skip; (case hh => exact rfl); (case hb => decide); (case hb2 => decide); (case hq => omega)); intro _ _; (try dsimp only)))
local macro_rules | `(tactic| walk_at "call builtin:math.floor") => `(tactic| (k_here; (with_reducible refine' hFloor_mo ?hh ?hm ?hd ?hl ?_); k_dflt (skip; (case hh => exact rfl); (case hm => omega); (case hd => omega); (case hl => omega)); intro _ _; (try dsimp only)))
local macro_rules | `(tactic| walk_at "call type:int") => `(tactic| (k_here; (with_reducible refine' hInt ?hh ?hx ?ha ?_); k_dflt (skip; (case hh => exact rfl); (case hx => (with_reducible first | exact rfl | exact epoch_g | exact epoch_h | exact half_f | exact mean_n | exact mean_d)); (case ha => omega)); intro _ _ _ _; (try dsimp only)))
local macro_rules | `(tactic| walk_at "call type:int") => `(tactic| (k_here; (with_reducible refine' hInt_pos ?hh ?hx ?h0 ?ha ?_); k_dflt (skip; (case hh => exact rfl); (case hx => (with_reducible first | exact rfl | exact epoch_g | exact epoch_h | exact half_f | exact mean_n | exact mean_d)); (case h0 => omega); (case ha => omega)); intro _ _; (try dsimp only)))
local macro_rules | `(tactic| walk_at "compareOp Lt float int") => `(tactic| (k_here; (with_reducible refine' hLt_fi ?hx ?ha ?_); k_dflt (skip; (case hx => (with_reducible first | exact rfl | exact epoch_g | exact epoch_h | exact half_f | exact mean_n | exact mean_d)); (case ha => omega)); (try dsimp only)))
local macro_rules | `(tactic| walk_at "compareOp NotEq float int") => `(tactic| (k_here; (with_reducible refine' hNe_fi ?hx ?ha ?_); k_dflt (skip; (case hx => (with_reducible first | exact rfl | exact epoch_g | exact epoch_h | exact half_f | exact mean_n | exact mean_d)); (case ha => omega)); (try dsimp only)))
local macro_rules | `(tactic| walk_at "compareOp Eq float int") => `(tactic| (k_here; (with_reducible refine' hEq_fi ?hx ?ha ?_); k_dflt (skip; (case hx => (with_reducible first | exact rfl | exact epoch_g | exact epoch_h | exact half_f | exact mean_n | exact mean_d)); (case ha => omega)); (try dsimp only)))
local macro_rules | `(tactic| walk_at "compareOp Lt float float") => `(tactic| (k_here; (with_reducible refine' hLt_ff ?hx ?hy ?ha ?hb ?_); k_dflt (skip; (case hx => (with_reducible first | exact rfl | exact epoch_g | exact epoch_h | exact half_f | exact mean_n | exact mean_d)); (case hy => (with_reducible first | exact rfl | exact epoch_g | exact epoch_h | exact half_f | exact mean_n | exact mean_d)); (case ha => omega); (case hb => omega)); (try dsimp only)))
local macro_rules | `(tactic| walk_at "compareOp Gt float float") => `(tactic| (k_here; (with_reducible refine' hGt_ff ?hx ?hy ?ha ?hb ?_); k_dflt (skip; (case hx => (with_reducible first | exact rfl | exact epoch_g | exact epoch_h | exact half_f | exact mean_n | exact mean_d)); (case hy => (with_reducible first | exact rfl | exact epoch_g | exact epoch_h | exact half_f | exact mean_n | exact mean_d)); (case ha => omega); (case hb => omega)); (try dsimp only)))
local macro_rules | `(tactic| walk_at "compareOp GtE float float") => `(tactic| (k_here; (with_reducible refine' hGe_ff ?hx ?hy ?ha ?hb ?_); k_dflt (skip; (case hx => (with_reducible first | exact rfl | exact epoch_g | exact epoch_h | exact half_f | exact mean_n | exact mean_d)); (case hy => (with_reducible first | exact rfl | exact epoch_g | exact epoch_h | exact half_f | exact mean_n | exact mean_d)); (case ha => omega); (case hb => omega)); (try dsimp only)))
local macro_rules | `(tactic| walk_at "compareOp Eq float float") => `(tactic| (k_here; (with_reducible refine' hEq_ff ?hx ?hy ?ha ?hb ?_); k_dflt (skip; (case hx => (with_reducible first | exact rfl | exact epoch_g | exact epoch_h | exact half_f | exact mean_n | exact mean_d)); (case hy => (with_reducible first | exact rfl | exact epoch_g | exact epoch_h | exact half_f | exact mean_n | exact mean_d)); (case ha => omega); (case hb => omega)); (try dsimp only)))
local macro_rules | `(tactic| walk_at "compareOp NotEq float float") => `(tactic| (k_here; (with_reducible refine' hNe_ff ?hx ?hy ?ha ?hb ?_); k_dflt (skip; (case hx => (with_reducible first | exact rfl | exact epoch_g | exact epoch_h | exact half_f | exact mean_n | exact mean_d)); (case hy => (with_reducible first | exact rfl | exact epoch_g | exact epoch_h | exact half_f | exact mean_n | exact mean_d)); (case ha => omega); (case hb => omega)); (try dsimp only)))
local macro_rules | `(tactic| walk_at "truthy float") => `(tactic| (k_here; (with_reducible refine' hTruthy ?hx ?ha ?_); k_dflt (skip; (case hx => (with_reducible first | exact rfl | exact epoch_g | exact epoch_h | exact half_f | exact mean_n | exact mean_d)); (case ha => omega)); (try dsimp only)))
local macro_rules | `(tactic| walk_at "ite") => `(tactic| (k_here; first | with_reducible refine ite_tt ?_ | with_reducible refine ite_ff ?_ | with_reducible refine split_not ?_ | (with_reducible refine ite_pos (by assumption) ?_) | (with_reducible refine pr_false (by assumption) ?_) | (with_reducible refine pr_decT (by k_dflt omega) ?_) | (with_reducible refine pr_decF (by k_dflt omega) ?_) | (with_reducible refine pr_ieqT (by k_dflt omega) ?_) | (with_reducible refine pr_ieqF (by k_dflt omega) ?_) | (with_reducible refine pr_ineT (by k_dflt omega) ?_) | (with_reducible refine pr_ineF (by k_dflt omega) ?_) | (with_reducible refine split_ine ?_ ?_ <;> intro _) | (with_reducible refine split_ieq ?_ ?_ <;> intro _) | (with_reducible refine PyProof.Rows.split_dec ?_ ?_ <;> intro _) | (with_reducible refine PyProof.Rows.split_bool ?_ ?_ <;> intro _)))
local macro_rules | `(tactic| walk_at "binaryOp Mod int int") => `(tactic| (k_here; (with_reducible refine' hMod_ii ?hb ?_); k_dflt (skip; (case hb => decide)); intro _ _; (try dsimp only)))
local macro_rules | `(tactic| walk_at "call builtin:divmod") => `(tactic| (k_here; (with_reducible refine' hDivmod ?k1 ?k2 ?k3 ?k4 ?_); (k_dflt (skip; (case k1 => k_asm); (case k2 => k_asm); (case k3 => decide); (case k4 => decide))); intro _ _ _; (try dsimp only)))
local macro_rules | `(tactic| walk_at "eval Name") => `(tactic| (k_here; k_dflt (first | (refine' ld ?k1 ?k2 ?_; (case k1 => k_asm); (case k2 => exact rfl); k_whole) | (refine' name_K ?k0 ?k1 ?k2 ?k3 ?_; (case k0 => k_asm); (case k1 => k_asm); (case k2 => k_asm); (case k3 => k_is); k_whole))))
local macro_rules | `(tactic| walk_at "exec If") => `(tactic| ((with_reducible refine wpAny_If ?_); try dsimp only))
local macro_rules | `(tactic| walk_at "execs cons") => `(tactic| ((with_reducible refine wpAny_execs_cons ?_); try dsimp only))
local macro_rules | `(tactic| walk_at "execs nil") => `(tactic| ((with_reducible refine wpAny_execs_nil ?_); try dsimp only))
local macro_rules | `(tactic| walk_at "eval Call") => `(tactic| (k_here; (with_reducible show wpAny _ _ (eval (Expr.Call (Expr.Name _ _) _ [] _) _) _ _ _); k_dflt (refine Call_ ?_)))
local macro_rules | `(tactic| walk_at "storeName") => `(tactic| (k_here; (first | ((with_reducible show wpAny _ _ (storeName _ _ (Value.int _ _)) _ _ _); (fail_if_success (with_reducible refine store_skip (by assumption) ?_)); (with_reducible refine store_gen ?_)) | ((fail_if_success (with_reducible refine store_skipF (by assumption) ?_)); (with_reducible refine store_genF ?_))); intro _ _ _; walk_at "storeName"))
local macro_rules | `(tactic| walk_at "subscriptTail Name BinOp ref int") => `(tactic| (k_here; k_dflt (refine' sizes_N ?N ?m ?i ?h0 ?h1 ?_; (case N => k_asm); (case m => k_mem); (case i => assumption); (case h0 => omega); (case h1 => omega); k_whole); intro _))
local macro_rules | `(tactic| walk_at "subscriptTail Name Name ref int") => `(tactic| (k_here; k_dflt (refine' sizes_N ?N ?m ?i ?h0 ?h1 ?_; (case N => k_asm); (case m => k_mem); (case i => assumption); (case h0 => omega); (case h1 => omega); k_whole); intro _))
local macro_rules | `(tactic| walk_at "call ref") => `(tactic| (k_here; (with_reducible show wpAny _ _ (call (Value.ref 184) [Value.int _ _]) _ _ _); k_dflt (refine' use (c_january _ _ _ _ _ _) ?k1 ?k2 ?k3 ?k4 ?k5 ?kK ?kd ?ku ?_; (case k1 => k_asm); (case k2 => k_asm); (case k3 => k_asm); (case k4 => k_asm); (case k5 => k_asm); (case kK => first | exact rfl | assumption); (case kd => ktr_room); (case ku => ktr_units)); intro t9 h9 tk9 hp9 F9 N9; (try dsimp only); (try k_fold)))
local macro_rules | `(tactic| walk_at "call ref") => `(tactic| (k_here; (with_reducible show wpAny _ _ (call (Value.ref 191) [Value.int _ _]) _ _ _); k_dflt (refine' useS (c_sizes _ _ _ _ _ _) ?k1 ?k2 ?k3 ?k4 ?k5 ?kK ?kd ?ku ?_; (case k1 => k_asm); (case k2 => k_asm); (case k3 => k_asm); (case k4 => k_asm); (case k5 => k_asm); (case kK => first | exact rfl | assumption); (case kd => ktr_room); (case ku => ktr_units)); intro D9 vs9 h9 tk9 hi9 F9 N9 l9; (try dsimp only); (try k_fold)))

theorem c_date (w : World) (mean : ExcName → Option Value) (mg mb : Str → Option Value) (g y m d : Int) (tg tn : Tok) (hm : 1 ≤ m ∧ m ≤ 12) (hd : 1 ≤ d ∧ d ≤ dim y m) (hg : g = y ∨ g = y + 1) :
    ClaimT 4 w mean mg mb 198 [.int g tg, .int (gN y m d) tn] y m d True := by
  w_on
  dsimp only [ClaimT, ClaimTG]
  k_fill
  intros
  rename_i hret
  refine wpAny_call ?_
  k_dflt cell_enter
  have hlt := gN_lt hm hd
  have hday := gN_day y m d
  repeat ((fail_if_success (with_reducible show wpAny _ _ (exec (Stmt.While _ _ _ _) _) _ _ _)); (first | (k_unfold; (try dsimp only)) | (k_end; wrow_close) | walk1 | (dsimp only; walk1) | (leave1; walk_say "STEP leave1"; try dsimp only)))
  refine while1 (x := Str.ofString "year") (fun c => c = y ∨ c = y + 1) (fun c => (c - y).toNat) g (by k_asm) (by k_asm) (by rfl) hg (fun c ta h tk hc F' N' => ?_)
  rcases hc with hc | hc
  · subst c
    (try k_fold)
    repeat ((fail_if_success (with_reducible show wpAny _ _ (exec (Stmt.While _ _ _ _) _) _ _ _)); (first | (k_unfold; (try dsimp only)) | (k_end; wrow_close) | walk1 | (dsimp only; walk1) | (leave1; walk_say "STEP leave1"; try dsimp only)))
    refine while2 (x := Str.ofString "rest") (y := Str.ofString "month") (fun c => gN y m d - gN y (c + 1) 1) (fun c => c) (fun c => 0 ≤ c ∧ c + 1 ≤ m) (fun c => (m - c).toNat) 0 (by k_asm) (by k_asm) (by rfl) (by rfl) (by show _ = gN y m d - gN y 1 1; omega) (by omega) (by omega) (fun c ta tb h tk hc F' N' => ?_)
    have hc2 : c + 1 = m ∨ c + 1 < m := by omega
    rcases hc2 with hc2 | hc2
    · subst m
      (try dsimp only at F')
      (try k_fold)
      k_steps
      all_goals (refine ret_tup hret (by k_asm) (by exact cb_dropM (by k_asm)) (by exact allLt_tail (by assumption)) ⟨rfl, rfl, by omega⟩ (by trivial))
    · have hnext := gN_next (y := y) (c := c + 1) (by omega)
      have hup := gN_up (y := y) (c := c + 1) (m := m) (by omega)
      (try dsimp only at F')
      (try k_fold)
      k_steps
      all_goals refine w2_end (c + 1) (by assumption) (by assumption) (by with_unfolding_all rfl) (by with_unfolding_all rfl) (by k_same2) (by (try dsimp only); omega) (by (try dsimp only); omega) (by (try dsimp only); omega) (by (try dsimp only); omega)
  · subst c
    (try k_fold)
    k_steps
    all_goals refine w1_end y (by assumption) (by assumption) (by with_unfolding_all rfl) (by intro z h1; simp only [if_neg h1]) (by omega) (by exact .inl rfl) (by (try dsimp only); omega)
end Mine
namespace Mine
open PySem PySem.W PyProof.Rows PySem.Calls PySem.Spec

local macro_rules | `(tactic| walk_at "binaryOp Add int int") => `(tactic| (k_here; (with_reducible refine' hAdd_ii ?_); k_dflt (skip); intro _ _; (try dsimp only)))
local macro_rules | `(tactic| walk_at "binaryOp Sub int int") => `(tactic| (k_here; (with_reducible refine' hSub_ii ?_); k_dflt (skip); intro _ _; (try dsimp only)))
local macro_rules | `(tactic| walk_at "binaryOp Mult int int") => `(tactic| (k_here; (with_reducible refine' hMul_ii ?ok ?_); k_dflt (skip; (case ok => mul_fits)); intro _ _; (try dsimp only)))
local macro_rules | `(tactic| walk_at "unaryOp USub int") => `(tactic| (k_here; (with_reducible refine' hNeg_i ?_); k_dflt (skip); intro _ _; (try dsimp only)))
local macro_rules | `(tactic| walk_at "binaryOp Add float int") => `(tactic| (k_here; (with_reducible refine' hAdd_fi0 ?hn ?_); k_dflt (skip; (case hn => omega)); intro _ _; (try dsimp only)))
local macro_rules | `(tactic| walk_at "binaryOp Add float int") => `(tactic| (k_here; (with_reducible refine' hAdd_fi ?hx ?ha ?hn ?_); k_dflt (skip; (case hx => (with_reducible first | exact rfl | exact epoch_g | exact epoch_h | exact half_f | exact mean_n | exact mean_d)); (case ha => omega); (case hn => omega)); intro _ _; (try dsimp only)))
local macro_rules | `(tactic| walk_at "binaryOp Add int float") => `(tactic| (k_here; (with_reducible refine' hAdd_if ?hx ?ha ?hn ?_); k_dflt (skip; (case hx => (with_reducible first | exact rfl | exact epoch_g | exact epoch_h | exact half_f | exact mean_n | exact mean_d)); (case ha => omega); (case hn => omega)); intro _ _; (try dsimp only)))
local macro_rules | `(tactic| walk_at "binaryOp Add float float") => `(tactic| (k_here; (with_reducible refine' hAdd_ff ?hx ?hy ?ha ?hb ?_); k_dflt (skip; (case hx => (with_reducible first | exact rfl | exact epoch_g | exact epoch_h | exact half_f | exact mean_n | exact mean_d)); (case hy => (with_reducible first | exact rfl | exact epoch_g | exact epoch_h | exact half_f | exact mean_n | exact mean_d)); (case ha => omega); (case hb => omega)); intro _ _; (try dsimp only)))
local macro_rules | `(tactic| walk_at "binaryOp Sub float int") => `(tactic| (k_here; (with_reducible refine' hSub_fi ?hx ?ha ?hn ?_); k_dflt (skip; (case hx => (with_reducible first | exact rfl | exact epoch_g | exact epoch_h | exact half_f | exact mean_n | exact mean_d)); (case ha => omega); (case hn => omega)); intro _ _; (try dsimp only)))
local macro_rules | `(tactic| walk_at "binaryOp Sub float float") => `(tactic| (k_here; (with_reducible refine' hSub_ff ?hx ?hy ?ha ?hb ?_); k_dflt (skip; (case hx => (with_reducible first | exact rfl | exact epoch_g | exact epoch_h | exact half_f | exact mean_n | exact mean_d)); (case hy => (with_reducible first | exact rfl | exact epoch_g | exact epoch_h | exact half_f | exact mean_n | exact mean_d)); (case ha => omega); (case hb => omega)); intro _ _; (try dsimp only)))
local macro_rules | `(tactic| walk_at "inplaceOp Add float int") => `(tactic| (k_here; (with_reducible refine' hIadd_fi ?hh ?hx ?ha ?hn ?_); k_dflt (skip; (case hh => exact rfl); (case hx => (with_reducible first | exact rfl | exact epoch_g | exact epoch_h | exact half_f | exact mean_n | exact mean_d)); (case ha => omega); (case hn => omega)); intro _ _; (try dsimp only)))
local macro_rules | `(tactic| walk_at "binaryOp Mult float int") => `(tactic| (k_here; (with_reducible refine' hMul_fi ?hx ?h0 ?ha ?hn ?hab ?_); k_dflt (skip; (case hx => (with_reducible first | exact rfl | exact epoch_g | exact epoch_h | exact half_f | exact mean_n | exact mean_d)); (case h0 => decide); (case ha => omega); (case hn => decide); (case hab => omega)); intro _ _; (try dsimp only)))
local macro_rules | `(tactic| walk_at "binaryOp Mult float float") => `(tactic| (k_here; (with_reducible refine' hMul_ff (n := 98496) ?hx ?hy ?h0 ?ha ?hn ?hab ?_); k_dflt (skip; (case hx => (with_reducible first | exact rfl | exact epoch_g | exact epoch_h | exact half_f | exact mean_n | exact mean_d)); (case hy => (with_reducible exact mean_n2)); (case h0 => decide); (case ha => omega); (case hn => decide); (case hab => omega)); intro _ _; (try dsimp only)))
local macro_rules | `(tactic| walk_at "binaryOp Div int int") => `(tactic| (k_here; (with_reducible refine' hDiv_ii ?hh ?ha ?hb ?_); k_dflt (skip; (case hh => exact rfl); (case ha => omega); (case hb => decide)); intro _ _; (try dsimp only)))
local macro_rules | `(tactic| walk_at "binaryOp Div float int") => `(tactic| (k_here; (with_reducible refine' hDiv_fi ?hh ?hn ?hb ?_); k_dflt (skip; (case hh => exact rfl); (case hn => decide); (case hb => decide)); intro _ _; (try dsimp only)))
local macro_rules | `(tactic| walk_at "binaryOp Div float float") => `(tactic| (k_here; (with_reducible refine' hDiv_ff ?hh ?hy ?hn ?hb ?_); k_dflt (skip; (case hh => exact rfl); (case hy => (with_reducible first | exact rfl | exact epoch_g | exact epoch_h | exact half_f | exact mean_n | exact mean_d)); (case hn => decide); (case hb => decide)); intro _ _; (try dsimp only)))
local macro_rules | `(tactic| walk_at "binaryOp Mod float int") => `(tactic| (k_here; (with_reducible refine' hMod_fi ?hh ?hx ?h2 ?ha ?h0 ?hn ?_); k_dflt (skip; (case hh => exact rfl); (case hx => (with_reducible first | exact rfl | exact epoch_g | exact epoch_h | exact half_f | exact mean_n | exact mean_d)); (case h2 => omega); (case ha => omega); (case h0 => decide); (case hn => decide)); intro _ _; (try dsimp only)))
local macro_rules | `(tactic| walk_at "call builtin:math.floor") => `(tactic| (k_here; (with_reducible refine' hFloor_fi ?hh ?hx ?ha ?hb ?hb2 ?hq ?_); k_dflt (skip; (case hh => exact rfl); (case hx => (with_reducible first | exact rfl | exact epoch_g | exact epoch_h | exact half_f | exact mean_n | exact mean_d)); (case ha => omega); (case hb => decide); (case hb2 => decide); (case hq => omega)); intro _ _; (try dsimp only)))
local macro_rules | `(tactic| walk_at "call builtin:math.floor") => `(tactic| (k_here; (with_reducible refine' hFloor_ff ?hh ?hx ?hy ?ha ?hb ?hb2 ?hq ?_); k_dflt (skip; (case hh => exact rfl); (case hx => (with_reducible first | exact rfl | exact epoch_g | exact epoch_h | exact half_f | exact mean_n | exact mean_d)); (case hy => (with_reducible first | exact rfl | exact epoch_g | exact epoch_h | exact half_f | exact mean_n | exact mean_d)); (case ha => omega); (case hb => decide); (case hb2 => decide); (case hq => omega)); intro _ _; (try dsimp only)))
local macro_rules | `(tactic| walk_at "call builtin:math.floor") => `(tactic| (k_here; (with_reducible refine' hFloor ?hh ?hx ?ha ?_); k_dflt (skip; (case hh => exact rfl); (case hx => (with_reducible first | exact rfl | exact epoch_g | exact epoch_h | exact half_f | exact mean_n | exact mean_d)); (case ha => omega)); intro _ _; (try dsimp only)))
local macro_rules | `(tactic| walk_at "call builtin:math.floor") => `(tactic| (k_here; (with_reducible refine' hFloor_ii ?hh ?hb ?hb2 ?hq ?_); k_dflt (skip; (case hh => exact rfl); (case hb => decide); (case hb2 => decide); (case hq => omega)); intro _ _; (try dsimp only)))
local macro_rules | `(tactic| walk_at "call builtin:math.floor") => `(tactic| (k_here; (with_reducible refine' hFloor_mo ?hh ?hm ?hd ?hl ?_); k_dflt (skip; (case hh => exact rfl); (case hm => omega); (case hd => omega); (case hl => omega)); intro _ _; (try dsimp only)))
local macro_rules | `(tactic| walk_at "call type:int") => `(tactic| (k_here; (with_reducible refine' hInt ?hh ?hx ?ha ?_); k_dflt (skip; (case hh => exact rfl); (case hx => (with_reducible first | exact rfl | exact epoch_g | exact epoch_h | exact half_f | exact mean_n | exact mean_d)); (case ha => omega)); intro _ _ _ _; (try dsimp only)))
local macro_rules | `(tactic| walk_at "call type:int") => `(tactic| (k_here; (with_reducible refine' hInt_pos ?hh ?hx ?h0 ?ha ?_); k_dflt (skip; (case hh => exact rfl); (case hx => (with_reducible first | exact rfl | exact epoch_g | exact epoch_h | exact half_f | exact mean_n | exact mean_d)); (case h0 => omega); (case ha => omega)); intro _ _; (try dsimp only)))
local macro_rules | `(tactic| walk_at "compareOp Lt float int") => `(tactic| (k_here; (with_reducible refine' hLt_fi ?hx ?ha ?_); k_dflt (skip; (case hx => (with_reducible first | exact rfl | exact epoch_g | exact epoch_h | exact half_f | exact mean_n | exact mean_d)); (case ha => omega)); (try dsimp only)))
local macro_rules | `(tactic| walk_at "compareOp NotEq float int") => `(tactic| (k_here; (with_reducible refine' hNe_fi ?hx ?ha ?_); k_dflt (skip; (case hx => (with_reducible first | exact rfl | exact epoch_g | exact epoch_h | exact half_f | exact mean_n | exact mean_d)); (case ha => omega)); (try dsimp only)))
local macro_rules | `(tactic| walk_at "compareOp Eq float int") => `(tactic| (k_here; (with_reducible refine' hEq_fi ?hx ?ha ?_); k_dflt (skip; (case hx => (with_reducible first | exact rfl | exact epoch_g | exact epoch_h | exact half_f | exact mean_n | exact mean_d)); (case ha => omega)); (try dsimp only)))
local macro_rules | `(tactic| walk_at "compareOp Lt float float") => `(tactic| (k_here; (with_reducible refine' hLt_ff ?hx ?hy ?ha ?hb ?_); k_dflt (skip; (case hx => (with_reducible first | exact rfl | exact epoch_g | exact epoch_h | exact half_f | exact mean_n | exact mean_d)); (case hy => (with_reducible first | exact rfl | exact epoch_g | exact epoch_h | exact half_f | exact mean_n | exact mean_d)); (case ha => omega); (case hb => omega)); (try dsimp only)))
local macro_rules | `(tactic| walk_at "compareOp Gt float float") => `(tactic| (k_here; (with_reducible refine' hGt_ff ?hx ?hy ?ha ?hb ?_); k_dflt (skip; (case hx => (with_reducible first | exact rfl | exact epoch_g | exact epoch_h | exact half_f | exact mean_n | exact mean_d)); (case hy => (with_reducible first | exact rfl | exact epoch_g | exact epoch_h | exact half_f | exact mean_n | exact mean_d)); (case ha => omega); (case hb => omega)); (try dsimp only)))
local macro_rules | `(tactic| walk_at "compareOp GtE float float") => `(tactic| (k_here; (with_reducible refine' hGe_ff ?hx ?hy ?ha ?hb ?_); k_dflt (skip; (case hx => (with_reducible first | exact rfl | exact epoch_g | exact epoch_h | exact half_f | exact mean_n | exact mean_d)); (case hy => (with_reducible first | exact rfl | exact epoch_g | exact epoch_h | exact half_f | exact mean_n | exact mean_d)); (case ha => omega); (case hb => omega)); (try dsimp only)))
local macro_rules | `(tactic| walk_at "compareOp Eq float float") => `(tactic| (k_here; (with_reducible refine' hEq_ff ?hx ?hy ?ha ?hb ?_); k_dflt (skip; (case hx => (with_reducible first | exact rfl | exact epoch_g | exact epoch_h | exact half_f | exact mean_n | exact mean_d)); (case hy => (with_reducible first | exact rfl | exact epoch_g | exact epoch_h | exact half_f | exact mean_n | exact mean_d)); (case ha => omega); (case hb => omega)); (try dsimp only)))
local macro_rules | `(tactic| walk_at "compareOp NotEq float float") => `(tactic| (k_here; (with_reducible refine' hNe_ff ?hx ?hy ?ha ?hb ?_); k_dflt (skip; (case hx => (with_reducible first | exact rfl | exact epoch_g | exact epoch_h | exact half_f | exact mean_n | exact mean_d)); (case hy => (with_reducible first | exact rfl | exact epoch_g | exact epoch_h | exact half_f | exact mean_n | exact mean_d)); (case ha => omega); (case hb => omega)); (try dsimp only)))
local macro_rules | `(tactic| walk_at "truthy float") => `(tactic| (k_here; (with_reducible refine' hTruthy ?hx ?ha ?_); k_dflt (skip; (case hx => (with_reducible first | exact rfl | exact epoch_g | exact epoch_h | exact half_f | exact mean_n | exact mean_d)); (case ha => omega)); (try dsimp only)))
local macro_rules | `(tactic| walk_at "ite") => `(tactic| (k_here; first | with_reducible refine ite_tt ?_ | with_reducible refine ite_ff ?_ | with_reducible refine split_not ?_ | (with_reducible refine ite_pos (by assumption) ?_) | (with_reducible refine pr_false (by assumption) ?_) | (with_reducible refine pr_decT (by k_dflt omega) ?_) | (with_reducible refine pr_decF (by k_dflt omega) ?_) | (with_reducible refine pr_ieqT (by k_dflt omega) ?_) | (with_reducible refine pr_ieqF (by k_dflt omega) ?_) | (with_reducible refine pr_ineT (by k_dflt omega) ?_) | (with_reducible refine pr_ineF (by k_dflt omega) ?_) | (with_reducible refine split_ine ?_ ?_ <;> intro _) | (with_reducible refine split_ieq ?_ ?_ <;> intro _) | (with_reducible refine PyProof.Rows.split_dec ?_ ?_ <;> intro _) | (with_reducible refine PyProof.Rows.split_bool ?_ ?_ <;> intro _)))
local macro_rules | `(tactic| walk_at "binaryOp Mod int int") => `(tactic| (k_here; (with_reducible refine' hMod_ii ?hb ?_); k_dflt (skip; (case hb => decide)); intro _ _; (try dsimp only)))
local macro_rules | `(tactic| walk_at "call builtin:divmod") => `(tactic| (k_here; (with_reducible refine' hDivmod ?k1 ?k2 ?k3 ?k4 ?_); (k_dflt (skip; (case k1 => k_asm); (case k2 => k_asm); (case k3 => decide); (case k4 => decide))); intro _ _ _; (try dsimp only)))
local macro_rules | `(tactic| walk_at "eval Name") => `(tactic| (k_here; k_dflt (first | (refine' ld ?k1 ?k2 ?_; (case k1 => k_asm); (case k2 => exact rfl); k_whole) | (refine' name_K ?k0 ?k1 ?k2 ?k3 ?_; (case k0 => k_asm); (case k1 => k_asm); (case k2 => k_asm); (case k3 => k_is); k_whole))))
local macro_rules | `(tactic| walk_at "exec If") => `(tactic| ((with_reducible refine wpAny_If ?_); try dsimp only))
local macro_rules | `(tactic| walk_at "execs cons") => `(tactic| ((with_reducible refine wpAny_execs_cons ?_); try dsimp only))
local macro_rules | `(tactic| walk_at "execs nil") => `(tactic| ((with_reducible refine wpAny_execs_nil ?_); try dsimp only))
local macro_rules | `(tactic| walk_at "eval Call") => `(tactic| (k_here; (with_reducible show wpAny _ _ (eval (Expr.Call (Expr.Name _ _) _ [] _) _) _ _ _); k_dflt (refine Call_ ?_)))
local macro_rules | `(tactic| walk_at "storeName") => `(tactic| (k_here; (first | ((with_reducible show wpAny _ _ (storeName _ _ (Value.int _ _)) _ _ _); (fail_if_success (with_reducible refine store_skip (by assumption) ?_)); (with_reducible refine store_gen ?_)) | ((fail_if_success (with_reducible refine store_skipF (by assumption) ?_)); (with_reducible refine store_genF ?_))); intro _ _ _; walk_at "storeName"))
local macro_rules | `(tactic| walk_at "call ref") => `(tactic| (k_here; (with_reducible show wpAny _ _ (call (Value.ref 120) [Value.int _ _, Value.int _ _]) _ _ _); k_dflt (refine' use (c_month_days _ _ _ _ _ _ _ _ ?hy ?hm) ?k1 ?k2 ?k3 ?k4 ?k5 ?kK ?kd ?ku ?_; (case k1 => k_asm); (case k2 => k_asm); (case k3 => k_asm); (case k4 => k_asm); (case k5 => k_asm); (case kK => first | exact rfl | assumption); (case kd => ktr_room); (case ku => ktr_units); (case hy => omega); (case hm => omega)); intro t9 h9 tk9 hp9 F9 N9; (try dsimp only); (try k_fold)))
local macro_rules | `(tactic| walk_at "call ref") => `(tactic| (k_here; (with_reducible show wpAny _ _ (call (Value.ref 127) [Value.int _ _, Value.int _ _, Value.int _ _]) _ _ _); k_dflt (refine' use (c_to_jd _ _ _ _ _ _ _ _ _ _ ?hy ?hm ?hd) ?k1 ?k2 ?k3 ?k4 ?k5 ?kK ?kd ?ku ?_; (case k1 => k_asm); (case k2 => k_asm); (case k3 => k_asm); (case k4 => k_asm); (case k5 => k_asm); (case kK => first | exact rfl | assumption); (case kd => ktr_room); (case ku => ktr_units); (case hy => omega); (case hm => omega); (case hd => omega)); intro t9 h9 tk9 hp9 F9 N9; (try dsimp only); (try k_fold)))
local macro_rules | `(tactic| walk_at "call ref") => `(tactic| (k_here; (with_reducible show wpAny _ _ (call (Value.ref 127) [Value.int _ _, Value.int 7 _, Value.int 1 _]) _ _ _); k_dflt (refine' use (c_tojd7 _ _ _ _ _ _ _ _ _ ?hy ?hd) ?k1 ?k2 ?k3 ?k4 ?k5 ?kK ?kd ?ku ?_; (case k1 => k_asm); (case k2 => k_asm); (case k3 => k_asm); (case k4 => k_asm); (case k5 => k_asm); (case kK => first | exact rfl | assumption); (case kd => ktr_room); (case ku => ktr_units); (case hy => omega); (case hd => omega)); intro t9 h9 tk9 hp9 F9 N9; (try dsimp only); (try k_fold)))

theorem c_hfrom_jd (w : World) (mean : ExcName → Option Value) (mg mb : Str → Option Value) (y m d : Int) (tj : Tok) (hy : -951 ≤ y ∧ y ≤ 24900) (hv : VD y m d) :
    ClaimT 9 w mean mg mb 134 [.float (H (2 * hN y m d - 1)) tj] y m d True := by
  w_on
  dsimp only [ClaimT, ClaimTG]
  k_fill
  intros
  rename_i hret
  refine wpAny_call ?_
  k_dflt cell_enter
  have hmb := mY_bd y
  have hr := hN_range (by omega) hv
  have hTb := T_bd (y := y) (by omega)
  have hTb1 := T_bd (y := y + 1) (by omega)
  have hcb := count_bd hy hr.1 hr.2
  have hv1 := hv.1
  have hv2 := hv.2.1
  repeat ((fail_if_success (with_reducible show wpAny _ _ (exec (Stmt.While _ _ _ _) _) _ _ _)); (first | (k_unfold; (try dsimp only)) | (k_end; wrow_close) | walk1 | (dsimp only; walk1) | (leave1; walk_say "STEP leave1"; try dsimp only)))
  (rename _ = 2 * ((2 * hN y m d - 1) / 2) + 1 => x1)
  replace x1 := x1.trans (show _ = 2 * hN y m d - 1 by omega)
  subst x1
  (rename _ = _ / 71950702 => x2)
  rw [← x2] at hcb
  clear x2
  refine while2 (x := Str.ofString "year") (y := Str.ofString "i") (fun c => c) (fun c => c + 1) (fun c => y - 3 ≤ c ∧ c ≤ y) (fun c => (y - c).toNat) _ (by k_asm) (by k_asm) (by rfl) (by rfl) (by exact rfl) (by (try dsimp only); omega) (by (try dsimp only); omega) (fun c ta tb h tk hc F' N' => ?_)
  have hc2 : c < y ∨ c = y := by omega
  rcases hc2 with hc2 | hc2
  · have hf := fj_1 hy.1 (c := c + 1) (by omega) hr.1
    (try dsimp only at F')
    (try k_fold)
    k_steps
    all_goals refine w2_end (c + 1) (by assumption) (by assumption) (by with_unfolding_all rfl) (by with_unfolding_all rfl) (by k_same2) (by (try dsimp only); omega) (by (try dsimp only); omega) (by (try dsimp only); omega) (by (try dsimp only); omega)
  · subst c
    have hf := fj_2 hy.1 hr.2
    (try dsimp only at F')
    (try k_fold)
    repeat ((fail_if_success (with_reducible show wpAny _ _ (exec (Stmt.If _ _ _ _) _) _ _ _)); (first | (k_unfold; (try dsimp only)) | (k_end; wrow_close) | walk1 | (dsimp only; walk1) | (leave1; walk_say "STEP leave1"; try dsimp only)))
    have hf3 := fj_3 hy.1 hv
    refine cutName (x := Str.ofString "first") (fr m) (by assumption) (by assumption) ?_ (fun t h' tk F' N' => ?_)
    · k_steps
      all_goals exact cut_end (by assumption) (by assumption) (by omega)
    · (try k_fold)
      repeat ((fail_if_success (with_reducible show wpAny _ _ (exec (Stmt.While _ _ _ _) _) _ _ _)); (first | (k_unfold; (try dsimp only)) | (k_end; wrow_close) | walk1 | (dsimp only; walk1) | (leave1; walk_say "STEP leave1"; try dsimp only)))
      refine while2 (x := Str.ofString "month") (y := Str.ofString "i") (fun c => c) (fun c => c) (fun c => fr m ≤ c ∧ c ≤ m) (fun c => (m - c).toNat) _ (by k_asm) (by k_asm) (by rfl) (by rfl) (by exact rfl) (by (try dsimp only); omega) (by (try dsimp only); omega) (fun c ta tb h tk hc F' N' => ?_)
      have hc2 : c < m ∨ c = m := by omega
      rcases hc2 with hc2 | hc2
      · have hf4 := fj_4 hy.1 hv (c := c) (by omega)
        have hMb := ML_bd y c
        (try dsimp only at F')
        (try k_fold)
        k_steps
        all_goals refine w2_end (c + 1) (by assumption) (by assumption) (by with_unfolding_all rfl) (by with_unfolding_all rfl) (by k_same2) (by (try dsimp only); omega) (by (try dsimp only); omega) (by (try dsimp only); omega) (by (try dsimp only); omega)
      · subst c
        have hf5 := fj_5 hy.1 hv
        have hf6 := fj_6 hy.1 hv
        have hMb := ML_bd y m
        have hd1 := hv.2.2.1
        (try dsimp only at F')
        (try k_fold)
        k_steps
        all_goals (refine ret_tup hret (by k_asm) (by k_asm) (by assumption) ⟨rfl, rfl, by omega⟩ (by trivial))
local macro_rules | `(tactic| walk_at "call ref") => `(tactic| (k_here; (with_reducible show wpAny _ _ (call (Value.ref 134) [Value.float _ _]) _ _ _); k_dflt (refine' useT (c_hfrom_jd _ _ _ _ _ _ _ _ ?hy ?hv) ?k1 ?k2 ?k3 ?k4 ?k5 ?kK ?kd ?ku ?_; (case k1 => k_asm); (case k2 => k_asm); (case k3 => k_asm); (case k4 => k_asm); (case k5 => k_asm); (case kK => first | exact rfl | assumption); (case kd => ktr_room); (case ku => ktr_units); (case hy => omega); (case hv => assumption)); intro D9 ta9 tb9 tc9 h9 tk9 hp9 F9 N9 l9; (try dsimp only); (try k_fold)))
end Mine
namespace Mine
open PySem PySem.W PyProof.Rows PySem.Calls PySem.Spec

local macro_rules | `(tactic| walk_at "binaryOp Add int int") => `(tactic| (k_here; (with_reducible refine' hAdd_ii ?_); k_dflt (skip); intro _ _; (try dsimp only)))
local macro_rules | `(tactic| walk_at "binaryOp Sub int int") => `(tactic| (k_here; (with_reducible refine' hSub_ii ?_); k_dflt (skip); intro _ _; (try dsimp only)))
local macro_rules | `(tactic| walk_at "binaryOp Mult int int") => `(tactic| (k_here; (with_reducible refine' hMul_ii ?ok ?_); k_dflt (skip; (case ok => mul_fits)); intro _ _; (try dsimp only)))
local macro_rules | `(tactic| walk_at "unaryOp USub int") => `(tactic| (k_here; (with_reducible refine' hNeg_i ?_); k_dflt (skip); intro _ _; (try dsimp only)))
local macro_rules | `(tactic| walk_at "binaryOp Add float int") => `(tactic| (k_here; (with_reducible refine' hAdd_fi0 ?hn ?_); k_dflt (skip; (case hn => omega)); intro _ _; (try dsimp only)))
local macro_rules | `(tactic| walk_at "binaryOp Add float int") => `(tactic| (k_here; (with_reducible refine' hAdd_fi ?hx ?ha ?hn ?_); k_dflt (skip; (case hx => (with_reducible first | exact rfl | exact epoch_g | exact epoch_h | exact half_f | exact mean_n | exact mean_d)); (case ha => omega); (case hn => omega)); intro _ _; (try dsimp only)))
local macro_rules | `(tactic| walk_at "binaryOp Add int float") => `(tactic| (k_here; (with_reducible refine' hAdd_if ?hx ?ha ?hn ?_); k_dflt (skip; (case hx => (with_reducible first | exact rfl | exact epoch_g | exact epoch_h | exact half_f | exact mean_n | exact mean_d)); (case ha => omega); (case hn => omega)); intro _ _; (try dsimp only)))
local macro_rules | `(tactic| walk_at "binaryOp Add float float") => `(tactic| (k_here; (with_reducible refine' hAdd_ff ?hx ?hy ?ha ?hb ?_); k_dflt (skip; (case hx => (with_reducible first | exact rfl | exact epoch_g | exact epoch_h | exact half_f | exact mean_n | exact mean_d)); (case hy => (with_reducible first | exact rfl | exact epoch_g | exact epoch_h | exact half_f | exact mean_n | exact mean_d)); (case ha => omega); (case hb => omega)); intro _ _; (try dsimp only)))
local macro_rules | `(tactic| walk_at "binaryOp Sub float int") => `(tactic| (k_here; (with_reducible refine' hSub_fi ?hx ?ha ?hn ?_); k_dflt (skip; (case hx => (with_reducible first | exact rfl | exact epoch_g | exact epoch_h | exact half_f | exact mean_n | exact mean_d)); (case ha => omega); (case hn => omega)); intro _ _; (try dsimp only)))
local macro_rules | `(tactic| walk_at "binaryOp Sub float float") => `(tactic| (k_here; (with_reducible refine' hSub_ff ?hx ?hy ?ha ?hb ?_); k_dflt (skip; (case hx => (with_reducible first | exact rfl | exact epoch_g | exact epoch_h | exact half_f | exact mean_n | exact mean_d)); (case hy => (with_reducible first | exact rfl | exact epoch_g | exact epoch_h | exact half_f | exact mean_n | exact mean_d)); (case ha => omega); (case hb => omega)); intro _ _; (try dsimp only)))
local macro_rules | `(tactic| walk_at "inplaceOp Add float int") => `(tactic| (k_here; (with_reducible refine' hIadd_fi ?hh ?hx ?ha ?hn ?_); k_dflt (skip; (case hh => exact rfl); (case hx => (with_reducible first | exact rfl | exact epoch_g | exact epoch_h | exact half_f | exact mean_n | exact mean_d)); (case ha => omega); (case hn => omega)); intro _ _; (try dsimp only)))
local macro_rules | `(tactic| walk_at "binaryOp Mult float int") => `(tactic| (k_here; (with_reducible refine' hMul_fi ?hx ?h0 ?ha ?hn ?hab ?_); k_dflt (skip; (case hx => (with_reducible first | exact rfl | exact epoch_g | exact epoch_h | exact half_f | exact mean_n | exact mean_d)); (case h0 => decide); (case ha => omega); (case hn => decide); (case hab => omega)); intro _ _; (try dsimp only)))
local macro_rules | `(tactic| walk_at "binaryOp Mult float float") => `(tactic| (k_here; (with_reducible refine' hMul_ff (n := 98496) ?hx ?hy ?h0 ?ha ?hn ?hab ?_); k_dflt (skip; (case hx => (with_reducible first | exact rfl | exact epoch_g | exact epoch_h | exact half_f | exact mean_n | exact mean_d)); (case hy => (with_reducible exact mean_n2)); (case h0 => decide); (case ha => omega); (case hn => decide); (case hab => omega)); intro _ _; (try dsimp only)))
local macro_rules | `(tactic| walk_at "binaryOp Div int int") => `(tactic| (k_here; (with_reducible refine' hDiv_ii ?hh ?ha ?hb ?_); k_dflt (skip; (case hh => exact rfl); (case ha => omega); (case hb => decide)); intro _ _; (try dsimp only)))
local macro_rules | `(tactic| walk_at "binaryOp Div float int") => `(tactic| (k_here; (with_reducible refine' hDiv_fi ?hh ?hn ?hb ?_); k_dflt (skip; (case hh => exact rfl); (case hn => decide); (case hb => decide)); intro _ _; (try dsimp only)))
local macro_rules | `(tactic| walk_at "binaryOp Div float float") => `(tactic| (k_here; (with_reducible refine' hDiv_ff ?hh ?hy ?hn ?hb ?_); k_dflt (skip; (case hh => exact rfl); (case hy => (with_reducible first | exact rfl | exact epoch_g | exact epoch_h | exact half_f | exact mean_n | exact mean_d)); (case hn => decide); (case hb => decide)); intro _ _; (try dsimp only)))
local macro_rules | `(tactic| walk_at "binaryOp Mod float int") => `(tactic| (k_here; (with_reducible refine' hMod_fi ?hh ?hx ?h2 ?ha ?h0 ?hn ?_); k_dflt (skip; (case hh => exact rfl); (case hx => (with_reducible first | exact rfl | exact epoch_g | exact epoch_h | exact half_f | exact mean_n | exact mean_d)); (case h2 => omega); (case ha => omega); (case h0 => decide); (case hn => decide)); intro _ _; (try dsimp only)))
local macro_rules | `(tactic| walk_at "call builtin:math.floor") => `(tactic| (k_here; (with_reducible refine' hFloor_fi ?hh ?hx ?ha ?hb ?hb2 ?hq ?_); k_dflt (skip; (case hh => exact rfl); (case hx => (with_reducible first | exact rfl | exact epoch_g | exact epoch_h | exact half_f | exact mean_n | exact mean_d)); (case ha => omega); (case hb => decide); (case hb2 => decide); (case hq => omega)); intro _ _; (try dsimp only)))
local macro_rules | `(tactic| walk_at "call builtin:math.floor") => `(tactic| (k_here; (with_reducible refine' hFloor_ff ?hh ?hx ?hy ?ha ?hb ?hb2 ?hq ?_); k_dflt (skip; (case hh => exact rfl); (case hx => (with_reducible first | exact rfl | exact epoch_g | exact epoch_h | exact half_f | exact mean_n | exact mean_d)); (case hy => (with_reducible first | exact rfl | exact epoch_g | exact epoch_h | exact half_f | exact mean_n | exact mean_d)); (case ha => omega); (case hb => decide); (case hb2 => decide); (case hq => omega)); intro _ _; (try dsimp only)))
local macro_rules | `(tactic| walk_at "call builtin:math.floor") => `(tactic| (k_here; (with_reducible refine' hFloor ?hh ?hx ?ha ?_); k_dflt (skip; (case hh => exact rfl); (case hx => (with_reducible first | exact rfl | exact epoch_g | exact epoch_h | exact half_f | exact mean_n | exact mean_d)); (case ha => omega)); intro _ _; (try dsimp only)))
local macro_rules | `(tactic| walk_at "call builtin:math.floor") => `(tactic| (k_here; (with_reducible refine' hFloor_ii ?hh ?hb ?hb2 ?hq ?_); k_dflt (skip; (case hh => exact rfl); (case hb => decide); (case hb2 => decide); (case hq => omega)); intro _ _; (try dsimp only)))
local macro_rules | `(tactic| walk_at "call builtin:math.floor") => `(tactic| (k_here; (with_reducible refine' hFloor_mo ?hh ?hm ?hd ?hl ?_); k_dflt (skip; (case hh => exact rfl); (case hm => omega); (case hd => omega); (case hl => omega)); intro _ _; (try dsimp only)))
local macro_rules | `(tactic| walk_at "call type:int") => `(tactic| (k_here; (with_reducible refine' hInt ?hh ?hx ?ha ?_); k_dflt (skip; (case hh => exact rfl); (case hx => (with_reducible first | exact rfl | exact epoch_g | exact epoch_h | exact half_f | exact mean_n | exact mean_d)); (case ha => omega)); intro _ _ _ _; (try dsimp only)))
local macro_rules | `(tactic| walk_at "call type:int") => `(tactic| (k_here; (with_reducible refine' hInt_pos ?hh ?hx ?h0 ?ha ?_); k_dflt (skip; (case hh => exact rfl); (case hx => (with_reducible first | exact rfl | exact epoch_g | exact epoch_h | exact half_f | exact mean_n | exact mean_d)); (case h0 => omega); (case ha => omega)); intro _ _; (try dsimp only)))
local macro_rules | `(tactic| walk_at "compareOp Lt float int") => `(tactic| (k_here; (with_reducible refine' hLt_fi ?hx ?ha ?_); k_dflt (skip; (case hx => (with_reducible first | exact rfl | exact epoch_g | exact epoch_h | exact half_f | exact mean_n | exact mean_d)); (case ha => omega)); (try dsimp only)))
local macro_rules | `(tactic| walk_at "compareOp NotEq float int") => `(tactic| (k_here; (with_reducible refine' hNe_fi ?hx ?ha ?_); k_dflt (skip; (case hx => (with_reducible first | exact rfl | exact epoch_g | exact epoch_h | exact half_f | exact mean_n | exact mean_d)); (case ha => omega)); (try dsimp only)))
local macro_rules | `(tactic| walk_at "compareOp Eq float int") => `(tactic| (k_here; (with_reducible refine' hEq_fi ?hx ?ha ?_); k_dflt (skip; (case hx => (with_reducible first | exact rfl | exact epoch_g | exact epoch_h | exact half_f | exact mean_n | exact mean_d)); (case ha => omega)); (try dsimp only)))
local macro_rules | `(tactic| walk_at "compareOp Lt float float") => `(tactic| (k_here; (with_reducible refine' hLt_ff ?hx ?hy ?ha ?hb ?_); k_dflt (skip; (case hx => (with_reducible first | exact rfl | exact epoch_g | exact epoch_h | exact half_f | exact mean_n | exact mean_d)); (case hy => (with_reducible first | exact rfl | exact epoch_g | exact epoch_h | exact half_f | exact mean_n | exact mean_d)); (case ha => omega); (case hb => omega)); (try dsimp only)))
local macro_rules | `(tactic| walk_at "compareOp Gt float float") => `(tactic| (k_here; (with_reducible refine' hGt_ff ?hx ?hy ?ha ?hb ?_); k_dflt (skip; (case hx => (with_reducible first | exact rfl | exact epoch_g | exact epoch_h | exact half_f | exact mean_n | exact mean_d)); (case hy => (with_reducible first | exact rfl | exact epoch_g | exact epoch_h | exact half_f | exact mean_n | exact mean_d)); (case ha => omega); (case hb => omega)); (try dsimp only)))
local macro_rules | `(tactic| walk_at "compareOp GtE float float") => `(tactic| (k_here; (with_reducible refine' hGe_ff ?hx ?hy ?ha ?hb ?_); k_dflt (skip; (case hx => (with_reducible first | exact rfl | exact epoch_g | exact epoch_h | exact half_f | exact mean_n | exact mean_d)); (case hy => (with_reducible first | exact rfl | exact epoch_g | exact epoch_h | exact half_f | exact mean_n | exact mean_d)); (case ha => omega); (case hb => omega)); (try dsimp only)))
local macro_rules | `(tactic| walk_at "compareOp Eq float float") => `(tactic| (k_here; (with_reducible refine' hEq_ff ?hx ?hy ?ha ?hb ?_); k_dflt (skip; (case hx => (with_reducible first | exact rfl | exact epoch_g | exact epoch_h | exact half_f | exact mean_n | exact mean_d)); (case hy => (with_reducible first | exact rfl | exact epoch_g | exact epoch_h | exact half_f | exact mean_n | exact mean_d)); (case ha => omega); (case hb => omega)); (try dsimp only)))
local macro_rules | `(tactic| walk_at "compareOp NotEq float float") => `(tactic| (k_here; (with_reducible refine' hNe_ff ?hx ?hy ?ha ?hb ?_); k_dflt (skip; (case hx => (with_reducible first | exact rfl | exact epoch_g | exact epoch_h | exact half_f | exact mean_n | exact mean_d)); (case hy => (with_reducible first | exact rfl | exact epoch_g | exact epoch_h | exact half_f | exact mean_n | exact mean_d)); (case ha => omega); (case hb => omega)); (try dsimp only)))
local macro_rules | `(tactic| walk_at "truthy float") => `(tactic| (k_here; (with_reducible refine' hTruthy ?hx ?ha ?_); k_dflt (skip; (case hx => (with_reducible first | exact rfl | exact epoch_g | exact epoch_h | exact half_f | exact mean_n | exact mean_d)); (case ha => omega)); (try dsimp only)))
local macro_rules | `(tactic| walk_at "ite") => `(tactic| (k_here; first | with_reducible refine ite_tt ?_ | with_reducible refine ite_ff ?_ | with_reducible refine split_not ?_ | (with_reducible refine ite_pos (by assumption) ?_) | (with_reducible refine pr_false (by assumption) ?_) | (with_reducible refine pr_decT (by k_dflt omega) ?_) | (with_reducible refine pr_decF (by k_dflt omega) ?_) | (with_reducible refine pr_ieqT (by k_dflt omega) ?_) | (with_reducible refine pr_ieqF (by k_dflt omega) ?_) | (with_reducible refine pr_ineT (by k_dflt omega) ?_) | (with_reducible refine pr_ineF (by k_dflt omega) ?_) | (with_reducible refine split_ine ?_ ?_ <;> intro _) | (with_reducible refine split_ieq ?_ ?_ <;> intro _) | (with_reducible refine PyProof.Rows.split_dec ?_ ?_ <;> intro _) | (with_reducible refine PyProof.Rows.split_bool ?_ ?_ <;> intro _)))
local macro_rules | `(tactic| walk_at "binaryOp Mod int int") => `(tactic| (k_here; (with_reducible refine' hMod_ii ?hb ?_); k_dflt (skip; (case hb => decide)); intro _ _; (try dsimp only)))
local macro_rules | `(tactic| walk_at "call builtin:divmod") => `(tactic| (k_here; (with_reducible refine' hDivmod ?k1 ?k2 ?k3 ?k4 ?_); (k_dflt (skip; (case k1 => k_asm); (case k2 => k_asm); (case k3 => decide); (case k4 => decide))); intro _ _ _; (try dsimp only)))
local macro_rules | `(tactic| walk_at "eval Name") => `(tactic| (k_here; k_dflt (first | (refine' ld ?k1 ?k2 ?_; (case k1 => k_asm); (case k2 => exact rfl); k_whole) | (refine' name_K ?k0 ?k1 ?k2 ?k3 ?_; (case k0 => k_asm); (case k1 => k_asm); (case k2 => k_asm); (case k3 => k_is); k_whole))))
local macro_rules | `(tactic| walk_at "exec If") => `(tactic| ((with_reducible refine wpAny_If ?_); try dsimp only))
local macro_rules | `(tactic| walk_at "execs cons") => `(tactic| ((with_reducible refine wpAny_execs_cons ?_); try dsimp only))
local macro_rules | `(tactic| walk_at "execs nil") => `(tactic| ((with_reducible refine wpAny_execs_nil ?_); try dsimp only))
local macro_rules | `(tactic| walk_at "eval Call") => `(tactic| (k_here; (with_reducible show wpAny _ _ (eval (Expr.Call (Expr.Name _ _) _ [] _) _) _ _ _); k_dflt (refine Call_ ?_)))
local macro_rules | `(tactic| walk_at "compareOp In int ref") => `(tactic| (k_here; k_dflt (refine' hIn_K ?F ?X ?l ?i ?_; (case F => k_asm); (case X => k_asm); (case l => k_is); (case i => repeat constructor); k_whole)))
local macro_rules | `(tactic| walk_at "compareOp In int ref") => `(tactic| (k_here; k_dflt (refine' in_tuple_ints (News.isTup ?N ?b) ?i ?_; (case N => k_asm); (case b => k_mem); (case i => repeat constructor); k_whole)))
local macro_rules | `(tactic| walk_at "storeName") => `(tactic| (k_here; (first | ((with_reducible show wpAny _ _ (storeName _ _ (Value.int _ _)) _ _ _); (fail_if_success (with_reducible refine store_skip (by assumption) ?_)); (with_reducible refine store_gen ?_)) | ((fail_if_success (with_reducible refine store_skipF (by assumption) ?_)); (with_reducible refine store_genF ?_))); intro _ _ _; walk_at "storeName"))
local macro_rules | `(tactic| walk_at "call ref") => `(tactic| (k_here; (with_reducible show wpAny _ _ (call (Value.ref 163) [Value.int _ _]) _ _ _); k_dflt (refine' use (c_thirteen _ _ _ _ _ _) ?k1 ?k2 ?k3 ?k4 ?k5 ?kK ?kd ?ku ?_; (case k1 => k_asm); (case k2 => k_asm); (case k3 => k_asm); (case k4 => k_asm); (case k5 => k_asm); (case kK => first | exact rfl | assumption); (case kd => ktr_room); (case ku => ktr_units)); intro t9 h9 tk9 hp9 F9 N9; (try dsimp only); (try k_fold)))
local macro_rules | `(tactic| walk_at "call ref") => `(tactic| (k_here; (with_reducible show wpAny _ _ (call (Value.ref 170) [Value.int _ _]) _ _ _); k_dflt (refine' use (c_tishri _ _ _ _ _ _ ?hy) ?k1 ?k2 ?k3 ?k4 ?k5 ?kK ?kd ?ku ?_; (case k1 => k_asm); (case k2 => k_asm); (case k3 => k_asm); (case k4 => k_asm); (case k5 => k_asm); (case kK => first | exact rfl | assumption); (case kd => ktr_room); (case ku => ktr_units); (case hy => omega)); intro t9 h9 tk9 hp9 F9 N9; (try dsimp only); (try k_fold)))

/-- what the law's day gives back -/
def dayV (y m d : Int) (t : Tok) : Value := if m ≤ mY y ∧ d ≤ ML y m then .int (hN y m d) t else .none
theorem ret_day1 {h₀ h' : Heap} {L : Addr} {m₀ : Str → Option Value} {news : List (Addr × Obj)} {s : Shared} {Q : Value → Shared → Prop} {tk' : Nat} {y m d v : Int} {t : Tok} (hret : Ret h₀ L m₀ news s Q (dayV y m d) True) (F : Fr h₀ L h' m₀) (N : News h₀ L h' news) (hv : m ≤ mY y ∧ d ≤ ML y m) (e : v = hN y m d) : Q (.int v t) { s with heap := h', toks := tk' } := by
  have := hret t h' tk' trivial F N
  unfold dayV at this
  rw [if_pos hv] at this
  rw [e]
  exact this
theorem ret_day0 {h₀ h' : Heap} {L : Addr} {m₀ : Str → Option Value} {news : List (Addr × Obj)} {s : Shared} {Q : Value → Shared → Prop} {tk' : Nat} {y m d : Int} (hret : Ret h₀ L m₀ news s Q (dayV y m d) True) (F : Fr h₀ L h' m₀) (N : News h₀ L h' news) (hv : ¬ (m ≤ mY y ∧ d ≤ ML y m)) : Q .none { s with heap := h', toks := tk' } := by
  have := hret 0 h' tk' trivial F N
  unfold dayV at this
  rw [if_neg hv] at this
  exact this
theorem rowsJ_end {y m d v : Int} {m₀ m₁ : Str → Option Value} {i : Nat} {t : Tok} (h1 : m₁ (Str.ofString "number") = some (.int v t)) (e : v = T y + rowSum y (i + 1)) (h2 : ∀ q, q ≠ Str.ofString "number" → q ≠ Str.ofString "own" → q ≠ Str.ofString "size" → m₁ q = m₀ q) (h3 : ¬ (m ≤ mY y ∧ d ≤ ML y m) ∨ ((i + 1 : Nat) : Int) ≤ rowIx y m) : RowsJ y m d m₀ (i + 1) m₁ := by
  subst e
  exact ⟨⟨t, h1⟩, h2, h3⟩

local macro_rules | `(tactic| walk_at "InvEnd") => `(tactic| (refine InvEnd.intro (by assumption) (by assumption) (fun _ hp => hp) (rowsJ_end (by with_unfolding_all rfl) (by omega) (by intro q h1 h2 h3; first | rfl | (simp [h1, h2, h3]; done)) (by omega))))
theorem c_day (w : World) (mean : ExcName → Option Value) (mg mb : Str → Option Value) (y m d : Int) (ty tm td : Tok) (hy : -952 ≤ y ∧ y ≤ 24900) (hm : 1 ≤ m ∧ m ≤ 13) (hd : 1 ≤ d ∧ d ≤ 30) :
    Claim 4 w mean mg mb 177 [.int y ty, .int m tm, .int d td] (dayV y m d) True := by
  w_on
  dsimp only [Claim, ClaimG]
  k_fill
  intros
  rename_i hret
  refine wpAny_call ?_
  k_dflt cell_enter
  have hmb := mY_bd y
  repeat ((fail_if_success (with_reducible show wpAny _ _ (eval (Expr.IfExp _ _ _ _) _) _ _ _)); (first | (k_unfold; (try dsimp only)) | (k_end; wrow_close) | walk1 | (dsimp only; walk1) | (leave1; walk_say "STEP leave1"; try dsimp only)))
  (rename _ = TL y => x1)
  rw [TL_eq] at x1
  subst x1
  (rename _ = TL (y + 1) - _ => x2)
  rw [TL_eq] at x2
  refine cutEval (ML y 8) (by k_asm) (by k_asm) ?_ (fun t h' tk F' N' => ?_)
  · k_steps
    all_goals refine cutv_end (by k_asm) (by first | k_asm | exact cb_drop (by assumption) (by kcj_all)) ?_
    all_goals first | exact rows8a hy.1 x2 (by assumption) | exact rows8b hy.1 x2 (by assumption)
  · (try k_fold)
    repeat ((fail_if_success (with_reducible show wpAny _ _ (eval (Expr.IfExp _ _ _ _) _) _ _ _)); (first | (k_unfold; (try dsimp only)) | (k_end; wrow_close) | walk1 | (dsimp only; walk1) | (leave1; walk_say "STEP leave1"; try dsimp only)))
    refine cutEval (ML y 9) (by k_asm) (by k_asm) ?_ (fun t h' tk F' N' => ?_)
    · k_steps
      all_goals refine cutv_end (by k_asm) (by first | k_asm | exact cb_drop (by assumption) (by kcj_all)) ?_
      all_goals first | exact rows9a hy.1 x2 (by assumption) | exact rows9b hy.1 x2 (by assumption)
    · (try k_fold)
      repeat' ((fail_if_success (with_reducible show wpAny _ _ (exec (Stmt.For _ _ _ _ _) _) _ _ _)); (first | (k_unfold; (try dsimp only)) | (k_end; wrow_close) | walk1 | (dsimp only; walk1) | (leave1; walk_say "STEP leave1"; try dsimp only)))
      all_goals (with_unfolding_all refine For_turns (by k_asm) ?_)
      all_goals (repeat ((fail_if_success (with_reducible show wpAny _ _ (pyIter _) _ _ _)); (first | (k_unfold; (try dsimp only)) | (k_end; wrow_close) | walk1 | (dsimp only; walk1) | (leave1; walk_say "STEP leave1"; try dsimp only))))
      all_goals ((rename News _ _ _ _ => N1); (try dsimp only at N1))
      all_goals (with_unfolding_all refine iter_rows (d := d) hret hy.1 hm (by rfl) (by k_asm) (by k_asm) (by intro p hp; repeat (first | exact hp | with_reducible refine List.mem_cons_of_mem _ ?_)) (by k_mem) (by rfl) (by rfl) ?_ (by rfl) (fun i D t1 t2 o z u1 u2 t h tk need hB hD hR hK F' N' => ?_) (fun u h tk hK F' N' => ?_))
      · (refine PairsAre.cast (rows_leap (by assumption)) ?_; repeat (first | exact PairsAre.nil | (refine PairsAre.cons (by repeat (first | (with_reducible exact List.mem_cons_self ..) | (with_reducible refine List.mem_cons_of_mem _ ?_))) ?_)))
      · (have hT := News.isTup N' hD
         (try dsimp only)
         (try k_fold)
         k_steps
         all_goals (refine ret_day1 hret (by k_asm) (fun p hp => (by assumption : News _ _ _ need) p (hB p hp)) ⟨by omega, by omega⟩ ?_; unfold hN; omega))
      · ((try dsimp only)
         (try k_fold)
         k_steps
         all_goals refine ret_day0 hret (by k_asm) (by k_asm) hK)
      · (refine PairsAre.cast (rows_plain (by assumption)) ?_; repeat (first | exact PairsAre.nil | (refine PairsAre.cons (by repeat (first | (with_reducible exact List.mem_cons_self ..) | (with_reducible refine List.mem_cons_of_mem _ ?_))) ?_)))
      · (have hT := News.isTup N' hD
         (try dsimp only)
         (try k_fold)
         k_steps
         all_goals (refine ret_day1 hret (by k_asm) (fun p hp => (by assumption : News _ _ _ need) p (hB p hp)) ⟨by omega, by omega⟩ ?_; unfold hN; omega))
      · ((try dsimp only)
         (try k_fold)
         k_steps
         all_goals refine ret_day0 hret (by k_asm) (by k_asm) hK)
local macro_rules | `(tactic| walk_at "call ref") => `(tactic| (k_here; (with_reducible show wpAny _ _ (call (Value.ref 177) [Value.int _ _, Value.int _ _, Value.int _ _]) _ _ _); k_dflt (refine' use (c_day _ _ _ _ _ _ _ _ _ _ ?hy ?hm ?hd) ?k1 ?k2 ?k3 ?k4 ?k5 ?kK ?kd ?ku ?_; (case k1 => k_asm); (case k2 => k_asm); (case k3 => k_asm); (case k4 => k_asm); (case k5 => k_asm); (case kK => first | exact rfl | assumption); (case kd => ktr_room); (case ku => ktr_units); (case hy => omega); (case hm => omega); (case hd => omega)); intro t9 h9 tk9 hp9 F9 N9; (try dsimp only); (try k_fold)))
end Mine
namespace Mine
open PySem PySem.W PyProof.Rows PySem.Calls PySem.Spec

theorem c_day_1 (w : World) (mean : ExcName → Option Value) (mg mb : Str → Option Value) (y m d : Int) (ty tm td : Tok) (hv : m ≤ mY y ∧ d ≤ ML y m) (hy : -952 ≤ y ∧ y ≤ 24900) (hm : 1 ≤ m ∧ m ≤ 13) (hd : 1 ≤ d ∧ d ≤ 30) :
    Claim 4 w mean mg mb 177 [.int y ty, .int m tm, .int d td] (fun t => .int (hN y m d) t) True := by
  have e : dayV y m d = fun t => .int (hN y m d) t := by
    funext t
    unfold dayV
    rw [if_pos hv]
  have h := c_day w mean mg mb y m d ty tm td hy hm hd
  rw [e] at h
  exact h
theorem c_day_0 (w : World) (mean : ExcName → Option Value) (mg mb : Str → Option Value) (y m d : Int) (ty tm td : Tok) (hv : ¬ (m ≤ mY y ∧ d ≤ ML y m)) (hy : -952 ≤ y ∧ y ≤ 24900) (hm : 1 ≤ m ∧ m ≤ 13) (hd : 1 ≤ d ∧ d ≤ 30) :
    Claim 4 w mean mg mb 177 [.int y ty, .int m tm, .int d td] (fun _ => .none) True := by
  have e : dayV y m d = fun _ => .none := by
    funext t
    unfold dayV
    rw [if_neg hv]
  have h := c_day w mean mg mb y m d ty tm td hy hm hd
  rw [e] at h
  exact h
theorem c_gfrom2 (w : World) (mean : ExcName → Option Value) (mg mb : Str → Option Value) (v y m d : Int) (tj : Tok) (hv : v = 2 * gN y m d - 1) (hy : -5000 ≤ y ∧ y ≤ 25000) (hm : 1 ≤ m ∧ m ≤ 12) (hd : 1 ≤ d ∧ d ≤ dim y m) :
    ClaimT 4 w mean mg mb 71 [.float (H v) tj] y m d True := by
  subst hv
  exact c_gfrom_jd w mean mg mb y m d tj hy hm hd
theorem c_hfrom2 (w : World) (mean : ExcName → Option Value) (mg mb : Str → Option Value) (v y m d : Int) (tj : Tok) (hv : v = 2 * hN y m d - 1) (hy : -951 ≤ y ∧ y ≤ 24900) (hd : VD y m d) :
    ClaimT 9 w mean mg mb 134 [.float (H v) tj] y m d True := by
  subst hv
  exact c_hfrom_jd w mean mg mb y m d tj hy hd
theorem c_date2 (w : World) (mean : ExcName → Option Value) (mg mb : Str → Option Value) (g v y m d : Int) (tg tn : Tok) (hv : v = gN y m d) (hm : 1 ≤ m ∧ m ≤ 12) (hd : 1 ≤ d ∧ d ≤ dim y m) (hg : g = y ∨ g = y + 1) :
    ClaimT 4 w mean mg mb 198 [.int g tg, .int v tn] y m d True := by
  subst hv
  exact c_date w mean mg mb g y m d tg tn hm hd hg
theorem dayV_1 {y m d : Int} {t : Tok} (hv : m ≤ mY y ∧ d ≤ ML y m) : dayV y m d t = .int (hN y m d) t := by unfold dayV; rw [if_pos hv]
theorem dayV_0 {y m d : Int} {t : Tok} (hv : ¬ (m ≤ mY y ∧ d ≤ ML y m)) : dayV y m d t = .none := by unfold dayV; rw [if_neg hv]

local macro_rules | `(tactic| walk_at "subscriptTail BinOp Subscript Add List Slice ref ref") => `(tactic| (k_here; k_dflt (refine kba_turn (value' := PySem.Expr.Name (PySem.Str.ofString "_") ⟨0, 0, 0, 0⟩) (fun _ => rfl) ?_)))
local macro_rules | `(tactic| walk_at "binaryOp Add int int") => `(tactic| (k_here; (with_reducible refine' hAdd_ii ?_); k_dflt (skip); intro _ _; (try dsimp only)))
local macro_rules | `(tactic| walk_at "binaryOp Sub int int") => `(tactic| (k_here; (with_reducible refine' hSub_ii ?_); k_dflt (skip); intro _ _; (try dsimp only)))
local macro_rules | `(tactic| walk_at "binaryOp Mult int int") => `(tactic| (k_here; (with_reducible refine' hMul_ii ?ok ?_); k_dflt (skip; (case ok => mul_fits)); intro _ _; (try dsimp only)))
local macro_rules | `(tactic| walk_at "unaryOp USub int") => `(tactic| (k_here; (with_reducible refine' hNeg_i ?_); k_dflt (skip); intro _ _; (try dsimp only)))
local macro_rules | `(tactic| walk_at "binaryOp Add float int") => `(tactic| (k_here; (with_reducible refine' hAdd_fi0 ?hn ?_); k_dflt (skip; (case hn => omega)); intro _ _; (try dsimp only)))
local macro_rules | `(tactic| walk_at "binaryOp Add float int") => `(tactic| (k_here; (with_reducible refine' hAdd_fi ?hx ?ha ?hn ?_); k_dflt (skip; (case hx => (with_reducible first | exact rfl | exact epoch_g | exact epoch_h | exact half_f | exact mean_n | exact mean_d)); (case ha => omega); (case hn => omega)); intro _ _; (try dsimp only)))
local macro_rules | `(tactic| walk_at "binaryOp Add int float") => `(tactic| (k_here; (with_reducible refine' hAdd_if ?hx ?ha ?hn ?_); k_dflt (skip; (case hx => (with_reducible first | exact rfl | exact epoch_g | exact epoch_h | exact half_f | exact mean_n | exact mean_d)); (case ha => omega); (case hn => omega)); intro _ _; (try dsimp only)))
local macro_rules | `(tactic| walk_at "binaryOp Add float float") => `(tactic| (k_here; (with_reducible refine' hAdd_ff ?hx ?hy ?ha ?hb ?_); k_dflt (skip; (case hx => (with_reducible first | exact rfl | exact epoch_g | exact epoch_h | exact half_f | exact mean_n | exact mean_d)); (case hy => (with_reducible first | exact rfl | exact epoch_g | exact epoch_h | exact half_f | exact mean_n | exact mean_d)); (case ha => omega); (case hb => omega)); intro _ _; (try dsimp only)))
local macro_rules | `(tactic| walk_at "binaryOp Sub float int") => `(tactic| (k_here; (with_reducible refine' hSub_fi ?hx ?ha ?hn ?_); k_dflt (skip; (case hx => (with_reducible first | exact rfl | exact epoch_g | exact epoch_h | exact half_f | exact mean_n | exact mean_d)); (case ha => omega); (case hn => omega)); intro _ _; (try dsimp only)))
local macro_rules | `(tactic| walk_at "binaryOp Sub float float") => `(tactic| (k_here; (with_reducible refine' hSub_ff ?hx ?hy ?ha ?hb ?_); k_dflt (skip; (case hx => (with_reducible first | exact rfl | exact epoch_g | exact epoch_h | exact half_f | exact mean_n | exact mean_d)); (case hy => (with_reducible first | exact rfl | exact epoch_g | exact epoch_h | exact half_f | exact mean_n | exact mean_d)); (case ha => omega); (case hb => omega)); intro _ _; (try dsimp only)))
local macro_rules | `(tactic| walk_at "inplaceOp Add float int") => `(tactic| (k_here; (with_reducible refine' hIadd_fi ?hh ?hx ?ha ?hn ?_); k_dflt (skip; (case hh => exact rfl); (case hx => (with_reducible first | exact rfl | exact epoch_g | exact epoch_h | exact half_f | exact mean_n | exact mean_d)); (case ha => omega); (case hn => omega)); intro _ _; (try dsimp only)))
local macro_rules | `(tactic| walk_at "binaryOp Mult float int") => `(tactic| (k_here; (with_reducible refine' hMul_fi ?hx ?h0 ?ha ?hn ?hab ?_); k_dflt (skip; (case hx => (with_reducible first | exact rfl | exact epoch_g | exact epoch_h | exact half_f | exact mean_n | exact mean_d)); (case h0 => decide); (case ha => omega); (case hn => decide); (case hab => omega)); intro _ _; (try dsimp only)))
local macro_rules | `(tactic| walk_at "binaryOp Mult float float") => `(tactic| (k_here; (with_reducible refine' hMul_ff (n := 98496) ?hx ?hy ?h0 ?ha ?hn ?hab ?_); k_dflt (skip; (case hx => (with_reducible first | exact rfl | exact epoch_g | exact epoch_h | exact half_f | exact mean_n | exact mean_d)); (case hy => (with_reducible exact mean_n2)); (case h0 => decide); (case ha => omega); (case hn => decide); (case hab => omega)); intro _ _; (try dsimp only)))
local macro_rules | `(tactic| walk_at "binaryOp Div int int") => `(tactic| (k_here; (with_reducible refine' hDiv_ii ?hh ?ha ?hb ?_); k_dflt (skip; (case hh => exact rfl); (case ha => omega); (case hb => decide)); intro _ _; (try dsimp only)))
local macro_rules | `(tactic| walk_at "binaryOp Div float int") => `(tactic| (k_here; (with_reducible refine' hDiv_fi ?hh ?hn ?hb ?_); k_dflt (skip; (case hh => exact rfl); (case hn => decide); (case hb => decide)); intro _ _; (try dsimp only)))
local macro_rules | `(tactic| walk_at "binaryOp Div float float") => `(tactic| (k_here; (with_reducible refine' hDiv_ff ?hh ?hy ?hn ?hb ?_); k_dflt (skip; (case hh => exact rfl); (case hy => (with_reducible first | exact rfl | exact epoch_g | exact epoch_h | exact half_f | exact mean_n | exact mean_d)); (case hn => decide); (case hb => decide)); intro _ _; (try dsimp only)))
local macro_rules | `(tactic| walk_at "binaryOp Mod float int") => `(tactic| (k_here; (with_reducible refine' hMod_fi ?hh ?hx ?h2 ?ha ?h0 ?hn ?_); k_dflt (skip; (case hh => exact rfl); (case hx => (with_reducible first | exact rfl | exact epoch_g | exact epoch_h | exact half_f | exact mean_n | exact mean_d)); (case h2 => omega); (case ha => omega); (case h0 => decide); (case hn => decide)); intro _ _; (try dsimp only)))
local macro_rules | `(tactic| walk_at "call builtin:math.floor") => `(tactic| (k_here; (with_reducible refine' hFloor_fi ?hh ?hx ?ha ?hb ?hb2 ?hq ?_); k_dflt (skip; (case hh => exact rfl); (case hx => (with_reducible first | exact rfl | exact epoch_g | exact epoch_h | exact half_f | exact mean_n | exact mean_d)); (case ha => omega); (case hb => decide); (case hb2 => decide); (case hq => omega)); intro _ _; (try dsimp only)))
local macro_rules | `(tactic| walk_at "call builtin:math.floor") => `(tactic| (k_here; (with_reducible refine' hFloor_ff ?hh ?hx ?hy ?ha ?hb ?hb2 ?hq ?_); k_dflt (skip; (case hh => exact rfl); (case hx => (with_reducible first | exact rfl | exact epoch_g | exact epoch_h | exact half_f | exact mean_n | exact mean_d)); (case hy => (with_reducible first | exact rfl | exact epoch_g | exact epoch_h | exact half_f | exact mean_n | exact mean_d)); (case ha => omega); (case hb => decide); (case hb2 => decide); (case hq => omega)); intro _ _; (try dsimp only)))
local macro_rules | `(tactic| walk_at "call builtin:math.floor") => `(tactic| (k_here; (with_reducible refine' hFloor ?hh ?hx ?ha ?_); k_dflt (skip; (case hh => exact rfl); (case hx => (with_reducible first | exact rfl | exact epoch_g | exact epoch_h | exact half_f | exact mean_n | exact mean_d)); (case ha => omega)); intro _ _; (try dsimp only)))
local macro_rules | `(tactic| walk_at "call builtin:math.floor") => `(tactic| (k_here; (with_reducible refine' hFloor_ii ?hh ?hb ?hb2 ?hq ?_); k_dflt (skip; (case hh => exact rfl); (case hb => decide); (case hb2 => decide); (case hq => omega)); intro _ _; (try dsimp only)))
local macro_rules | `(tactic| walk_at "call builtin:math.floor") => `(tactic| (k_here; (with_reducible refine' hFloor_mo ?hh ?hm ?hd ?hl ?_); k_dflt (skip; (case hh => exact rfl); (case hm => omega); (case hd => omega); (case hl => omega)); intro _ _; (try dsimp only)))
local macro_rules | `(tactic| walk_at "call type:int") => `(tactic| (k_here; (with_reducible refine' hInt ?hh ?hx ?ha ?_); k_dflt (skip; (case hh => exact rfl); (case hx => (with_reducible first | exact rfl | exact epoch_g | exact epoch_h | exact half_f | exact mean_n | exact mean_d)); (case ha => omega)); intro _ _ _ _; (try dsimp only)))
local macro_rules | `(tactic| walk_at "call type:int") => `(tactic| (k_here; (with_reducible refine' hInt_pos ?hh ?hx ?h0 ?ha ?_); k_dflt (skip; (case hh => exact rfl); (case hx => (with_reducible first | exact rfl | exact epoch_g | exact epoch_h | exact half_f | exact mean_n | exact mean_d)); (case h0 => omega); (case ha => omega)); intro _ _; (try dsimp only)))
local macro_rules | `(tactic| walk_at "compareOp Lt float int") => `(tactic| (k_here; (with_reducible refine' hLt_fi ?hx ?ha ?_); k_dflt (skip; (case hx => (with_reducible first | exact rfl | exact epoch_g | exact epoch_h | exact half_f | exact mean_n | exact mean_d)); (case ha => omega)); (try dsimp only)))
local macro_rules | `(tactic| walk_at "compareOp NotEq float int") => `(tactic| (k_here; (with_reducible refine' hNe_fi ?hx ?ha ?_); k_dflt (skip; (case hx => (with_reducible first | exact rfl | exact epoch_g | exact epoch_h | exact half_f | exact mean_n | exact mean_d)); (case ha => omega)); (try dsimp only)))
local macro_rules | `(tactic| walk_at "compareOp Eq float int") => `(tactic| (k_here; (with_reducible refine' hEq_fi ?hx ?ha ?_); k_dflt (skip; (case hx => (with_reducible first | exact rfl | exact epoch_g | exact epoch_h | exact half_f | exact mean_n | exact mean_d)); (case ha => omega)); (try dsimp only)))
local macro_rules | `(tactic| walk_at "compareOp Lt float float") => `(tactic| (k_here; (with_reducible refine' hLt_ff ?hx ?hy ?ha ?hb ?_); k_dflt (skip; (case hx => (with_reducible first | exact rfl | exact epoch_g | exact epoch_h | exact half_f | exact mean_n | exact mean_d)); (case hy => (with_reducible first | exact rfl | exact epoch_g | exact epoch_h | exact half_f | exact mean_n | exact mean_d)); (case ha => omega); (case hb => omega)); (try dsimp only)))
local macro_rules | `(tactic| walk_at "compareOp Gt float float") => `(tactic| (k_here; (with_reducible refine' hGt_ff ?hx ?hy ?ha ?hb ?_); k_dflt (skip; (case hx => (with_reducible first | exact rfl | exact epoch_g | exact epoch_h | exact half_f | exact mean_n | exact mean_d)); (case hy => (with_reducible first | exact rfl | exact epoch_g | exact epoch_h | exact half_f | exact mean_n | exact mean_d)); (case ha => omega); (case hb => omega)); (try dsimp only)))
local macro_rules | `(tactic| walk_at "compareOp GtE float float") => `(tactic| (k_here; (with_reducible refine' hGe_ff ?hx ?hy ?ha ?hb ?_); k_dflt (skip; (case hx => (with_reducible first | exact rfl | exact epoch_g | exact epoch_h | exact half_f | exact mean_n | exact mean_d)); (case hy => (with_reducible first | exact rfl | exact epoch_g | exact epoch_h | exact half_f | exact mean_n | exact mean_d)); (case ha => omega); (case hb => omega)); (try dsimp only)))
local macro_rules | `(tactic| walk_at "compareOp Eq float float") => `(tactic| (k_here; (with_reducible refine' hEq_ff ?hx ?hy ?ha ?hb ?_); k_dflt (skip; (case hx => (with_reducible first | exact rfl | exact epoch_g | exact epoch_h | exact half_f | exact mean_n | exact mean_d)); (case hy => (with_reducible first | exact rfl | exact epoch_g | exact epoch_h | exact half_f | exact mean_n | exact mean_d)); (case ha => omega); (case hb => omega)); (try dsimp only)))
local macro_rules | `(tactic| walk_at "compareOp NotEq float float") => `(tactic| (k_here; (with_reducible refine' hNe_ff ?hx ?hy ?ha ?hb ?_); k_dflt (skip; (case hx => (with_reducible first | exact rfl | exact epoch_g | exact epoch_h | exact half_f | exact mean_n | exact mean_d)); (case hy => (with_reducible first | exact rfl | exact epoch_g | exact epoch_h | exact half_f | exact mean_n | exact mean_d)); (case ha => omega); (case hb => omega)); (try dsimp only)))
local macro_rules | `(tactic| walk_at "truthy float") => `(tactic| (k_here; (with_reducible refine' hTruthy ?hx ?ha ?_); k_dflt (skip; (case hx => (with_reducible first | exact rfl | exact epoch_g | exact epoch_h | exact half_f | exact mean_n | exact mean_d)); (case ha => omega)); (try dsimp only)))
local macro_rules | `(tactic| walk_at "ite") => `(tactic| (k_here; first | with_reducible refine ite_tt ?_ | with_reducible refine ite_ff ?_ | with_reducible refine split_not ?_ | (with_reducible refine ite_pos (by assumption) ?_) | (with_reducible refine pr_false (by assumption) ?_) | (with_reducible refine pr_decT (by k_dflt omega) ?_) | (with_reducible refine pr_decF (by k_dflt omega) ?_) | (with_reducible refine pr_ieqT (by k_dflt omega) ?_) | (with_reducible refine pr_ieqF (by k_dflt omega) ?_) | (with_reducible refine pr_ineT (by k_dflt omega) ?_) | (with_reducible refine pr_ineF (by k_dflt omega) ?_) | (with_reducible refine split_ine ?_ ?_ <;> intro _) | (with_reducible refine split_ieq ?_ ?_ <;> intro _) | (with_reducible refine PyProof.Rows.split_dec ?_ ?_ <;> intro _) | (with_reducible refine PyProof.Rows.split_bool ?_ ?_ <;> intro _)))
local macro_rules | `(tactic| walk_at "binaryOp Mod int int") => `(tactic| (k_here; (with_reducible refine' hMod_ii ?hb ?_); k_dflt (skip; (case hb => decide)); intro _ _; (try dsimp only)))
local macro_rules | `(tactic| walk_at "call builtin:divmod") => `(tactic| (k_here; (with_reducible refine' hDivmod ?k1 ?k2 ?k3 ?k4 ?_); (k_dflt (skip; (case k1 => k_asm); (case k2 => k_asm); (case k3 => decide); (case k4 => decide))); intro _ _ _; (try dsimp only)))
local macro_rules | `(tactic| walk_at "eval Name") => `(tactic| (k_here; k_dflt (first | (refine' ld ?k1 ?k2 ?_; (case k1 => k_asm); (case k2 => exact rfl); k_whole) | (refine' name_K ?k0 ?k1 ?k2 ?k3 ?_; (case k0 => k_asm); (case k1 => k_asm); (case k2 => k_asm); (case k3 => k_is); k_whole))))
local macro_rules | `(tactic| walk_at "exec If") => `(tactic| ((with_reducible refine wpAny_If ?_); try dsimp only))
local macro_rules | `(tactic| walk_at "execs cons") => `(tactic| ((with_reducible refine wpAny_execs_cons ?_); try dsimp only))
local macro_rules | `(tactic| walk_at "execs nil") => `(tactic| ((with_reducible refine wpAny_execs_nil ?_); try dsimp only))
local macro_rules | `(tactic| walk_at "eval Call") => `(tactic| (k_here; (with_reducible show wpAny _ _ (eval (Expr.Call (Expr.Name _ _) _ [] _) _) _ _ _); k_dflt (refine Call_ ?_)))
local macro_rules | `(tactic| walk_at "compareOp In int ref") => `(tactic| (k_here; k_dflt (refine' hIn_K ?F ?X ?l ?i ?_; (case F => k_asm); (case X => k_asm); (case l => k_is); (case i => repeat constructor); k_whole)))
local macro_rules | `(tactic| walk_at "compareOp In int ref") => `(tactic| (k_here; k_dflt (refine' in_tuple_ints (News.isTup ?N ?b) ?i ?_; (case N => k_asm); (case b => k_mem); (case i => repeat constructor); k_whole)))
local macro_rules | `(tactic| wrow_post) => `(tactic| with_unfolding_all exact rfl)
local macro_rules | `(tactic| walk_at "subscriptTail Name Constant ref int") => `(tactic| (k_here; k_dflt (refine' item_T ?N ?m ?a ?c ?d ?_; (case N => k_asm); (case m => k_mem); (case a => decide); (case c => rfl); (case d => rfl); k_whole)))
local macro_rules | `(tactic| walk_at "subscriptTail Subscript Name Constant Constant ref int") => `(tactic| (k_here; k_dflt (refine' item_T ?N ?m ?a ?c ?d ?_; (case N => k_asm); (case m => k_mem); (case a => decide); (case c => rfl); (case d => rfl); k_whole)))
local macro_rules | `(tactic| walk_at "binaryOp Div int int") => `(tactic| (k_here; (with_reducible refine' hDiv_2 ?hh ?ha ?_); k_dflt (skip; (case hh => exact rfl); (case ha => omega)); intro _ _; (try dsimp only)))
local macro_rules | `(tactic| walk_at "ite") => `(tactic| (k_here; with_reducible refine pr_str ?_))
local macro_rules | `(tactic| walk_at "storeName") => `(tactic| (k_here; (first | ((with_reducible show wpAny _ _ (storeName _ _ (Value.int _ _)) _ _ _); (fail_if_success (with_reducible refine store_skip (by assumption) ?_)); (with_reducible refine store_gen ?_)) | ((fail_if_success (with_reducible refine store_skipF (by assumption) ?_)); (with_reducible refine store_genF ?_))); intro _ _ _; walk_at "storeName"))
local macro_rules | `(tactic| walk_at "call ref") => `(tactic| (k_here; (with_reducible show wpAny _ _ (call (Value.ref 50) [Value.int _ _]) _ _ _); k_dflt (refine' use (c_isleap _ _ _ _ _ _) ?k1 ?k2 ?k3 ?k4 ?k5 ?kK ?kd ?ku ?_; (case k1 => k_asm); (case k2 => k_asm); (case k3 => k_asm); (case k4 => k_asm); (case k5 => k_asm); (case kK => first | exact rfl | assumption); (case kd => ktr_room); (case ku => ktr_units)); intro t9 h9 tk9 hp9 F9 N9; (try dsimp only); (try k_fold)))
local macro_rules | `(tactic| walk_at "call ref") => `(tactic| (k_here; (with_reducible show wpAny _ _ (call (Value.ref 163) [Value.int _ _]) _ _ _); k_dflt (refine' use (c_thirteen _ _ _ _ _ _) ?k1 ?k2 ?k3 ?k4 ?k5 ?kK ?kd ?ku ?_; (case k1 => k_asm); (case k2 => k_asm); (case k3 => k_asm); (case k4 => k_asm); (case k5 => k_asm); (case kK => first | exact rfl | assumption); (case kd => ktr_room); (case ku => ktr_units)); intro t9 h9 tk9 hp9 F9 N9; (try dsimp only); (try k_fold)))
local macro_rules | `(tactic| walk_at "call ref") => `(tactic| (k_here; (with_reducible show wpAny _ _ (call (Value.ref 184) [Value.int _ _]) _ _ _); k_dflt (refine' use (c_january _ _ _ _ _ _) ?k1 ?k2 ?k3 ?k4 ?k5 ?kK ?kd ?ku ?_; (case k1 => k_asm); (case k2 => k_asm); (case k3 => k_asm); (case k4 => k_asm); (case k5 => k_asm); (case kK => first | exact rfl | assumption); (case kd => ktr_room); (case ku => ktr_units)); intro t9 h9 tk9 hp9 F9 N9; (try dsimp only); (try k_fold)))
local macro_rules | `(tactic| walk_at "call ref") => `(tactic| (k_here; (with_reducible show wpAny _ _ (call (Value.ref 177) [Value.int _ _, Value.int _ _, Value.int _ _]) _ _ _); k_dflt (refine' use (c_day _ _ _ _ _ _ _ _ _ _ ?hy ?hm ?hd) ?k1 ?k2 ?k3 ?k4 ?k5 ?kK ?kd ?ku ?_; (case k1 => k_asm); (case k2 => k_asm); (case k3 => k_asm); (case k4 => k_asm); (case k5 => k_asm); (case kK => first | exact rfl | assumption); (case kd => ktr_room); (case ku => ktr_units); (case hy => omega); (case hm => omega); (case hd => omega)); intro t9 h9 tk9 hp9 F9 N9; (try dsimp only); (try k_fold)))
local macro_rules | `(tactic| walk_at "call ref") => `(tactic| (k_here; (with_reducible show wpAny _ _ (call (Value.ref 177) [Value.int _ _, Value.int _ _, Value.int _ _]) _ _ _); k_dflt (refine' use (c_day_0 _ _ _ _ _ _ _ _ _ _ ?hv ?hy ?hm ?hd) ?k1 ?k2 ?k3 ?k4 ?k5 ?kK ?kd ?ku ?_; (case k1 => k_asm); (case k2 => k_asm); (case k3 => k_asm); (case k4 => k_asm); (case k5 => k_asm); (case kK => first | exact rfl | assumption); (case kd => ktr_room); (case ku => ktr_units); (case hv => assumption); (case hy => omega); (case hm => omega); (case hd => omega)); intro t9 h9 tk9 hp9 F9 N9; (try dsimp only); (try k_fold)))
local macro_rules | `(tactic| walk_at "call ref") => `(tactic| (k_here; (with_reducible show wpAny _ _ (call (Value.ref 177) [Value.int _ _, Value.int _ _, Value.int _ _]) _ _ _); k_dflt (refine' use (c_day_1 _ _ _ _ _ _ _ _ _ _ ?hv ?hy ?hm ?hd) ?k1 ?k2 ?k3 ?k4 ?k5 ?kK ?kd ?ku ?_; (case k1 => k_asm); (case k2 => k_asm); (case k3 => k_asm); (case k4 => k_asm); (case k5 => k_asm); (case kK => first | exact rfl | assumption); (case kd => ktr_room); (case ku => ktr_units); (case hv => first | assumption | omega); (case hy => omega); (case hm => omega); (case hd => omega)); intro t9 h9 tk9 hp9 F9 N9; (try dsimp only); (try k_fold)))
local macro_rules | `(tactic| walk_at "call ref") => `(tactic| (k_here; (with_reducible show wpAny _ _ (call (Value.ref 191) [Value.int _ _]) _ _ _); k_dflt (refine' useS (c_sizes _ _ _ _ _ _) ?k1 ?k2 ?k3 ?k4 ?k5 ?kK ?kd ?ku ?_; (case k1 => k_asm); (case k2 => k_asm); (case k3 => k_asm); (case k4 => k_asm); (case k5 => k_asm); (case kK => first | exact rfl | assumption); (case kd => ktr_room); (case ku => ktr_units)); intro D9 vs9 h9 tk9 hi9 F9 N9 l9; (try dsimp only); (try k_fold)))
local macro_rules | `(tactic| walk_at "call ref") => `(tactic| (k_here; (with_reducible show wpAny _ _ (call (Value.ref 64) [Value.int _ _, Value.int _ _, Value.int _ _]) _ _ _); k_dflt (refine' use (c_gto_jd _ _ _ _ _ _ _ _ _ _ ?hy ?hm ?hd) ?k1 ?k2 ?k3 ?k4 ?k5 ?kK ?kd ?ku ?_; (case k1 => k_asm); (case k2 => k_asm); (case k3 => k_asm); (case k4 => k_asm); (case k5 => k_asm); (case kK => first | exact rfl | assumption); (case kd => ktr_room); (case ku => ktr_units); (case hy => omega); (case hm => omega); (case hd => omega)); intro t9 h9 tk9 hp9 F9 N9; (try dsimp only); (try k_fold)))
local macro_rules | `(tactic| walk_at "call ref") => `(tactic| (k_here; (with_reducible show wpAny _ _ (call (Value.ref 127) [Value.int _ _, Value.int _ _, Value.int _ _]) _ _ _); k_dflt (refine' use (c_to_jd _ _ _ _ _ _ _ _ _ _ ?hy ?hm ?hd) ?k1 ?k2 ?k3 ?k4 ?k5 ?kK ?kd ?ku ?_; (case k1 => k_asm); (case k2 => k_asm); (case k3 => k_asm); (case k4 => k_asm); (case k5 => k_asm); (case kK => first | exact rfl | assumption); (case kd => ktr_room); (case ku => ktr_units); (case hy => omega); (case hm => omega); (case hd => omega)); intro t9 h9 tk9 hp9 F9 N9; (try dsimp only); (try k_fold)))
local macro_rules | `(tactic| walk_at "call ref") => `(tactic| (k_here; (with_reducible show wpAny _ _ (call (Value.ref 71) [Value.float _ _]) _ _ _); k_dflt (refine' useT (c_gfrom2 _ _ _ _ _ _ _ _ _ ?hv ?hy ?hm ?hd) ?k1 ?k2 ?k3 ?k4 ?k5 ?kK ?kd ?ku ?_; (case k1 => k_asm); (case k2 => k_asm); (case k3 => k_asm); (case k4 => k_asm); (case k5 => k_asm); (case kK => first | exact rfl | assumption); (case kd => ktr_room); (case ku => ktr_units); (case hv => assumption); (case hy => omega); (case hm => omega); (case hd => omega)); intro D9 ta9 tb9 tc9 h9 tk9 hp9 F9 N9 l9; (try dsimp only); (try k_fold)))
local macro_rules | `(tactic| walk_at "call ref") => `(tactic| (k_here; (with_reducible show wpAny _ _ (call (Value.ref 134) [Value.float _ _]) _ _ _); k_dflt (refine' useT (c_hfrom2 _ _ _ _ _ _ _ _ _ ?hv ?hy ?hd) ?k1 ?k2 ?k3 ?k4 ?k5 ?kK ?kd ?ku ?_; (case k1 => k_asm); (case k2 => k_asm); (case k3 => k_asm); (case k4 => k_asm); (case k5 => k_asm); (case kK => first | exact rfl | assumption); (case kd => ktr_room); (case ku => ktr_units); (case hv => assumption); (case hy => omega); (case hd => assumption)); intro D9 ta9 tb9 tc9 h9 tk9 hp9 F9 N9 l9; (try dsimp only); (try k_fold)))
local macro_rules | `(tactic| walk_at "call ref") => `(tactic| (k_here; (with_reducible show wpAny _ _ (call (Value.ref 198) [Value.int _ _, Value.int _ _]) _ _ _); k_dflt (refine' useT (c_date2 _ _ _ _ _ _ _ _ _ _ _ ?hv ?hm ?hd ?hg) ?k1 ?k2 ?k3 ?k4 ?k5 ?kK ?kd ?ku ?_; (case k1 => k_asm); (case k2 => k_asm); (case k3 => k_asm); (case k4 => k_asm); (case k5 => k_asm); (case kK => first | exact rfl | assumption); (case kd => ktr_room); (case ku => ktr_units); (case hv => assumption); (case hm => omega); (case hd => omega); (case hg => omega)); intro D9 ta9 tb9 tc9 h9 tk9 hp9 F9 N9 l9; (try dsimp only); (try k_fold)))
local macro_rules | `(tactic| walk_at "subscriptTail Name BinOp ref int") => `(tactic| (k_here; k_dflt (refine' sizes_N ?N ?m ?i ?h0 ?h1 ?_; (case N => k_asm); (case m => k_mem); (case i => assumption); (case h0 => omega); (case h1 => omega); k_whole); intro _))
local macro_rules | `(tactic| walk_at "subscriptTail Name Name ref int") => `(tactic| (k_here; k_dflt (refine' sizes_N ?N ?m ?i ?h0 ?h1 ?_; (case N => k_asm); (case m => k_mem); (case i => assumption); (case h0 => omega); (case h1 => omega); k_whole); intro _))
local macro_rules | `(tactic| walk_at "subscriptTail Call Name cons nil BinOp ref int") => `(tactic| (k_here; k_dflt (refine' sizes_N ?N ?m ?i ?h0 ?h1 ?_; (case N => k_asm); (case m => k_mem); (case i => assumption); (case h0 => omega); (case h1 => omega); k_whole); intro _))
local macro_rules | `(tactic| walk_at "call builtin:str.format") => `(tactic| (k_here; (refine fmt2 (by omega) (by omega) ?_); intro _ _ _; (try dsimp only)))
theorem law_holds : PySem.Challenge.rw_ad5022_01.Holds := by
  w_on
  refine hd ?_
  w_strict (
    k_go0
    (all_goals try k_fold)
    repeat ((fail_if_success (with_reducible show wpAny _ _ (exec (Stmt.If _ _ _ _) _) _ _ _)); (first | (k_unfold; (try dsimp only)) | (k_end; wrow_close) | walk1 | (dsimp only; walk1) | (leave1; walk_say "STEP leave1"; try dsimp only)))
    obtain ⟨g, hgv, hg⟩ : ∃ g, g = _ ∧ (-4711 ≤ g ∧ g ≤ 21000) := ⟨_, rfl, year_bd (by assumption)⟩
    subst hgv
    obtain ⟨mo, hgv, hmo⟩ : ∃ g, g = _ ∧ (1 ≤ g ∧ g ≤ 13) := ⟨_, rfl, month_bd (by assumption)⟩
    subst hgv
    obtain ⟨da, hgv, hda⟩ : ∃ g, g = _ ∧ (1 ≤ g ∧ g ≤ 30) := ⟨_, rfl, day_bd (by assumption)⟩
    subst hgv
    (rename _ = _ % 25712 - 4711 => x1); clear x1
    (rename _ = _ % 13 + 1 => x1); clear x1
    (rename _ = _ % 30 + 1 => x1); clear x1
    have hmb := mY_bd (g + 3760)
    have hmt := mY_1 (y := g + 3760)
    have hmf := mY_2 (y := g + 3760)
    refine cutNameE (x := Str.ofString "month") (fun M => 1 ≤ M ∧ M ≤ mY (g + 3760)) (by k_asm) (by k_asm) ?_ (fun M tM h' tk hM F' N' => ?_)
    · k_steps
      all_goals first | refine cutE_end (by k_asm) (by k_asm) ?_ | refine cutE_end0 (by k_asm) (by k_asm) (by with_unfolding_all rfl) ?_
      all_goals first | omega | (have := hmt (by assumption); omega) | (have := hmf (by assumption); omega)
    (try k_fold)
    repeat ((fail_if_success (with_reducible show wpAny _ _ (exec (Stmt.If _ _ _ _) _) _ _ _)); (first | (k_unfold; (try dsimp only)) | (k_end; wrow_close) | walk1 | (dsimp only; walk1) | (leave1; walk_say "STEP leave1"; try dsimp only)))
    (rename _ = gN g 1 1 => xF); subst xF
    (rename _ = gN (g + 1) 1 1 => xB); subst xB
    have gm1 : GenMark (gN g 1 1) := trivial
    have gm2 : GenMark (gN (g + 1) 1 1) := trivial
    clear hmt hmf
    refine cutName2 (x := Str.ofString "day") (y := Str.ofString "one") (fun D => hN (g + 3760) M D) (Pick g M) (by k_asm) (by k_asm) ?_ (fun D tD tO h' tk hP F' N' => ?_)
    · have h29 : M ≤ mY (g + 3760) ∧ 29 ≤ ML (g + 3760) M := ⟨hM.2, (ML_bd _ _).1⟩
      by_cases hv : M ≤ mY (g + 3760) ∧ da ≤ ML (g + 3760) M
      · (rename Fr _ _ _ _ => F8)
        rw [dayV_1 hv] at F8
        by_cases hv2 : M ≤ mY (g + 3761) ∧ da ≤ ML (g + 3761) M
        · k_steps
          all_goals exact cut2_end (by k_asm) (by k_asm) (by intro p hp; repeat (first | exact hp | with_reducible refine List.mem_cons_of_mem _ ?_)) (by with_unfolding_all rfl) (by with_unfolding_all rfl) (by k_same2) (by first | rfl | assumption) (pick_day hg hM hda.1 hv (fun _ => hv2))
        · k_steps
          · exact cut2_end (by k_asm) (by k_asm) (by intro p hp; repeat (first | exact hp | with_reducible refine List.mem_cons_of_mem _ ?_)) (by with_unfolding_all rfl) (by with_unfolding_all rfl) (by k_same2) (by first | rfl | assumption) (pick_29 hg hM (by first | assumption | rfl))
          · exact cut2_end (by k_asm) (by k_asm) (by intro p hp; repeat (first | exact hp | with_reducible refine List.mem_cons_of_mem _ ?_)) (by with_unfolding_all rfl) (by with_unfolding_all rfl) (by k_same2) (by first | rfl | assumption) (pick_day hg hM hda.1 hv (fun q => absurd q (by omega)))
      · (rename Fr _ _ _ _ => F8)
        rw [dayV_0 hv] at F8
        k_steps
        all_goals exact cut2_end (by k_asm) (by k_asm) (by intro p hp; repeat (first | exact hp | with_reducible refine List.mem_cons_of_mem _ ?_)) (by with_unfolding_all rfl) (by with_unfolding_all rfl) (by k_same2) (by first | rfl | assumption) (pick_29 hg hM (by first | assumption | rfl))
    (try k_fold)
    repeat ((fail_if_success (with_reducible show wpAny _ _ (execs _ _) _ _ _)); (first | (k_unfold; (try dsimp only)) | (k_end; wrow_close) | walk1 | (dsimp only; walk1) | (leave1; walk_say "STEP leave1"; try dsimp only)))
    refine cutTail 8 (by k_asm) (by k_asm) (by with_unfolding_all rfl) (by with_unfolding_all rfl) ?_ (fun u h' tk F' N' => ?_)
    · simp only [List.take_succ_cons, List.take_zero]
      (try k_fold)
      repeat ((fail_if_success (with_reducible show wpAny _ _ (pyIter _) _ _ _)); (first | (k_unfold; (try dsimp only)) | (k_end; wrow_close) | walk1 | (dsimp only; walk1) | (leave1; walk_say "STEP leave1"; try dsimp only)))
      have hV1 : VD (g + 3760) M D := hP.1
      have hv1 : M ≤ mY (g + 3760) ∧ D ≤ ML (g + 3760) M := ⟨hV1.2.1, hV1.2.2.2⟩
      have hM13 : 1 ≤ M ∧ M ≤ 13 := by omega
      have hMLb := ML_bd (g + 3760) M
      have hD30 : 1 ≤ D ∧ D ≤ 30 := ⟨hV1.2.2.1, by omega⟩
      have hmt := meets hg
      have hr1 := hN_range (by omega) hV1
      rw [show g + 3760 + 1 = g + 3761 by omega] at hr1
      have gm3 : GenMark (hN (g + 3760) M D) := trivial
      have gm4 : GenMark (hN (g + 3761) M D) := trivial
      ((rename Fr _ _ _ _ => lF'); (rename News _ _ _ _ => lN'); (rename IsRange _ _ _ _ _ _ _ _ => rgX); (with_unfolding_all refine iter_rangeUnr (n := 4) (by rfl) rgX (by exact small_one (by omega) (by omega) (by omega) (by omega)) (by exact range_4 g) lF' lN' ?_); clear lF' lN'; intro i' l1; (try k_lt l1))
      with_unfolding_all refine rr_succ (g + 3759) (by omega) (fun t' h' tk' F' N' => ?_)
      (try k_fold)
      repeat ((fail_if_success (with_reducible show wpAny _ _ (exec (Stmt.If _ _ _ _) _) _ _ _)); (first | (k_unfold; (try dsimp only)) | (k_end; wrow_close) | walk1 | (dsimp only; walk1) | (leave1; walk_say "STEP leave1"; try dsimp only)))
      refine cutSame (by k_asm) (by k_asm) ?_ (fun h' tk F' N' => ?_)
      · by_cases hv : M ≤ mY (g + 3759) ∧ D ≤ ML (g + 3759) M
        · have hr0 := hN_range (y := g + 3759) (m := M) (d := D) (by omega) ⟨hM.1, hv.1, hD30.1, hv.2⟩
          rw [show g + 3759 + 1 = g + 3760 by omega] at hr0
          (rename Fr _ _ _ _ => F8)
          rw [dayV_1 hv] at F8
          k_steps
          all_goals skip
          all_goals exact same_end (by rw [dayV_1 hv]; assumption) (by k_asm) (by intro p hp; repeat (first | exact hp | with_reducible refine List.mem_cons_of_mem _ ?_))
        · (rename Fr _ _ _ _ => F8)
          rw [dayV_0 hv] at F8
          k_steps
          all_goals skip
          all_goals exact same_end (by rw [dayV_0 hv]; assumption) (by k_asm) (by intro p hp; repeat (first | exact hp | with_reducible refine List.mem_cons_of_mem _ ?_))
      (try k_fold)
      repeat ((fail_if_success (with_reducible show RangeRest _ _ _ _ _ _ _ _ _ _ _ _ _ _ _ _ _)); (first | (k_unfold; (try dsimp only)) | (k_end; wrow_close) | walk1 | (dsimp only; walk1) | (leave1; walk_say "STEP leave1"; try dsimp only)))
      (with_unfolding_all refine rr_succ (g + 3760) (by omega) (fun t' h' tk' F' N' => ?_))
      (try k_fold)
      repeat ((fail_if_success (with_reducible show wpAny _ _ (exec (Stmt.If _ _ _ _) _) _ _ _)); (first | (k_unfold; (try dsimp only)) | (k_end; wrow_close) | walk1 | (dsimp only; walk1) | (leave1; walk_say "STEP leave1"; try dsimp only)))
      by_cases hc : gN g 1 1 ≤ hN (g + 3760) M D
      · repeat ((fail_if_success (with_reducible show RangeRest _ _ _ _ _ _ _ _ _ _ _ _ _ _ _ _ _)); (first | (k_unfold; (try dsimp only)) | (k_end; wrow_close) | walk1 | (dsimp only; walk1) | (leave1; walk_say "STEP leave1"; try dsimp only)))
        (with_unfolding_all refine rr_succ (g + 3761) (by omega) (fun t' h' tk' F' N' => ?_))
        (try k_fold)
        by_cases hap : (M ≤ mY (g + 3761) ∧ D ≤ ML (g + 3761) M) ∧ hN (g + 3761) M D < gN (g + 1) 1 1
        · obtain ⟨hv2, hlt2⟩ := hap
          have hr2 := hN_range (y := g + 3761) (m := M) (d := D) (by omega) ⟨hM.1, hv2.1, hD30.1, hv2.2⟩
          repeat ((fail_if_success (with_reducible show RangeRest _ _ _ _ _ _ _ _ _ _ _ _ _ _ _ _ _)); (first | (k_unfold; (try dsimp only)) | (k_end; wrow_close) | walk1 | (dsimp only; walk1) | (leave1; walk_say "STEP leave1"; try dsimp only)))
          (with_unfolding_all refine rr_succ (g + 3762) (by omega) (fun t' h' tk' F' N' => ?_))
          (try k_fold)
          repeat ((fail_if_success (with_reducible show wpAny _ _ (exec (Stmt.If _ _ _ _) _) _ _ _)); (first | (k_unfold; (try dsimp only)) | (k_end; wrow_close) | walk1 | (dsimp only; walk1) | (leave1; walk_say "STEP leave1"; try dsimp only)))
          refine cutSame (by k_asm) (by k_asm) ?_ (fun h' tk F' N' => ?_)
          · by_cases hv : M ≤ mY (g + 3762) ∧ D ≤ ML (g + 3762) M
            · have hr := hN_range (y := g + 3762) (m := M) (d := D) (by omega) ⟨hM.1, hv.1, hD30.1, hv.2⟩
              (rename Fr _ _ _ _ => F8)
              rw [dayV_1 hv] at F8
              k_steps
              all_goals exact same_end (by rw [dayV_1 hv]; assumption) (by k_asm) (by intro p hp; repeat (first | exact hp | with_reducible refine List.mem_cons_of_mem _ ?_))
            · (rename Fr _ _ _ _ => F8)
              rw [dayV_0 hv] at F8
              k_steps
              all_goals exact same_end (by rw [dayV_0 hv]; assumption) (by k_asm) (by intro p hp; repeat (first | exact hp | with_reducible refine List.mem_cons_of_mem _ ?_))
          (try k_fold)
          repeat ((fail_if_success (with_reducible show wpAny _ _ (exec (Stmt.Try _ _ _ _ _) _) _ _ _)); (first | (k_unfold; (try dsimp only)) | (k_end; wrow_close) | walk1 | (dsimp only; walk1) | (leave1; walk_say "STEP leave1"; try dsimp only)))
          obtain ⟨gm, gd, hgm, hgd, hgN⟩ := gN_at (y := g) hc (by omega)
          have e1 : 2 * tr (HN (g + 3760) M D) + 1 = 2 * gN g gm gd - 1 := by rw [tr_HN (by omega) (by omega) (by omega), hgN]
          have e2 : 2 * gN g gm gd - 1 = 2 * hN (g + 3760) M D - 1 := by omega
          have gm5 : GenMark (2 * tr (HN (g + 3760) M D) + 1) := trivial
          have gm6 : GenMark (g + 3760) := trivial
          have gm7 : GenMark (g + 3760 + 1) := trivial
          k_steps
          all_goals exact tail_end (by k_asm) (by k_asm) (by first | (intro p hp; repeat (first | exact hp | with_reducible refine List.mem_cons_of_mem _ ?_)) | exact SubL.mem (by k_subL)) (by with_unfolding_all rfl) (by with_unfolding_all rfl)
        · repeat ((fail_if_success (with_reducible show wpAny _ _ (exec (Stmt.If _ _ _ _) _) _ _ _)); (first | (k_unfold; (try dsimp only)) | (k_end; wrow_close) | walk1 | (dsimp only; walk1) | (leave1; walk_say "STEP leave1"; try dsimp only)))
          refine cutSame (by k_asm) (by k_asm) ?_ (fun h' tk F' N' => ?_)
          · by_cases hv : M ≤ mY (g + 3761) ∧ D ≤ ML (g + 3761) M
            · have hr := hN_range (y := g + 3761) (m := M) (d := D) (by omega) ⟨hM.1, hv.1, hD30.1, hv.2⟩
              have hap2 : ¬ hN (g + 3761) M D < gN (g + 1) 1 1 := fun q => hap ⟨hv, q⟩
              (rename Fr _ _ _ _ => F8)
              rw [dayV_1 hv] at F8
              k_steps
              all_goals exact same_end (by rw [dayV_1 hv]; assumption) (by k_asm) (by intro p hp; repeat (first | exact hp | with_reducible refine List.mem_cons_of_mem _ ?_))
            · (rename Fr _ _ _ _ => F8)
              rw [dayV_0 hv] at F8
              k_steps
              all_goals exact same_end (by rw [dayV_0 hv]; assumption) (by k_asm) (by intro p hp; repeat (first | exact hp | with_reducible refine List.mem_cons_of_mem _ ?_))
          (try k_fold)
          repeat ((fail_if_success (with_reducible show RangeRest _ _ _ _ _ _ _ _ _ _ _ _ _ _ _ _ _)); (first | (k_unfold; (try dsimp only)) | (k_end; wrow_close) | walk1 | (dsimp only; walk1) | (leave1; walk_say "STEP leave1"; try dsimp only)))
          (with_unfolding_all refine rr_succ (g + 3762) (by omega) (fun t' h' tk' F' N' => ?_))
          (try k_fold)
          repeat ((fail_if_success (with_reducible show wpAny _ _ (exec (Stmt.If _ _ _ _) _) _ _ _)); (first | (k_unfold; (try dsimp only)) | (k_end; wrow_close) | walk1 | (dsimp only; walk1) | (leave1; walk_say "STEP leave1"; try dsimp only)))
          refine cutSame (by k_asm) (by k_asm) ?_ (fun h' tk F' N' => ?_)
          · by_cases hv : M ≤ mY (g + 3762) ∧ D ≤ ML (g + 3762) M
            · have hr := hN_range (y := g + 3762) (m := M) (d := D) (by omega) ⟨hM.1, hv.1, hD30.1, hv.2⟩
              (rename Fr _ _ _ _ => F8)
              rw [dayV_1 hv] at F8
              k_steps
              all_goals exact same_end (by rw [dayV_1 hv]; assumption) (by k_asm) (by intro p hp; repeat (first | exact hp | with_reducible refine List.mem_cons_of_mem _ ?_))
            · (rename Fr _ _ _ _ => F8)
              rw [dayV_0 hv] at F8
              k_steps
              all_goals exact same_end (by rw [dayV_0 hv]; assumption) (by k_asm) (by intro p hp; repeat (first | exact hp | with_reducible refine List.mem_cons_of_mem _ ?_))
          (try k_fold)
          repeat ((fail_if_success (with_reducible show wpAny _ _ (exec (Stmt.Try _ _ _ _ _) _) _ _ _)); (first | (k_unfold; (try dsimp only)) | (k_end; wrow_close) | walk1 | (dsimp only; walk1) | (leave1; walk_say "STEP leave1"; try dsimp only)))
          obtain ⟨gm, gd, hgm, hgd, hgN⟩ := gN_at (y := g) hc (by omega)
          have e1 : 2 * tr (HN (g + 3760) M D) + 1 = 2 * gN g gm gd - 1 := by rw [tr_HN (by omega) (by omega) (by omega), hgN]
          have e2 : 2 * gN g gm gd - 1 = 2 * hN (g + 3760) M D - 1 := by omega
          have gm5 : GenMark (2 * tr (HN (g + 3760) M D) + 1) := trivial
          have gm6 : GenMark (g + 3760) := trivial
          have gm7 : GenMark (g + 3760 + 1) := trivial
          k_steps
          all_goals exact tail_end (by k_asm) (by k_asm) (by first | (intro p hp; repeat (first | exact hp | with_reducible refine List.mem_cons_of_mem _ ?_)) | exact SubL.mem (by k_subL)) (by with_unfolding_all rfl) (by with_unfolding_all rfl)
      · obtain ⟨hV2, h7⟩ := hP.2 (by omega)
        have hv2 : M ≤ mY (g + 3761) ∧ D ≤ ML (g + 3761) M := ⟨hV2.2.1, hV2.2.2.2⟩
        have hr2 := hN_range (y := g + 3761) (m := M) (d := D) (by omega) hV2
        repeat ((fail_if_success (with_reducible show RangeRest _ _ _ _ _ _ _ _ _ _ _ _ _ _ _ _ _)); (first | (k_unfold; (try dsimp only)) | (k_end; wrow_close) | walk1 | (dsimp only; walk1) | (leave1; walk_say "STEP leave1"; try dsimp only)))
        (with_unfolding_all refine rr_succ (g + 3761) (by omega) (fun t' h' tk' F' N' => ?_))
        (try k_fold)
        by_cases hlt2 : hN (g + 3761) M D < gN (g + 1) 1 1
        · repeat ((fail_if_success (with_reducible show RangeRest _ _ _ _ _ _ _ _ _ _ _ _ _ _ _ _ _)); (first | (k_unfold; (try dsimp only)) | (k_end; wrow_close) | walk1 | (dsimp only; walk1) | (leave1; walk_say "STEP leave1"; try dsimp only)))
          (with_unfolding_all refine rr_succ (g + 3762) (by omega) (fun t' h' tk' F' N' => ?_))
          (try k_fold)
          repeat ((fail_if_success (with_reducible show wpAny _ _ (exec (Stmt.If _ _ _ _) _) _ _ _)); (first | (k_unfold; (try dsimp only)) | (k_end; wrow_close) | walk1 | (dsimp only; walk1) | (leave1; walk_say "STEP leave1"; try dsimp only)))
          refine cutSame (by k_asm) (by k_asm) ?_ (fun h' tk F' N' => ?_)
          · by_cases hv : M ≤ mY (g + 3762) ∧ D ≤ ML (g + 3762) M
            · have hr := hN_range (y := g + 3762) (m := M) (d := D) (by omega) ⟨hM.1, hv.1, hD30.1, hv.2⟩
              (rename Fr _ _ _ _ => F8)
              rw [dayV_1 hv] at F8
              k_steps
              all_goals exact same_end (by rw [dayV_1 hv]; assumption) (by k_asm) (by intro p hp; repeat (first | exact hp | with_reducible refine List.mem_cons_of_mem _ ?_))
            · (rename Fr _ _ _ _ => F8)
              rw [dayV_0 hv] at F8
              k_steps
              all_goals exact same_end (by rw [dayV_0 hv]; assumption) (by k_asm) (by intro p hp; repeat (first | exact hp | with_reducible refine List.mem_cons_of_mem _ ?_))
          (try k_fold)
          repeat ((fail_if_success (with_reducible show wpAny _ _ (exec (Stmt.Try _ _ _ _ _) _) _ _ _)); (first | (k_unfold; (try dsimp only)) | (k_end; wrow_close) | walk1 | (dsimp only; walk1) | (leave1; walk_say "STEP leave1"; try dsimp only)))
          have hF1 : hN (g + 3760) M D < gN (g - 1 + 1) 1 1 := by rw [show g - 1 + 1 = g by omega]; omega
          obtain ⟨gm, gd, hgm, hgd, hgN⟩ := gN_at (y := g - 1) (N := hN (g + 3760) M D) (by omega) hF1
          have e1 : 2 * tr (HN (g + 3760) M D) + 1 = 2 * gN (g - 1) gm gd - 1 := by rw [tr_HN (by omega) (by omega) (by omega), hgN]
          obtain ⟨km, kd, hkm, hkd, hkN⟩ := gN_at (y := g) (N := hN (g + 3761) M D) (by omega) hlt2
          have e3 : 2 * tr (HN (g + 3761) M D) + 1 = 2 * gN g km kd - 1 := by rw [tr_HN (by omega) (by omega) (by omega), hkN]
          have e4 : 2 * tr (HN (g + 3760 + 1) M D) + 1 = 2 * gN g km kd - 1 := by rw [show g + 3760 + 1 = g + 3761 by omega]; exact e3
          have e2 : 2 * gN g km kd - 1 = 2 * hN (g + 3761) M D - 1 := by omega
          have gm5 : GenMark (2 * tr (HN (g + 3760) M D) + 1) := trivial
          have gm6 : GenMark (g + 3760) := trivial
          have gm7 : GenMark (g + 3760 + 1) := trivial
          have gm8 : GenMark (g + 3761) := trivial
          have gm9 : GenMark (2 * tr (HN (g + 3760 + 1) M D) + 1) := trivial
          have gm10 : GenMark (2 * tr (HN (g + 3761) M D) + 1) := trivial
          k_steps
          all_goals exact tail_end (by k_asm) (by k_asm) (by first | (intro p hp; repeat (first | exact hp | with_reducible refine List.mem_cons_of_mem _ ?_)) | exact SubL.mem (by k_subL)) (by with_unfolding_all rfl) (by with_unfolding_all rfl)
        · repeat ((fail_if_success (with_reducible show RangeRest _ _ _ _ _ _ _ _ _ _ _ _ _ _ _ _ _)); (first | (k_unfold; (try dsimp only)) | (k_end; wrow_close) | walk1 | (dsimp only; walk1) | (leave1; walk_say "STEP leave1"; try dsimp only)))
          (with_unfolding_all refine rr_succ (g + 3762) (by omega) (fun t' h' tk' F' N' => ?_))
          (try k_fold)
          repeat ((fail_if_success (with_reducible show wpAny _ _ (exec (Stmt.If _ _ _ _) _) _ _ _)); (first | (k_unfold; (try dsimp only)) | (k_end; wrow_close) | walk1 | (dsimp only; walk1) | (leave1; walk_say "STEP leave1"; try dsimp only)))
          refine cutSame (by k_asm) (by k_asm) ?_ (fun h' tk F' N' => ?_)
          · by_cases hv : M ≤ mY (g + 3762) ∧ D ≤ ML (g + 3762) M
            · have hr := hN_range (y := g + 3762) (m := M) (d := D) (by omega) ⟨hM.1, hv.1, hD30.1, hv.2⟩
              (rename Fr _ _ _ _ => F8)
              rw [dayV_1 hv] at F8
              k_steps
              all_goals exact same_end (by rw [dayV_1 hv]; assumption) (by k_asm) (by intro p hp; repeat (first | exact hp | with_reducible refine List.mem_cons_of_mem _ ?_))
            · (rename Fr _ _ _ _ => F8)
              rw [dayV_0 hv] at F8
              k_steps
              all_goals exact same_end (by rw [dayV_0 hv]; assumption) (by k_asm) (by intro p hp; repeat (first | exact hp | with_reducible refine List.mem_cons_of_mem _ ?_))
          (try k_fold)
          repeat ((fail_if_success (with_reducible show wpAny _ _ (exec (Stmt.Try _ _ _ _ _) _) _ _ _)); (first | (k_unfold; (try dsimp only)) | (k_end; wrow_close) | walk1 | (dsimp only; walk1) | (leave1; walk_say "STEP leave1"; try dsimp only)))
          have hF1 : hN (g + 3760) M D < gN (g - 1 + 1) 1 1 := by rw [show g - 1 + 1 = g by omega]; omega
          obtain ⟨gm, gd, hgm, hgd, hgN⟩ := gN_at (y := g - 1) (N := hN (g + 3760) M D) (by omega) hF1
          have e1 : 2 * tr (HN (g + 3760) M D) + 1 = 2 * gN (g - 1) gm gd - 1 := by rw [tr_HN (by omega) (by omega) (by omega), hgN]
          obtain ⟨km, kd, hkm, hkd, hkN⟩ := gN_at (y := g + 1) (N := hN (g + 3761) M D) (by omega) (early_end hg h7 hD30)
          have e3 : 2 * tr (HN (g + 3761) M D) + 1 = 2 * gN (g + 1) km kd - 1 := by rw [tr_HN (by omega) (by omega) (by omega), hkN]
          have e4 : 2 * tr (HN (g + 3760 + 1) M D) + 1 = 2 * gN (g + 1) km kd - 1 := by rw [show g + 3760 + 1 = g + 3761 by omega]; exact e3
          have e2 : 2 * gN (g - 1) gm gd - 1 = 2 * hN (g + 3760) M D - 1 := by omega
          have gm5 : GenMark (2 * tr (HN (g + 3760) M D) + 1) := trivial
          have gm6 : GenMark (g + 3760) := trivial
          have gm7 : GenMark (g + 3760 + 1) := trivial
          have gm8 : GenMark (g + 3761) := trivial
          have gm9 : GenMark (2 * tr (HN (g + 3760 + 1) M D) + 1) := trivial
          have gm10 : GenMark (2 * tr (HN (g + 3761) M D) + 1) := trivial
          k_steps
          all_goals exact tail_end (by k_asm) (by k_asm) (by first | (intro p hp; repeat (first | exact hp | with_reducible refine List.mem_cons_of_mem _ ?_)) | exact SubL.mem (by k_subL)) (by with_unfolding_all rfl) (by with_unfolding_all rfl)
    simp only [List.drop_succ_cons, List.drop_zero]
    (try k_fold)
    repeat ((fail_if_success (with_reducible show wpAny _ _ (exec (Stmt.Assign _ (Expr.IfExp _ _ _ _) _) _) _ _ _)); (first | (k_unfold; (try dsimp only)) | (k_end; wrow_close) | walk1 | (dsimp only; walk1) | (leave1; walk_say "STEP leave1"; try dsimp only)))
    obtain ⟨o, hgv, hob⟩ : ∃ o, o = _ ∧ (1 ≤ o ∧ o ≤ 12) := ⟨_, rfl, other_bd (by assumption)⟩
    subst hgv
    obtain ⟨pa, hgv, hpb⟩ : ∃ o, o = _ ∧ (0 ≤ o ∧ o ≤ 63) := ⟨_, rfl, past_bd (by assumption)⟩
    subst hgv
    (rename _ = _ % 12 + 1 => x1); clear x1
    (rename _ = _ % 64 => x1); clear x1
    have hdb := dim_bd g o
    have hdo : dim g (o - 1 + 1) = dim g o := by rw [show o - 1 + 1 = o by omega]
    refine cutNameE (x := Str.ofString "past") (fun v => ¬ (1 ≤ v ∧ v ≤ dim g o) ∧ -40 ≤ v ∧ v ≤ 64) (by k_asm) (by k_asm) ?_ (fun v tv h' tk hv F' N' => ?_)
    · k_steps
      all_goals refine cutE_end (by k_asm) (by first | k_asm | exact cb_drop (by assumption) (by kcj_all)) (by omega)
    (try k_fold)
    clear hdo
    repeat ((fail_if_success (with_reducible show wpAny _ _ (exec (Stmt.If _ _ _ _) _) _ _ _)); (first | (k_unfold; (try dsimp only)) | (k_end; wrow_close) | walk1 | (dsimp only; walk1) | (leave1; walk_say "STEP leave1"; try dsimp only)))
    refine cutName (x := Str.ofString "daysinmonth") (dim g o) (by assumption) (by assumption) ?_ (fun t h' tk F' N' => ?_)
    · k_steps
      all_goals refine cut_end (by assumption) (by assumption) ?_
      all_goals first | (have e9 := dim_1 (y := g) (m := o) (by omega) (by assumption); omega) | (have e9 := dim_2 (y := g) (m := o) (by omega) (by assumption); omega) | (have e9 := dim_3 (y := g) (m := o) (any4T (by assumption)); omega) | (have e9 := dim_4 (y := g) (m := o) (by omega) (any4F (by assumption)); omega)
    (try k_fold)
    k_steps
    skip)
end Mine
theorem PySem.Challenge.cw_ad5022_01_holds : PySem.Challenge.rw_ad5022_01.Holds := by
  exact Mine.law_holds
