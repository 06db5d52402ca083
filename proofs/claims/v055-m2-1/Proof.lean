import JvmDerived
import JvmDerived.Pilot.@@N@@Statement
import JvmDerived.Pilot.@@N@@Code
set_option linter.unusedVariables false
set_option linter.unusedSimpArgs false
namespace Jvm.Pilot.@@N@@
section Dyad
open Jvm.FP.Core
/-- the double x is the number m * 2 ^ (b - 1100) -/
def Dy (x : UInt64) (m : Int) (b : Nat) : Prop := ∃ (s : Bool) (c a : Nat), val64 x = .fin s c ((a : Int) - 1100) ∧ signed s c * (2 ^ a : Nat) = m * (2 ^ b : Nat)
theorem dy_sg (s : Bool) (c : Nat) (h : 0 < c) (m : Int) (x y : Nat) (hx : 0 < x) (hy : 0 < y) (e : signed s c * (x : Int) = m * (y : Int)) : signed s m.natAbs = m := by
  cases s
  · have p : 0 < (c : Int) * x := Int.mul_pos (by omega) (by omega)
    have q : 0 < m * (y : Int) := by rw [← e]; exact p
    have r : 0 < m := Int.pos_of_mul_pos_left q (by omega)
    simp only [signed, Bool.false_eq_true, if_false]
    omega
  · have p : -(c : Int) * x < 0 := by rw [Int.neg_mul]; have := Int.mul_pos (a := (c : Int)) (b := (x : Int)) (by omega) (by omega); omega
    have q : m * (y : Int) < 0 := by rw [← e]; exact p
    have r : m < 0 := by
      apply Classical.byContradiction
      intro n
      have := Int.mul_nonneg (a := m) (b := (y : Int)) (by omega) (by omega)
      omega
    simp only [signed, if_true]
    omega
theorem dy_round (s : Bool) (c A B M b : Nat) (m : Int) (e : signed s c * (2 ^ A : Nat) = m * (2 ^ B : Nat)) (hm : m.natAbs < 2 ^ 53) (hb : (B : Int) - M = b - 1100) (b1 : 78 ≤ b) (b2 : b ≤ 2000) :
    ∃ (s' : Bool) (c' a' : Nat), round b64 (.fin s c ((A : Int) - M)) = .fin s' c' ((a' : Int) - 1100) ∧ signed s' c' * (2 ^ a' : Nat) = m * (2 ^ b : Nat) := by
  by_cases hc : c = 0
  · subst hc
    have m0 : m = 0 := by
      rw [signed_zero, Int.zero_mul] at e
      have := Int.mul_eq_zero.mp e.symm
      have : 0 < 2 ^ B := Nat.two_pow_pos B
      omega
    refine ⟨s, 0, 26, ?_, ?_⟩
    · rfl
    · rw [signed_zero, m0, Int.zero_mul, Int.zero_mul]
  · have sg := dy_sg s c (by omega) m _ _ (Nat.two_pow_pos A) (Nat.two_pow_pos B) e
    have e1 : c * 2 ^ A = m.natAbs * 2 ^ B := by
      have := congrArg Int.natAbs e
      rw [Int.natAbs_mul, Int.natAbs_mul, natAbs_signed] at this
      simpa using this
    generalize hn : m.natAbs = n at *
    have n0 : n ≠ 0 := by
      intro q
      rw [q, Nat.zero_mul] at e1
      have := Nat.mul_pos (Nat.pos_of_ne_zero hc) (Nat.two_pow_pos A)
      omega
    have l1 : n.log2 ≤ 52 := by
      have := (Nat.log2_lt n0).mpr hm
      omega
    have l2 : 2 ^ n.log2 ≤ n := Nat.log2_self_le n0
    have l3 : n < 2 ^ (n.log2 + 1) := Nat.lt_log2_self
    generalize hj : 52 - n.log2 = j at *
    have j1 : n.log2 + j = 52 := by omega
    have f1 : 2 ^ 52 ≤ n * 2 ^ j := by
      rw [← j1, Nat.pow_add]
      exact Nat.mul_le_mul_right _ l2
    have f2 : n * 2 ^ j < 2 ^ 53 := by
      have : 2 ^ 53 = 2 ^ (n.log2 + 1) * 2 ^ j := by rw [← Nat.pow_add]; congr 1; omega
      rw [this]
      exact Nat.mul_lt_mul_of_pos_right l3 (Nat.two_pow_pos j)
    refine ⟨s, n * 2 ^ j, b - j, ?_, ?_⟩
    · refine roundRatio_exact good_b64 (by decide) ⟨f2, ?_, ?_, Or.inr f1⟩ ?_
      · show (-1074 : Int) ≤ _
        omega
      · show _ ≤ (971 : Int)
        omega
      · rw [Nat.mul_one]
        by_cases g : B ≤ A + j
        · have k1 : ((A : Int) - M - (((b - j : Nat) : Int) - 1100)).toNat = A + j - B := by omega
          have k2 : ((((b - j : Nat) : Int) - 1100) - ((A : Int) - M)).toNat = 0 := by omega
          rw [k1, k2, Nat.pow_zero, Nat.mul_one]
          apply Nat.eq_of_mul_eq_mul_right (Nat.two_pow_pos B)
          rw [Nat.mul_assoc, ← Nat.pow_add, show A + j - B + B = A + j by omega, Nat.pow_add, ← Nat.mul_assoc, e1, Nat.mul_assoc, Nat.mul_comm (2 ^ B), ← Nat.mul_assoc]
        · have k1 : ((A : Int) - M - (((b - j : Nat) : Int) - 1100)).toNat = 0 := by omega
          have k2 : ((((b - j : Nat) : Int) - 1100) - ((A : Int) - M)).toNat = B - (A + j) := by omega
          rw [k1, k2, Nat.pow_zero, Nat.mul_one]
          apply Nat.eq_of_mul_eq_mul_right (Nat.two_pow_pos A)
          rw [e1, Nat.mul_assoc, Nat.mul_assoc, ← Nat.pow_add, ← Nat.pow_add]
          congr 2
          omega
    · rw [signed_mul, sg, Int.mul_assoc, show ((2 ^ j : Nat) : Int) * ((2 ^ (b - j) : Nat) : Int) = ((2 ^ b : Nat) : Int) by rw [← Int.natCast_mul, ← Nat.pow_add]; congr 2; omega]
theorem dy_int (n : Int) (x : UInt64) (h : val64 x = round b64 (ofInt n)) (hn : n.natAbs < 2 ^ 53) : Dy x n 1100 := by
  have sg : signed (decide (n < 0)) n.natAbs = n := by
    by_cases q : n < 0
    · simp only [signed, q, decide_true, if_true]; omega
    · simp only [signed, q, decide_false, Bool.false_eq_true, if_false]; omega
  obtain ⟨s, c, a, h1, h2⟩ := dy_round (decide (n < 0)) n.natAbs 1100 1100 1100 1100 n (by rw [sg]) hn rfl (by decide) (by decide)
  exact ⟨s, c, a, by rw [h]; exact h1, h2⟩
theorem dy_i2d (v : Int32) : Dy (i2d v) v.toInt 1100 := dy_int _ _ (val64_i2d v) (by have := v.le_toInt; have := v.toInt_lt; omega)
theorem dy_l2d (v : Int64) (h : v.toInt.natAbs < 2 ^ 53) : Dy (l2d v) v.toInt 1100 := dy_int _ _ (val64_l2d v) h
theorem dy_mul {x y : UInt64} {m n : Int} {b d k : Nat} (hx : Dy x m b) (hy : Dy y n d) (hk : b + d = k + 1100) (h : (m * n).natAbs < 2 ^ 53) (k1 : 78 ≤ k) (k2 : k ≤ 2000) : Dy (dmul x y) (m * n) k := by
  obtain ⟨s, c, a, h1, h2⟩ := hx
  obtain ⟨t, c', a', g1, g2⟩ := hy
  have e : exactProduct (val64 x) (val64 y) = .fin (s != t) (c * c') (((a + a' : Nat) : Int) - (2200 : Nat)) := by
    rw [h1, g1]
    simp only [exactProduct]
    congr 1
    omega
  have sm : signed (s != t) (c * c') = signed s c * signed t c' := by
    cases s <;> cases t <;> simp [signed, Int.neg_mul, Int.mul_neg]
  obtain ⟨s', c2, a2, r1, r2⟩ := dy_round (s != t) (c * c') (a + a') (b + d) 2200 k (m * n) (by
    rw [sm, Nat.pow_add, Nat.pow_add, Int.natCast_mul, Int.natCast_mul]
    calc signed s c * signed t c' * (((2 ^ a : Nat) : Int) * ((2 ^ a' : Nat) : Int)) = (signed s c * ((2 ^ a : Nat) : Int)) * (signed t c' * ((2 ^ a' : Nat) : Int)) := by ac_rfl
      _ = (m * ((2 ^ b : Nat) : Int)) * (n * ((2 ^ d : Nat) : Int)) := by rw [h2, g2]
      _ = m * n * (((2 ^ b : Nat) : Int) * ((2 ^ d : Nat) : Int)) := by ac_rfl) h (by omega) k1 k2
  exact ⟨s', c2, a2, by rw [val64_dmul, e]; exact r1, r2⟩
theorem dy_add {x y : UInt64} {m n : Int} {b : Nat} (hx : Dy x m b) (hy : Dy y n b) (h : (m + n).natAbs < 2 ^ 53) (k1 : 78 ≤ b) (k2 : b ≤ 2000) : Dy (dadd x y) (m + n) b := by
  obtain ⟨s, c, a, h1, h2⟩ := hx
  obtain ⟨t, c', a', g1, g2⟩ := hy
  have sgn : ∀ (v : Int) (z : Bool), (v = 0 → True) → signed (sumSign s t v) v.natAbs = v := by
    intro v z _
    unfold sumSign
    by_cases q : v = 0
    · rw [q]; simp [signed]
    · rw [if_neg q]
      by_cases r : v < 0
      · simp only [signed, r, decide_true, if_true]; omega
      · simp only [signed, r, decide_false, Bool.false_eq_true, if_false]; omega
  generalize hmn : min a a' = w at *
  have wa : w ≤ a := by omega
  have wa' : w ≤ a' := by omega
  have hq : min ((a : Int) - 1100) ((a' : Int) - 1100) = (w : Int) - (1100 : Nat) := by omega
  have hu : sumUnits s c ((a : Int) - 1100) t c' ((a' : Int) - 1100) ((w : Int) - (1100 : Nat)) * ((2 ^ w : Nat) : Int) = (m + n) * ((2 ^ b : Nat) : Int) := by
    unfold sumUnits inUnits
    rw [show ((a : Int) - 1100 - ((w : Int) - (1100 : Nat))).toNat = a - w by omega, show ((a' : Int) - 1100 - ((w : Int) - (1100 : Nat))).toNat = a' - w by omega, signed_mul, signed_mul, Int.add_mul, Int.mul_assoc, Int.mul_assoc, ← Int.natCast_mul, ← Int.natCast_mul, ← Nat.pow_add, ← Nat.pow_add, show a - w + w = a by omega, show a' - w + w = a' by omega, h2, g2, Int.add_mul]
  have e : exactSum (val64 x) (val64 y) = .fin (sumSign s t (sumUnits s c ((a : Int) - 1100) t c' ((a' : Int) - 1100) ((w : Int) - (1100 : Nat)))) (sumUnits s c ((a : Int) - 1100) t c' ((a' : Int) - 1100) ((w : Int) - (1100 : Nat))).natAbs ((w : Int) - (1100 : Nat)) := by
    rw [h1, g1]
    simp only [exactSum]
    rw [hq]
  obtain ⟨s', c2, a2, r1, r2⟩ := dy_round _ _ w b 1100 b (m + n) (by rw [sgn _ true (fun _ => trivial)]; exact hu) h (by omega) k1 k2
  exact ⟨s', c2, a2, by rw [val64_dadd, e]; exact r1, r2⟩
theorem dy_neg {x : UInt64} {m : Int} {b : Nat} (hx : Dy x m b) : Dy (dneg x) (-m) b := by
  obtain ⟨s, c, a, h1, h2⟩ := hx
  refine ⟨!s, c, a, by rw [val64_dneg, h1]; rfl, ?_⟩
  rw [show signed (!s) c = - signed s c by cases s <;> simp [signed], Int.neg_mul, h2, Int.neg_mul]
theorem dy_sub {x y : UInt64} {m n : Int} {b : Nat} (hx : Dy x m b) (hy : Dy y n b) (h : (m - n).natAbs < 2 ^ 53) (k1 : 78 ≤ b) (k2 : b ≤ 2000) : Dy (dsub x y) (m - n) b := by
  rw [dsub_eq]
  exact dy_add hx (dy_neg hy) h k1 k2
theorem dy_ratio (s : Bool) (c d A B k n : Nat) (E : Int) (hd : 0 < d) (e : c * 2 ^ A = n * d * 2 ^ B) (hn : n < 2 ^ 53) (hE : (A : Int) - B = E - (k - 1100)) (k1 : 78 ≤ k) (k2 : k ≤ 2000) :
    ∃ (c' a' : Nat), roundRatio b64 s c d E = .fin s c' ((a' : Int) - 1100) ∧ c' * 2 ^ a' = n * 2 ^ k := by
  by_cases n0 : n = 0
  · subst n0
    have c0 : c = 0 := by
      rw [Nat.zero_mul, Nat.zero_mul] at e
      have := Nat.mul_eq_zero.mp e
      have : 0 < 2 ^ A := Nat.two_pow_pos A
      omega
    subst c0
    exact ⟨0, 26, rfl, by rw [Nat.zero_mul, Nat.zero_mul]⟩
  · have l1 : n.log2 ≤ 52 := by
      have := (Nat.log2_lt n0).mpr hn
      omega
    have l2 : 2 ^ n.log2 ≤ n := Nat.log2_self_le n0
    have l3 : n < 2 ^ (n.log2 + 1) := Nat.lt_log2_self
    generalize hj : 52 - n.log2 = j at *
    have j1 : n.log2 + j = 52 := by omega
    have f1 : 2 ^ 52 ≤ n * 2 ^ j := by
      rw [← j1, Nat.pow_add]
      exact Nat.mul_le_mul_right _ l2
    have f2 : n * 2 ^ j < 2 ^ 53 := by
      have : 2 ^ 53 = 2 ^ (n.log2 + 1) * 2 ^ j := by rw [← Nat.pow_add]; congr 1; omega
      rw [this]
      exact Nat.mul_lt_mul_of_pos_right l3 (Nat.two_pow_pos j)
    refine ⟨n * 2 ^ j, k - j, ?_, ?_⟩
    · refine roundRatio_exact good_b64 hd ⟨f2, ?_, ?_, Or.inr f1⟩ ?_
      · show (-1074 : Int) ≤ _
        omega
      · show _ ≤ (971 : Int)
        omega
      · by_cases g : B ≤ A + j
        · have q1 : (E - (((k - j : Nat) : Int) - 1100)).toNat = A + j - B := by omega
          have q2 : ((((k - j : Nat) : Int) - 1100) - E).toNat = 0 := by omega
          rw [q1, q2, Nat.pow_zero, Nat.mul_one]
          apply Nat.eq_of_mul_eq_mul_right (Nat.two_pow_pos B)
          rw [Nat.mul_assoc, ← Nat.pow_add, show A + j - B + B = A + j by omega, Nat.pow_add, ← Nat.mul_assoc, e]
          ac_rfl
        · have q1 : (E - (((k - j : Nat) : Int) - 1100)).toNat = 0 := by omega
          have q2 : ((((k - j : Nat) : Int) - 1100) - E).toNat = B - (A + j) := by omega
          rw [q1, q2, Nat.pow_zero, Nat.mul_one]
          apply Nat.eq_of_mul_eq_mul_right (Nat.two_pow_pos A)
          rw [e, show B = j + (B - (A + j)) + A by omega, Nat.pow_add, Nat.pow_add, show j + (B - (A + j)) + A - (A + j) = B - (A + j) by omega]
          ac_rfl
    · rw [Nat.mul_assoc, ← Nat.pow_add]
      congr 2
      omega
/-- an exact quotient -/
theorem dy_div {x y : UInt64} {m n r : Int} {b d k : Nat} (hx : Dy x m b) (hy : Dy y n d) (hn : n ≠ 0) (hr : m = r * n) (hk : b + 1100 = k + d) (h : r.natAbs < 2 ^ 53) (k1 : 78 ≤ k) (k2 : k ≤ 2000) : Dy (ddiv x y) r k := by
  obtain ⟨s, c, a, h1, h2⟩ := hx
  obtain ⟨t, c', a', g1, g2⟩ := hy
  have c0 : 0 < c' := by
    apply Nat.pos_of_ne_zero
    intro q
    rw [q, signed_zero, Int.zero_mul] at g2
    have := Int.mul_eq_zero.mp g2.symm
    have : 0 < 2 ^ d := Nat.two_pow_pos d
    omega
  have e1 : c * 2 ^ a = r.natAbs * n.natAbs * 2 ^ b := by
    have := congrArg Int.natAbs h2
    rw [hr, Int.natAbs_mul, Int.natAbs_mul, Int.natAbs_mul, natAbs_signed] at this
    simpa using this
  have e2 : c' * 2 ^ a' = n.natAbs * 2 ^ d := by
    have := congrArg Int.natAbs g2
    rw [Int.natAbs_mul, Int.natAbs_mul, natAbs_signed] at this
    simpa using this
  have n0 : 0 < n.natAbs := by omega
  have e3 : c * 2 ^ (a + d) = r.natAbs * c' * 2 ^ (b + a') := by
    apply Nat.eq_of_mul_eq_mul_right n0
    rw [Nat.pow_add, Nat.pow_add]
    calc c * (2 ^ a * 2 ^ d) * n.natAbs = (c * 2 ^ a) * (n.natAbs * 2 ^ d) := by ac_rfl
      _ = (r.natAbs * n.natAbs * 2 ^ b) * (c' * 2 ^ a') := by rw [e1, e2]
      _ = r.natAbs * c' * (2 ^ b * 2 ^ a') * n.natAbs := by ac_rfl
  obtain ⟨c2, a2, r1, r2⟩ := dy_ratio (s != t) c c' (a + d) (b + a') k r.natAbs ((a : Int) - 1100 - ((a' : Int) - 1100)) c0 e3 h (by omega) k1 k2
  refine ⟨s != t, c2, a2, ?_, ?_⟩
  · rw [val64_ddiv, h1, g1]
    simp only [quotient]
    rw [if_neg (by omega)]
    exact r1
  · have e4 : signed (s != t) c2 * ((2 ^ a2 : Nat) : Int) = signed (s != t) (r.natAbs) * ((2 ^ k : Nat) : Int) := by
      rw [← signed_mul, ← signed_mul, r2]
    rw [e4]
    congr 1
    by_cases q : r = 0
    · rw [q]; exact signed_zero _
    · have cc : 0 < c := by
        apply Nat.pos_of_ne_zero
        intro z
        rw [z, Nat.zero_mul] at e1
        have : 0 < r.natAbs * n.natAbs * 2 ^ b := Nat.mul_pos (Nat.mul_pos (by omega) n0) (Nat.two_pow_pos b)
        omega
      have s1 := dy_sg s c cc m _ _ (Nat.two_pow_pos a) (Nat.two_pow_pos b) h2
      have s2 := dy_sg t c' c0 n _ _ (Nat.two_pow_pos a') (Nat.two_pow_pos d) g2
      have s3 : signed (s != t) (r.natAbs * n.natAbs) * signed t n.natAbs = signed s m.natAbs * (n.natAbs : Int) := by
        rw [hr, Int.natAbs_mul]
        cases s <;> cases t <;> simp [signed, Int.neg_mul, Int.mul_neg]
      rw [s1, s2, hr, signed_mul] at s3
      have s4 : signed (s != t) r.natAbs * ((n.natAbs : Int) * n) = r * ((n.natAbs : Int) * n) := by
        calc signed (s != t) r.natAbs * ((n.natAbs : Int) * n) = signed (s != t) r.natAbs * (n.natAbs : Int) * n := by ac_rfl
          _ = r * n * (n.natAbs : Int) := s3
          _ = r * ((n.natAbs : Int) * n) := by ac_rfl
      exact Int.eq_of_mul_eq_mul_right (Int.mul_ne_zero (by omega) hn) s4
theorem dy_fin {x : UInt64} {m : Int} {b : Nat} (h : Dy x m b) : val64 x ≠ .nan := by
  obtain ⟨s, c, a, h1, -⟩ := h
  rw [h1]
  exact nofun
theorem dy_cmp {x y : UInt64} {m n : Int} {b : Nat} (hx : Dy x m b) (hy : Dy y n b) : dcmp x y = some (compare m n) := by
  obtain ⟨s, c, a, h1, h2⟩ := hx
  obtain ⟨t, c', a', g1, g2⟩ := hy
  show order (val64 x) (val64 y) = _
  rw [h1, g1]
  simp only [order]
  congr 1
  generalize hmn : min a a' = w at *
  have wa : w ≤ a := by omega
  have wa' : w ≤ a' := by omega
  have hq : min ((a : Int) - 1100) ((a' : Int) - 1100) = (w : Int) - 1100 := by omega
  rw [hq]
  unfold inUnits
  rw [show ((a : Int) - 1100 - ((w : Int) - 1100)).toNat = a - w by omega, show ((a' : Int) - 1100 - ((w : Int) - 1100)).toNat = a' - w by omega]
  have p1 : signed s (c * 2 ^ (a - w)) * ((2 ^ w : Nat) : Int) = m * ((2 ^ b : Nat) : Int) := by
    rw [signed_mul, Int.mul_assoc, ← Int.natCast_mul, ← Nat.pow_add, show a - w + w = a by omega, h2]
  have p2 : signed t (c' * 2 ^ (a' - w)) * ((2 ^ w : Nat) : Int) = n * ((2 ^ b : Nat) : Int) := by
    rw [signed_mul, Int.mul_assoc, ← Int.natCast_mul, ← Nat.pow_add, show a' - w + w = a' by omega, g2]
  generalize signed s (c * 2 ^ (a - w)) = u at *
  generalize signed t (c' * 2 ^ (a' - w)) = v at *
  have hw : (0 : Int) < ((2 ^ w : Nat) : Int) := Int.natCast_pos.mpr (Nat.two_pow_pos w)
  have hb : (0 : Int) < ((2 ^ b : Nat) : Int) := Int.natCast_pos.mpr (Nat.two_pow_pos b)
  have lt : u < v ↔ m < n := by
    constructor
    · intro q
      have := Int.mul_lt_mul_of_pos_right q hw
      rw [p1, p2] at this
      exact Int.lt_of_mul_lt_mul_right this (by omega)
    · intro q
      have := Int.mul_lt_mul_of_pos_right q hb
      rw [← p1, ← p2] at this
      exact Int.lt_of_mul_lt_mul_right this (by omega)
  have eq : u = v ↔ m = n := by
    constructor
    · intro q
      rw [q] at p1
      exact Int.eq_of_mul_eq_mul_right (by omega) (p1.symm.trans p2)
    · intro q
      rw [q] at p1
      exact Int.eq_of_mul_eq_mul_right (by omega) (p1.trans p2.symm)
  simp only [compare, compareOfLessAndEq, lt, eq]
theorem dy_up {x : UInt64} {m : Int} {b : Nat} (h : Dy x m b) (k : Nat) (hk : k ≤ b) : Dy x (m * (2 ^ k : Nat)) (b - k) := by
  obtain ⟨s, c, a, h1, h2⟩ := h
  exact ⟨s, c, a, h1, by rw [h2, Int.mul_assoc, ← Int.natCast_mul, ← Nat.pow_add, show k + (b - k) = b by omega]⟩
theorem dy_1024 : Dy 4652218415073722368 1 1110 := ⟨false, 2 ^ 52, 1058, by decide +kernel, by decide +kernel⟩
theorem dy_2p20 : Dy 4697254411347427328 1 1120 := ⟨false, 2 ^ 52, 1068, by decide +kernel, by decide +kernel⟩
theorem dy_2p30 : Dy 4742290407621132288 1 1130 := ⟨false, 2 ^ 52, 1078, by decide +kernel, by decide +kernel⟩
theorem dy_one : Dy dconst1 1024 1090 := ⟨false, 2 ^ 52, 1048, by decide +kernel, by decide +kernel⟩
theorem own_mul (x y X Y : Int) (h0 : 0 ≤ x) (h1 : x ≤ X) (h2 : 0 ≤ y) (h3 : y ≤ Y) : 0 ≤ x * y ∧ x * y ≤ X * Y :=
  ⟨Int.mul_nonneg h0 h2, Int.le_trans (Int.mul_le_mul_of_nonneg_right h1 h2) (Int.mul_le_mul_of_nonneg_left h3 (by omega))⟩
theorem own_d1 {x : Int32} {c : UInt64} {j k : Nat} (hc : Dy c 1 j) (hk : 2200 = k + j) (k1 : 78 ≤ k) (k2 : k ≤ 2000) : Dy (ddiv (i2d x) c) x.toInt k :=
  dy_div (dy_i2d x) hc (by decide) (by omega) (by omega) (by have := x.le_toInt; have := x.toInt_lt; omega) k1 k2
theorem own_d2 {x : Int64} {c : UInt64} {j k : Nat} (h : x.toInt.natAbs < 2 ^ 53) (hc : Dy c 1 j) (hk : 2200 = k + j) (k1 : 78 ≤ k) (k2 : k ≤ 2000) : Dy (ddiv (l2d x) c) x.toInt k :=
  dy_div (dy_l2d x h) hc (by decide) (by omega) (by omega) h k1 k2
/-- what the method reckons, step by step -/
theorem own_s1 {a p : UInt64} {α P : Int} (ha : Dy a α 1090) (hp : Dy p P 1080) (a0 : 0 ≤ α) (a1 : α ≤ 1024) (p0 : 0 ≤ P) (p1 : P ≤ 1048576) : Dy (dmul a p) (α * P) 1070 :=
  dy_mul ha hp (by decide) (by have := own_mul α P 1024 1048576 a0 a1 p0 p1; omega) (by decide) (by decide)
theorem own_s2 {a : UInt64} {α : Int} (ha : Dy a α 1090) (a0 : 0 ≤ α) (a1 : α ≤ 1024) : Dy (dsub dconst1 a) (1024 - α) 1090 :=
  dy_sub dy_one ha (by omega) (by decide) (by decide)
theorem own_s3 {a p r : UInt64} {α P R : Int} (ha : Dy a α 1090) (hp : Dy p P 1080) (hr : Dy r R 1080) (a0 : 0 ≤ α) (a1 : α ≤ 1024) (p0 : 0 ≤ P) (p1 : P ≤ 1048576) (r0 : 0 ≤ R) (r1 : R ≤ 1048576) : Dy (dadd (dmul a p) (dmul (dsub dconst1 a) r)) (α * P + (1024 - α) * R) 1070 :=
  dy_add (own_s1 ha hp a0 a1 p0 p1) (own_s1 (own_s2 ha a0 a1) hr (by omega) (by omega) r0 r1) (by have := own_mul α P 1024 1048576 a0 a1 p0 p1; have := own_mul (1024 - α) R 1024 1048576 (by omega) (by omega) r0 r1; omega) (by decide) (by decide)
def ssk (lo hi P R : Int) : Int := (if R < P then hi else lo) * P + (1024 - (if R < P then hi else lo)) * R
theorem own_b (lo hi P R : Int) (h0 : 0 ≤ lo) (h1 : lo ≤ hi) (h2 : hi ≤ 1024) (p0 : 0 ≤ P) (p1 : P ≤ 1048576) (r0 : 0 ≤ R) (r1 : R ≤ 1048576) : 0 ≤ ssk lo hi P R ∧ ssk lo hi P R ≤ 2147483648 := by
  unfold ssk
  have key : ∀ α : Int, 0 ≤ α → α ≤ 1024 → 0 ≤ α * P + (1024 - α) * R ∧ α * P + (1024 - α) * R ≤ 2147483648 := fun α a0 a1 => by
    have u := own_mul α P 1024 1048576 a0 a1 p0 p1
    have v := own_mul (1024 - α) R 1024 1048576 (by omega) (by omega) r0 r1
    omega
  split
  · exact key hi (by omega) h2
  · exact key lo h0 (by omega)
theorem own_max (lo hi P R : Int) (h1 : lo ≤ hi) : ssk lo hi P R = (if lo * P + (1024 - lo) * R < hi * P + (1024 - hi) * R then hi * P + (1024 - hi) * R else lo * P + (1024 - lo) * R) := by
  unfold ssk
  have e : hi * P + (1024 - hi) * R - (lo * P + (1024 - lo) * R) = (hi - lo) * (P - R) := by
    simp only [Int.sub_mul, Int.mul_sub]
    omega
  by_cases q : R < P
  · have n : 0 ≤ (hi - lo) * (P - R) := Int.mul_nonneg (by omega) (by omega)
    simp only [q, if_true]
    split
    · rfl
    · omega
  · have n : 0 ≤ (hi - lo) * (R - P) := Int.mul_nonneg (by omega) (by omega)
    have m : (hi - lo) * (R - P) = - ((hi - lo) * (P - R)) := by rw [← Int.mul_neg, Int.neg_sub]
    simp only [q, if_false]
    rw [if_neg (by omega)]
theorem dy_nn {x : UInt64} {m : Int} {b : Nat} (h : Dy x m b) : Jvm.Free.Fl.NoNaN64 x := Jvm.Free.Fl.val64_no.mpr (dy_fin h)
end Dyad
end Jvm.Pilot.@@N@@
namespace Jvm.Pilot.@@N@@
open Jvm Jvm.ClassFile Sem Op Lib Jvm.Free Jvm.Stand Jvm.LawKit Jvm.RoadKit Bundle Jvm.Pilot.@@N@@.Jvm.D
/-- from here the run comes to a state of which G holds -/
def OWay (p : Program) (e : Env) (below : List Frame) (G : State → Prop) (T : State) (g : JFrame) : Prop := ∃ t, Steps p.tables e below (T.setTop g) t ∧ G t
/-- how a body ends: it returned, with what Q says of its value, the heap and the places written -/
def OEnd (s : State) (below : List Frame) (Q : Option Value → Heap → List Loc → Prop) (cs sl : Nat) (t : State) : Prop := ∃ o, t.status = .running ∧ Ended t below o ∧ ∃ v L, o = .returned v ∧ Q v t.heap L ∧ FrameEnd s o t L cs sl
/-- a body's contract, as a call wants it -/
def OCon (l : Launch) (y : MethodName) (bytes : ByteArray) (maxL : Nat) (rt : Option FieldType) (ws : List Jvm.Cond) (rm : Room) (Z : State) (as' : Array Value) (h : Heap) (Q : Option Value → Heap → List Loc → Prop) : Prop :=
  MetFree l y (head1 (Jvm.Cond.code y bytes maxL rt :: ws) rm) (fun a U => a = as' ∧ Z.Warmed39 U.vm ∧ U.heap = h) (fun _ _ _ _ _ => True) (fun _ U o U' => ∃ v L, o = .returned v ∧ Q v U'.heap L ∧ FrameEnd U o U' L rm.cells rm.slots)
section Own
variable {p : Program} {l : Launch} {e : Env} {R : Room} {s : State} {m : MethodId} {args : Array Value} {below : List Frame} {meth : Method} {c : Code} {T T' : State} {locs : List Loc} {cells slots : Nat} {Z : State} {a0 : Array Value} {h : Heap} {G : State → Prop} {g g' : JFrame} {Q : Option Value → Heap → List Loc → Prop} {cs sl : Nat}
theorem ogo (q : ∀ t, Steps p.tables e below (T'.setTop g') t → Steps p.tables e below (T.setTop g) t) (w : OWay p e below G T' g') : OWay p e below G T g := by
  obtain ⟨t, h1, h2⟩ := w
  exact ⟨t, q t h1, h2⟩
theorem ogoS (q : Steps p.tables e below (T.setTop g) (T'.setTop g')) (w : OWay p e below G T' g') : OWay p e below G T g := ogo (fun _ k => q.trans k) w
theorem ogoE (q : g = g') (w : OWay p e below G T g') : OWay p e below G T g := q ▸ w
theorem ocon {y : MethodName} {bytes : ByteArray} {maxL : Nat} {rt : Option FieldType} {ws : List Jvm.Cond} {rm : Room} {as' : Array Value} (hp : plainFor y = true)
    (body : ∀ (p : Program) (e : Env) (s : State) (m : MethodId) (below : List Frame) (meth : Method) (c : Code) (s₁ : State), p.tables.exec = Jvm.exec → c.code = bytes → c.maxLocals = maxL → s.vm.findClass y.cls = some m.cls → meth.name = y.name → meth.sig.returnType = rt → meth.locks = false → Z.Warmed39 s.vm →
      Stand p l e rm s m as' below meth c s₁ [] 0 0 → s₁.heap = h → OWay p e below (OEnd s below Q rm.cells rm.slots) s₁ (entryFrame m as' maxL)) : OCon l y bytes maxL rt ws rm Z as' h Q := by
  refine MetFree.of_bodySF hp hisR ?_
  intro p e s m args below meth c s₁ Bd hml0 hP hK
  obtain ⟨rfl, hZ, hh⟩ := hP
  obtain ⟨t, h1, o, h2, h3, h4⟩ := body p e s m below meth c s₁ Bd.exec Bd.bytes hml0 (findClass_of_methodNamed Bd.named) (name_of_methodNamed Bd.named Bd.method).1 Bd.returns Bd.notSynchronized hZ (Stand.of_body Bd) (by rw [← hh, Bd.state]; rfl)
  exact ⟨t, o, h1, h2, h3, h4⟩
theorem wRetN (X : Stand p l e R s m args below meth c T locs cells slots) (hx : p.tables.exec = Jvm.exec) {pc : Nat} {Ls : Array Slot} {z : Int32} {t : FieldType} {rest : List Value} (hret : meth.sig.returnType = some t) (hlk : meth.locks = false) (ht : t = .boolean ∨ t = .byte ∨ t = .char ∨ t = .short)
    (hd : decode c.code pc = .ok (.ireturn, 1)) (hc : cells ≤ cs) (hs : slots ≤ sl) (eT : T.heap = h) (hq : Q (some (.int (nar t z))) h locs) : OWay p e below (OEnd s below Q cs sl) T (mkF m pc Ls (.int z :: rest)) := by
  obtain ⟨fs, hr, hrun, hended, hW, hsame⟩ := X.leave (v := some (.int (nar t z))) (fun q => by rw [hret] at q; cases q) hlk
  exact ⟨_, retN X hx hret ht hd hr, _, hrun, hended, _, _, rfl, by subst eT; exact hq, ⟨_, rfl⟩, hW, hsame.mono hc hs⟩
theorem wRet (X : Stand p l e R s m args below meth c T locs cells slots) (hx : p.tables.exec = Jvm.exec) {pc : Nat} {Ls : Array Slot} {w : Value} {t : FieldType} {i : Instr} {rest : List Value} (hret : meth.sig.returnType = some t) (hlk : meth.locks = false) (hn : narrow t w = w)
    (hi : (i = .ireturn ∧ (t = .int ∨ t = .boolean ∨ t = .byte ∨ t = .char ∨ t = .short) ∧ ∃ z, w = .int z) ∨ (i = .lreturn ∧ t = .long ∧ ∃ z, w = .long z) ∨ (i = .dreturn ∧ t = .double ∧ ∃ z, w = .double z) ∨ (i = .freturn ∧ t = .float ∧ ∃ z, w = .float z) ∨ (i = .areturn ∧ t.isReference = true ∧ w.isRef = true))
    (hd : decode c.code pc = .ok (i, 1)) (hc : cells ≤ cs) (hs : slots ≤ sl) (eT : T.heap = h) (hq : Q (some w) h locs) : OWay p e below (OEnd s below Q cs sl) T (mkF m pc Ls (w :: rest)) := by
  obtain ⟨fs, hr, hrun, hended, hW, hsame⟩ := X.leave (v := some w) (fun q => by rw [hret] at q; cases q) hlk
  exact ⟨_, retOut X hx hret hn hi hd hr, _, hrun, hended, _, _, rfl, by subst eT; exact hq, ⟨_, rfl⟩, hW, hsame.mono hc hs⟩
theorem wRetV (X : Stand p l e R s m args below meth c T locs cells slots) (hx : p.tables.exec = Jvm.exec) {pc : Nat} {Ls : Array Slot} (hret : meth.sig.returnType = none) (hlk : meth.locks = false)
    (hd : decode c.code pc = .ok (.return_, 1)) (hc : cells ≤ cs) (hs : slots ≤ sl) (eT : T.heap = h) (hq : Q none h locs) : OWay p e below (OEnd s below Q cs sl) T (mkF m pc Ls []) := by
  obtain ⟨fs, hr, hrun, hended, hW, hsame⟩ := X.leave (v := none) (fun _ => rfl) hlk
  exact ⟨_, X.returnOut hx hret hd hr, _, hrun, hended, _, _, rfl, by subst eT; exact hq, ⟨_, rfl⟩, hW, hsame.mono hc hs⟩
theorem wStatic (X : Stand p l e R s m args below meth c T locs cells slots) (hx : p.tables.exec = Jvm.exec) (hZ : Z.Warmed39 s.vm) {own : String} {index : Nat} {y : MethodName} {bytes : ByteArray} {maxL : Nat} {rt : Option FieldType} {rm : Room} {as' : Array Value} (hown : s.vm.findClass own = some m.cls)
    (w1 : (Jvm.Cond.methodLink own index y).before a0 Z = true) (w2 : (Jvm.Cond.static y).before a0 Z = true) (w3 : (Jvm.Cond.initialized y.cls).before a0 Z = true) (w4 : (Jvm.Cond.code y bytes maxL rt).before a0 Z = true) (hy : y.cls ≠ "java/lang/invoke/MethodHandle" ∧ y.cls ≠ "java/lang/invoke/VarHandle")
    (hM : OCon l y bytes maxL rt [] rm Z as' h Q) (W : Nat) (hf : rm.frames + 1 ≤ R.frames) (hl : W + (maxL + 11) + rm.locals ≤ R.locals) {g : JFrame} (hg : g.method = m) (hsize : g.locals.size = c.maxLocals) {argsL rest : List Value} (hlen : ∀ sig, parseMethodDescriptor y.desc = some sig → argsL.length = sig.parameters.length)
    (hstack : g.stack = argsL.reverse ++ rest) (hW : 2 * g.monitorRoom + (rest.map fun v => v.category).sum ≤ W) (hd : decode c.code g.pc = .ok (.invokestatic index, 3)) (has : argsL.toArray = as') (eT : T.heap = h) (hc : cells + rm.cells ≤ R.cells) (hs : slots + rm.slots ≤ R.slots) :
    ∃ (v : Option Value) (T' : State) (L : List Loc), Stand p l e R s m args below meth c T' (locs ++ L) (cells + rm.cells) (slots + rm.slots) ∧ Q v T'.heap L ∧ ∀ target, Steps p.tables e below (T'.setTop { g with pc := g.pc + 3, stack := v.toList ++ rest }) target → Steps p.tables e below (T.setTop g) target := by
  obtain ⟨v, _, ⟨T1, L1, k1, n1⟩, -, X1, ⟨Lc, hQ, l1, y1, z1⟩, st⟩ := Jvm.LawKit.callS X hx (y := y) hown (mvT hZ w1) (mvT hZ w2) (mvT hZ w3) (mvT hZ w4) hy (backOf (W := W) hM hZ w4 w3 hf hl) (g := g) hg hsize (argsL := argsL) (rest := rest) hlen hstack hW hd (fun _ _ => ⟨has, eT, hc, hs⟩)
  dsimp only [Pt.U, Pt.locs, Pt.cells, Pt.slots] at X1 l1 y1 z1 st hQ
  subst l1 y1 z1
  exact ⟨v, T1, Lc, X1, hQ, st⟩
theorem wInit (X : Stand p l e R s m args below meth c T locs cells slots) (hx : p.tables.exec = Jvm.exec) (hZ : Z.Warmed39 s.vm) {own : String} {index : Nat} {y : MethodName} {bytes : ByteArray} {maxL : Nat} {rm : Room} {as' : Array Value} (hy1 : y.name = "<init>") (hown : s.vm.findClass own = some m.cls)
    (w1 : (Jvm.Cond.methodLink own index y).before a0 Z = true) (w2 : (Jvm.Cond.instanceMethod y).before a0 Z = true) (w3 : (Jvm.Cond.initialized y.cls).before a0 Z = true) (w4 : (Jvm.Cond.code y bytes maxL none).before a0 Z = true) (hy : y.cls ≠ "java/lang/invoke/MethodHandle" ∧ y.cls ≠ "java/lang/invoke/VarHandle")
    (hM : OCon l y bytes maxL none [] rm Z as' h Q) (W : Nat) (hf : rm.frames + 1 ≤ R.frames) (hl : W + (maxL + 11) + rm.locals ≤ R.locals) {g : JFrame} (hg : g.method = m) (hsize : g.locals.size = c.maxLocals) {a : Addr} {argsL rest : List Value} (hlen : ∀ sig, parseMethodDescriptor y.desc = some sig → argsL.length = sig.parameters.length)
    (hstack : g.stack = argsL.reverse ++ .ref a :: rest) (hW : 2 * g.monitorRoom + (rest.map fun v => v.category).sum ≤ W) (hd : decode c.code g.pc = .ok (.invokespecial index, 3)) (has : (.ref a :: argsL).toArray = as') (eT : T.heap = h) (hc : cells + rm.cells ≤ R.cells) (hs : slots + rm.slots ≤ R.slots) :
    ∃ (v : Option Value) (T' : State) (L : List Loc), Stand p l e R s m args below meth c T' (locs ++ L) (cells + rm.cells) (slots + rm.slots) ∧ Q v T'.heap L ∧ Steps p.tables e below (T.setTop g) (T'.setTop { g with pc := g.pc + 3, stack := v.toList ++ rest }) := by
  obtain ⟨v, _, ⟨T1, L1, k1, n1⟩, -, X1, ⟨Lc, hQ, l1, y1, z1⟩, st⟩ := X.specialBack hx (y := y) hy1 hown (mvT hZ w1) (mvT hZ w2) (mvT hZ w4) hy (backOf (W := W) hM hZ w4 w3 hf hl) (g := g) hg hsize (Steps.refl _) (a := a) (argsL := argsL) (rest := rest) hlen hstack hW hd (fun _ _ => ⟨has, eT, hc, hs⟩)
  dsimp only [Pt.U, Pt.locs, Pt.cells, Pt.slots] at X1 l1 y1 z1 st hQ
  subst l1 y1 z1
  exact ⟨v, T1, Lc, X1, hQ, st⟩
theorem wVirtual (X : Stand p l e R s m args below meth c T locs cells slots) (hx : p.tables.exec = Jvm.exec) (hZ : Z.Warmed39 s.vm) {own C : String} {index : Nat} {y z : MethodName} {bytes : ByteArray} {maxL : Nat} {rt : Option FieldType} {rm : Room} {as' : Array Value} (hown : s.vm.findClass own = some m.cls)
    (w1 : (Jvm.Cond.methodLink own index y).before a0 Z = true) (w2 : (Jvm.Cond.declares y).before a0 Z = true) (nf : NotFace s y) (w5 : (Jvm.Cond.selects C y z).before a0 Z = true) (w6 : (Jvm.Cond.instanceMethod z).before a0 Z = true) (w3 : (Jvm.Cond.initialized z.cls).before a0 Z = true) (w4 : (Jvm.Cond.code z bytes maxL rt).before a0 Z = true)
    (hy : y.cls ≠ "java/lang/invoke/MethodHandle" ∧ y.cls ≠ "java/lang/invoke/VarHandle") (hM : OCon l z bytes maxL rt [] rm Z as' h Q) (W : Nat) (hf : rm.frames + 1 ≤ R.frames) (hl : W + (maxL + 11) + rm.locals ≤ R.locals) {b : Addr} (E : Exa Z h b C) {g : JFrame} (hg : g.method = m) (hsize : g.locals.size = c.maxLocals) {argsL rest : List Value} (hlen : ∀ sig, parseMethodDescriptor y.desc = some sig → argsL.length = sig.parameters.length)
    (hstack : g.stack = argsL.reverse ++ .ref b :: rest) (hW : 2 * g.monitorRoom + (rest.map fun v => v.category).sum ≤ W) (hd : decode c.code g.pc = .ok (.invokevirtual index, 3)) (has : (.ref b :: argsL).toArray = as') (eT : T.heap = h) (hc : cells + rm.cells ≤ R.cells) (hs : slots + rm.slots ≤ R.slots) :
    ∃ (v : Option Value) (T' : State) (L : List Loc), Stand p l e R s m args below meth c T' (locs ++ L) (cells + rm.cells) (slots + rm.slots) ∧ Q v T'.heap L ∧ Steps p.tables e below (T.setTop g) (T'.setTop { g with pc := g.pc + 3, stack := v.toList ++ rest }) := by
  obtain ⟨cq, kq, qa, qb, qc⟩ := isOf hZ eT E
  obtain ⟨v, _, ⟨T1, L1, k1, n1⟩, -, X1, ⟨Lc, hQ, l1, y1, z1⟩, st⟩ := X.virtualBack hx (y := y) (z := z) hown (mvT hZ w1) (mvT hZ w2) nf (mvT hZ w5) (mvT hZ w6) hy (backOf (W := W) hM hZ w4 w3 hf hl) qa qc (g := g) hg hsize (Steps.refl _) (argsL := argsL) (rest := rest) hlen hstack hW hd (fun _ _ => ⟨has, eT, hc, hs⟩)
  dsimp only [Pt.U, Pt.locs, Pt.cells, Pt.slots] at X1 l1 y1 z1 st hQ
  subst l1 y1 z1
  exact ⟨v, T1, Lc, X1, hQ, st⟩
end Own
end Jvm.Pilot.@@N@@
namespace Jvm.Pilot.@@N@@
open Jvm Jvm.ClassFile Sem Op Lib Jvm.Free Jvm.Stand Jvm.LawKit Jvm.RoadKit Bundle Jvm.Pilot.@@N@@.Jvm.D
theorem own_gt {x y : UInt64} {m n : Int} {b : Nat} (hx : Dy x m b) (hy : Dy y n b) : ((0 : Int32) < cmpValue (FP.dcmp x y) .l) ↔ n < m := by
  have e : FP.dcmp x y = some (compare m n) := dy_cmp hx hy
  rw [e]
  simp only [compare, compareOfLessAndEq]
  by_cases q : m < n
  · simp only [q, if_true]
    constructor
    · intro z; exact absurd z (by decide)
    · intro z; omega
  · by_cases r : m = n
    · subst r
      simp only [Int.lt_irrefl, if_false, if_true]
      constructor
      · intro z; exact absurd z (by decide)
      · intro z; first | exact z.elim | omega
    · simp only [q, r, if_false]
      constructor
      · intro z; omega
      · intro z; decide
theorem own_eq {x y : UInt64} {m : Int} {b : Nat} (hx : Dy x m b) (hy : Dy y m b) : cmpValue (FP.dcmp x y) .l = (0 : Int32) := by
  have e : FP.dcmp x y = some (compare m m) := dy_cmp hx hy
  rw [e]
  simp only [compare, compareOfLessAndEq, Int.lt_irrefl, if_false, if_true]
  rfl
theorem own_rem (p v : Int32) (h : v = ((p &&& (2147483647 : Int32)) % (1025 : Int32))) : 0 ≤ v.toInt ∧ v.toInt ≤ 1024 := by
  have m := c_mask p 2147483647 31 (by decide) (by decide)
  have d := (c_irem (p &&& 2147483647) 1025 1025 (by decide)).1 (by omega)
  rw [h]
  omega
theorem own_rem2 (p : Int32) (v : Int64) (h : v = (((p &&& (2147483647 : Int32)) % (1048577 : Int32)).toInt64)) : 0 ≤ v.toInt ∧ v.toInt ≤ 1048576 := by
  have m := c_mask p 2147483647 31 (by decide) (by decide)
  have d := (c_irem (p &&& 2147483647) 1048577 1048577 (by decide)).1 (by omega)
  have i := c_i2l ((p &&& 2147483647) % 1048577)
  rw [h]
  omega
theorem own_mm (a b lo hi : Int32) (ha : 0 ≤ a.toInt ∧ a.toInt ≤ 1024) (hb : 0 ≤ b.toInt ∧ b.toInt ≤ 1024) (h1 : lo = (if b < a then b else a)) (h2 : hi = (if a < b then b else a)) : 0 ≤ lo.toInt ∧ lo.toInt ≤ hi.toInt ∧ hi.toInt ≤ 1024 := by
  subst h1 h2
  by_cases q : b < a <;> by_cases r : a < b <;> simp only [q, r, if_true, if_false] <;> simp only [Int32.lt_iff_toInt_lt] at q r <;> omega
theorem own_at (v : Int32) (p r z : Int64) (hv : 0 ≤ v.toInt ∧ v.toInt ≤ 1024) (hp : 0 ≤ p.toInt ∧ p.toInt ≤ 1048576) (hr : 0 ≤ r.toInt ∧ r.toInt ≤ 1048576) (h : z = ((v.toInt64) * p) + ((((1024 : Int32) - v).toInt64) * r)) : z.toInt = v.toInt * p.toInt + (1024 - v.toInt) * r.toInt := by
  have s := c_isub 1024 v
  have e : (1024 : Int32).toInt = 1024 := by decide
  have rs := rng32 (1024 - v)
  have t : ((1024 : Int32) - v).toInt = 1024 - v.toInt := by omega
  have c1 := c_lmul v.toInt64 p
  have c2 := c_lmul ((1024 : Int32) - v).toInt64 r
  have c3 := c_ladd (v.toInt64 * p) (((1024 : Int32) - v).toInt64 * r)
  have r1 := rng64 (v.toInt64 * p)
  have r2 := rng64 (((1024 : Int32) - v).toInt64 * r)
  have r3 := rng64 z
  rw [← h] at c3
  rw [c_i2l] at c1 c2
  rw [t] at c2
  have u := own_mul v.toInt p.toInt 1024 1048576 hv.1 hv.2 hp.1 hp.2
  have w := own_mul (1024 - v.toInt) r.toInt 1024 1048576 (by omega) (by omega) hr.1 hr.2
  generalize v.toInt * p.toInt = A at *
  generalize (1024 - v.toInt) * r.toInt = B at *
  omega
theorem own_best (lo hi : Int32) (p r a b z : Int64) (hl : 0 ≤ lo.toInt ∧ lo.toInt ≤ hi.toInt ∧ hi.toInt ≤ 1024) (ha : a.toInt = lo.toInt * p.toInt + (1024 - lo.toInt) * r.toInt) (hb : b.toInt = hi.toInt * p.toInt + (1024 - hi.toInt) * r.toInt) (h : z = (if a < b then b else a)) : z.toInt = ssk lo.toInt hi.toInt p.toInt r.toInt := by
  rw [own_max _ _ _ _ hl.2.1, ← ha, ← hb, h]
  simp only [Int64.lt_iff_toInt_lt]
  split <;> rfl
def imin (a b : Int32) : Int32 := if b < a then b else a
theorem d1_0 : decode jdk_29_method_69_code 0 = .ok (.iload_n 0, 1) := by decide +kernel
theorem d1_1 : decode jdk_29_method_69_code 1 = .ok (.iload_n 1, 1) := by decide +kernel
theorem d1_2 : decode jdk_29_method_69_code 2 = .ok (.if_icmp .gt 7, 3) := by decide +kernel
theorem d1_9 : decode jdk_29_method_69_code 9 = .ok (.iload_n 1, 1) := by decide +kernel
theorem d1_10 : decode jdk_29_method_69_code 10 = .ok (.ireturn, 1) := by decide +kernel
theorem d1_5 : decode jdk_29_method_69_code 5 = .ok (.iload_n 0, 1) := by decide +kernel
theorem d1_6 : decode jdk_29_method_69_code 6 = .ok (.goto 4, 3) := by decide +kernel
def imin_b_rm : Room := { frames := 0, cells := 0, slots := 0, locals := 0 }
def imin_b_Q (Z : State) (p0 : Int32) (p1 : Int32) (h0 : Heap) (n0 : Nat) (v : Option Value) (h : Heap) (L : List Loc) : Prop := (v = some (.int (imin p0 p1))) ∧ (Fr n0 L) ∧ (h = h0)
theorem imin_b_ef (m : MethodId) (p0 : Int32) (p1 : Int32) : entryFrame m #[(.int p0), (.int p1)] 2 = mkF m 0 #[.val (.int p0), .val (.int p1)] [] := by first | (simp [entryFrame, mkF, argsToLocals, Value.category]; done) | rfl
set_option maxRecDepth 65536 in
set_option maxHeartbeats 40000000 in
theorem imin_b_c (l : Launch) (Z : State) (az : Array Value) (hw : ∀ d ∈ tables_1, d.before az Z = true) (ws : List Jvm.Cond) (p0 : Int32) (p1 : Int32) (h0 : Heap) (n0 : Nat) (Z0 : n0 ≤ h0.size) :
    OCon l (⟨"java/lang/Math", "min", "(II)I"⟩ : MethodName) jdk_29_method_69_code 2 (some .int) ws imin_b_rm Z #[(.int p0), (.int p1)] h0 (imin_b_Q Z p0 p1 h0 n0) := by
  refine ocon (Jvm.Free.JP.mathPlain rfl (by decide +kernel)) ?_
  intro p e s m below meth c s₁ hx hby hml hown hnm hret hlk hZ X0 eh0
  have N0 := Fr.nil n0
  have K0 := Keep.refl h0 []
  refine ogoE (imin_b_ef m p0 p1) ?_
  generalize hG : (OEnd s below (imin_b_Q Z p0 p1 h0 n0) imin_b_rm.cells imin_b_rm.slots) = G
  show OWay p e below G s₁ (mkF m 0 #[.val (.int p0), .val (.int p1)] [])
  refine ogo (fun _ z_ => XS.iloadN X0.here hx rfl (hb hby d1_0) rfl z_) ?_
  show OWay p e below G s₁ (mkF m 1 #[.val (.int p0), .val (.int p1)] [(.int p0)])
  refine ogo (fun _ z_ => XS.iloadN X0.here hx rfl (hb hby d1_1) rfl z_) ?_
  show OWay p e below G s₁ (mkF m 2 #[.val (.int p0), .val (.int p1)] [(.int p1), (.int p0)])
  by_cases c2 : p1 < p0
  · refine ogo (fun _ z_ => XS.icmpYes X0.here hx rfl (pc0 := 2) (pc' := 9) rfl (hb hby d1_2) rfl (tlt c2).2.2.1 (by decide) (by decide) z_) ?_
    show OWay p e below G s₁ (mkF m 9 #[.val (.int p0), .val (.int p1)] [])
    refine ogo (fun _ z_ => XS.iloadN X0.here hx rfl (hb hby d1_9) rfl z_) ?_
    show OWay p e below G s₁ (mkF m 10 #[.val (.int p0), .val (.int p1)] [(.int p1)])
    subst hG
    refine wRet X0 hx hret hlk rfl (Or.inl ⟨rfl, Or.inl rfl, _, rfl⟩) (hb hby d1_10) (by decide) (by decide) eh0 ?_
    exact ⟨(congrArg some (congrArg Value.int (show _ = imin p0 p1 from by unfold imin; rw [if_pos c2]))), N0, rfl⟩
  · refine ogo (fun _ z_ => XS.icmpNo X0.here hx rfl (hb hby d1_2) rfl (flt c2).2.2.1 z_) ?_
    show OWay p e below G s₁ (mkF m 5 #[.val (.int p0), .val (.int p1)] [])
    refine ogo (fun _ z_ => XS.iloadN X0.here hx rfl (hb hby d1_5) rfl z_) ?_
    show OWay p e below G s₁ (mkF m 6 #[.val (.int p0), .val (.int p1)] [(.int p0)])
    refine ogo (fun _ z_ => XS.goto X0.here hx rfl (pc0 := 6) (pc' := 10) rfl (hb hby d1_6) (by decide) (by decide) z_) ?_
    show OWay p e below G s₁ (mkF m 10 #[.val (.int p0), .val (.int p1)] [(.int p0)])
    subst hG
    refine wRet X0 hx hret hlk rfl (Or.inl ⟨rfl, Or.inl rfl, _, rfl⟩) (hb hby d1_10) (by decide) (by decide) eh0 ?_
    exact ⟨(congrArg some (congrArg Value.int (show _ = imin p0 p1 from by unfold imin; rw [if_neg c2]))), N0, rfl⟩
def imax (a b : Int32) : Int32 := if a < b then b else a
theorem d2_0 : decode jdk_29_method_65_code 0 = .ok (.iload_n 0, 1) := by decide +kernel
theorem d2_1 : decode jdk_29_method_65_code 1 = .ok (.iload_n 1, 1) := by decide +kernel
theorem d2_2 : decode jdk_29_method_65_code 2 = .ok (.if_icmp .lt 7, 3) := by decide +kernel
theorem d2_9 : decode jdk_29_method_65_code 9 = .ok (.iload_n 1, 1) := by decide +kernel
theorem d2_10 : decode jdk_29_method_65_code 10 = .ok (.ireturn, 1) := by decide +kernel
theorem d2_5 : decode jdk_29_method_65_code 5 = .ok (.iload_n 0, 1) := by decide +kernel
theorem d2_6 : decode jdk_29_method_65_code 6 = .ok (.goto 4, 3) := by decide +kernel
def imax_b_rm : Room := { frames := 0, cells := 0, slots := 0, locals := 0 }
def imax_b_Q (Z : State) (p0 : Int32) (p1 : Int32) (h0 : Heap) (n0 : Nat) (v : Option Value) (h : Heap) (L : List Loc) : Prop := (v = some (.int (imax p0 p1))) ∧ (Fr n0 L) ∧ (h = h0)
theorem imax_b_ef (m : MethodId) (p0 : Int32) (p1 : Int32) : entryFrame m #[(.int p0), (.int p1)] 2 = mkF m 0 #[.val (.int p0), .val (.int p1)] [] := by first | (simp [entryFrame, mkF, argsToLocals, Value.category]; done) | rfl
set_option maxRecDepth 65536 in
set_option maxHeartbeats 40000000 in
theorem imax_b_c (l : Launch) (Z : State) (az : Array Value) (hw : ∀ d ∈ tables_1, d.before az Z = true) (ws : List Jvm.Cond) (p0 : Int32) (p1 : Int32) (h0 : Heap) (n0 : Nat) (Z0 : n0 ≤ h0.size) :
    OCon l (⟨"java/lang/Math", "max", "(II)I"⟩ : MethodName) jdk_29_method_65_code 2 (some .int) ws imax_b_rm Z #[(.int p0), (.int p1)] h0 (imax_b_Q Z p0 p1 h0 n0) := by
  refine ocon (Jvm.Free.JP.mathPlain rfl (by decide +kernel)) ?_
  intro p e s m below meth c s₁ hx hby hml hown hnm hret hlk hZ X0 eh0
  have N0 := Fr.nil n0
  have K0 := Keep.refl h0 []
  refine ogoE (imax_b_ef m p0 p1) ?_
  generalize hG : (OEnd s below (imax_b_Q Z p0 p1 h0 n0) imax_b_rm.cells imax_b_rm.slots) = G
  show OWay p e below G s₁ (mkF m 0 #[.val (.int p0), .val (.int p1)] [])
  refine ogo (fun _ z_ => XS.iloadN X0.here hx rfl (hb hby d2_0) rfl z_) ?_
  show OWay p e below G s₁ (mkF m 1 #[.val (.int p0), .val (.int p1)] [(.int p0)])
  refine ogo (fun _ z_ => XS.iloadN X0.here hx rfl (hb hby d2_1) rfl z_) ?_
  show OWay p e below G s₁ (mkF m 2 #[.val (.int p0), .val (.int p1)] [(.int p1), (.int p0)])
  by_cases c2 : p0 < p1
  · refine ogo (fun _ z_ => XS.icmpYes X0.here hx rfl (pc0 := 2) (pc' := 9) rfl (hb hby d2_2) rfl (tlt c2).1 (by decide) (by decide) z_) ?_
    show OWay p e below G s₁ (mkF m 9 #[.val (.int p0), .val (.int p1)] [])
    refine ogo (fun _ z_ => XS.iloadN X0.here hx rfl (hb hby d2_9) rfl z_) ?_
    show OWay p e below G s₁ (mkF m 10 #[.val (.int p0), .val (.int p1)] [(.int p1)])
    subst hG
    refine wRet X0 hx hret hlk rfl (Or.inl ⟨rfl, Or.inl rfl, _, rfl⟩) (hb hby d2_10) (by decide) (by decide) eh0 ?_
    exact ⟨(congrArg some (congrArg Value.int (show _ = imax p0 p1 from by unfold imax; rw [if_pos c2]))), N0, rfl⟩
  · refine ogo (fun _ z_ => XS.icmpNo X0.here hx rfl (hb hby d2_2) rfl (flt c2).1 z_) ?_
    show OWay p e below G s₁ (mkF m 5 #[.val (.int p0), .val (.int p1)] [])
    refine ogo (fun _ z_ => XS.iloadN X0.here hx rfl (hb hby d2_5) rfl z_) ?_
    show OWay p e below G s₁ (mkF m 6 #[.val (.int p0), .val (.int p1)] [(.int p0)])
    refine ogo (fun _ z_ => XS.goto X0.here hx rfl (pc0 := 6) (pc' := 10) rfl (hb hby d2_6) (by decide) (by decide) z_) ?_
    show OWay p e below G s₁ (mkF m 10 #[.val (.int p0), .val (.int p1)] [(.int p0)])
    subst hG
    refine wRet X0 hx hret hlk rfl (Or.inl ⟨rfl, Or.inl rfl, _, rfl⟩) (hb hby d2_10) (by decide) (by decide) eh0 ?_
    exact ⟨(congrArg some (congrArg Value.int (show _ = imax p0 p1 from by unfold imax; rw [if_neg c2]))), N0, rfl⟩
def lmax (a b : Int64) : Int64 := if a < b then b else a
theorem d4_0 : decode jdk_29_method_66_code 0 = .ok (.lload_n 0, 1) := by decide +kernel
theorem d4_1 : decode jdk_29_method_66_code 1 = .ok (.lload_n 2, 1) := by decide +kernel
theorem d4_2 : decode jdk_29_method_66_code 2 = .ok (.lcmp, 1) := by decide +kernel
theorem d4_3 : decode jdk_29_method_66_code 3 = .ok (.ifCond .lt 7, 3) := by decide +kernel
theorem d4_10 : decode jdk_29_method_66_code 10 = .ok (.lload_n 2, 1) := by decide +kernel
theorem d4_11 : decode jdk_29_method_66_code 11 = .ok (.lreturn, 1) := by decide +kernel
theorem d4_6 : decode jdk_29_method_66_code 6 = .ok (.lload_n 0, 1) := by decide +kernel
theorem d4_7 : decode jdk_29_method_66_code 7 = .ok (.goto 4, 3) := by decide +kernel
def lmax_b_rm : Room := { frames := 0, cells := 0, slots := 0, locals := 0 }
def lmax_b_Q (Z : State) (q0 : Int64) (q1 : Int64) (h0 : Heap) (n0 : Nat) (v : Option Value) (h : Heap) (L : List Loc) : Prop := (v = some (.long (lmax q0 q1))) ∧ (Fr n0 L) ∧ (h = h0)
theorem lmax_b_ef (m : MethodId) (q0 : Int64) (q1 : Int64) : entryFrame m #[(.long q0), (.long q1)] 4 = mkF m 0 #[.val (.long q0), .second, .val (.long q1), .second] [] := by first | (simp [entryFrame, mkF, argsToLocals, Value.category]; done) | rfl
set_option maxRecDepth 65536 in
set_option maxHeartbeats 40000000 in
theorem lmax_b_c (l : Launch) (Z : State) (az : Array Value) (hw : ∀ d ∈ tables_1, d.before az Z = true) (ws : List Jvm.Cond) (q0 : Int64) (q1 : Int64) (h0 : Heap) (n0 : Nat) (Z0 : n0 ≤ h0.size) :
    OCon l (⟨"java/lang/Math", "max", "(JJ)J"⟩ : MethodName) jdk_29_method_66_code 4 (some .long) ws lmax_b_rm Z #[(.long q0), (.long q1)] h0 (lmax_b_Q Z q0 q1 h0 n0) := by
  refine ocon (Jvm.Free.JP.mathPlain rfl (by decide +kernel)) ?_
  intro p e s m below meth c s₁ hx hby hml hown hnm hret hlk hZ X0 eh0
  have N0 := Fr.nil n0
  have K0 := Keep.refl h0 []
  refine ogoE (lmax_b_ef m q0 q1) ?_
  generalize hG : (OEnd s below (lmax_b_Q Z q0 q1 h0 n0) lmax_b_rm.cells lmax_b_rm.slots) = G
  show OWay p e below G s₁ (mkF m 0 #[.val (.long q0), .second, .val (.long q1), .second] [])
  refine ogo (fun _ z_ => XS.lloadN X0.here hx rfl (hb hby d4_0) rfl z_) ?_
  show OWay p e below G s₁ (mkF m 1 #[.val (.long q0), .second, .val (.long q1), .second] [(.long q0)])
  refine ogo (fun _ z_ => XS.lloadN X0.here hx rfl (hb hby d4_1) rfl z_) ?_
  show OWay p e below G s₁ (mkF m 2 #[.val (.long q0), .second, .val (.long q1), .second] [(.long q1), (.long q0)])
  refine ogo (fun _ z_ => XS.lcmp X0.here hx rfl (hb hby d4_2) rfl z_) ?_
  show OWay p e below G s₁ (mkF m 3 #[.val (.long q0), .second, .val (.long q1), .second] [(.int (lcmpW q0 q1))])
  by_cases c3 : q0 < q1
  · refine ogo (fun _ z_ => XS.ifYes X0.here hx rfl (pc0 := 3) (pc' := 10) rfl (hb hby d4_3) rfl ((if0 _ _).trans (tlt ((lw_lt _ _).mpr c3)).1) (by decide) (by decide) z_) ?_
    show OWay p e below G s₁ (mkF m 10 #[.val (.long q0), .second, .val (.long q1), .second] [])
    refine ogo (fun _ z_ => XS.lloadN X0.here hx rfl (hb hby d4_10) rfl z_) ?_
    show OWay p e below G s₁ (mkF m 11 #[.val (.long q0), .second, .val (.long q1), .second] [(.long q1)])
    subst hG
    refine wRet X0 hx hret hlk rfl (Or.inr (Or.inl ⟨rfl, rfl, _, rfl⟩)) (hb hby d4_11) (by decide) (by decide) eh0 ?_
    exact ⟨(congrArg some (congrArg Value.long (show _ = lmax q0 q1 from by unfold lmax; rw [if_pos c3]))), N0, rfl⟩
  · refine ogo (fun _ z_ => XS.ifNo X0.here hx rfl (hb hby d4_3) rfl ((if0 _ _).trans (flt (fun q => c3 ((lw_lt _ _).mp q))).1) z_) ?_
    show OWay p e below G s₁ (mkF m 6 #[.val (.long q0), .second, .val (.long q1), .second] [])
    refine ogo (fun _ z_ => XS.lloadN X0.here hx rfl (hb hby d4_6) rfl z_) ?_
    show OWay p e below G s₁ (mkF m 7 #[.val (.long q0), .second, .val (.long q1), .second] [(.long q0)])
    refine ogo (fun _ z_ => XS.goto X0.here hx rfl (pc0 := 7) (pc' := 11) rfl (hb hby d4_7) (by decide) (by decide) z_) ?_
    show OWay p e below G s₁ (mkF m 11 #[.val (.long q0), .second, .val (.long q1), .second] [(.long q0)])
    subst hG
    refine wRet X0 hx hret hlk rfl (Or.inr (Or.inl ⟨rfl, rfl, _, rfl⟩)) (hb hby d4_11) (by decide) (by decide) eh0 ?_
    exact ⟨(congrArg some (congrArg Value.long (show _ = lmax q0 q1 from by unfold lmax; rw [if_neg c3]))), N0, rfl⟩
theorem pn_com_example_geotide_geotide_Scorer : plainName "com/example/geotide/geotide/Scorer" = true := by first | (simp [plainName, overriddenIn]; done) | decide +kernel
theorem d3_0 : decode prog_69_method_20_code 0 = .ok (.dload 4, 2) := by decide +kernel
theorem d3_2 : decode prog_69_method_20_code 2 = .ok (.dload 6, 2) := by decide +kernel
theorem d3_4 : decode prog_69_method_20_code 4 = .ok (.dcmp .l, 1) := by decide +kernel
theorem d3_5 : decode prog_69_method_20_code 5 = .ok (.ifCond .le 7, 3) := by decide +kernel
theorem d3_8 : decode prog_69_method_20_code 8 = .ok (.dload_n 2, 1) := by decide +kernel
theorem d3_9 : decode prog_69_method_20_code 9 = .ok (.goto 4, 3) := by decide +kernel
theorem d3_12 : decode prog_69_method_20_code 12 = .ok (.dload_n 0, 1) := by decide +kernel
theorem d3_13 : decode prog_69_method_20_code 13 = .ok (.dstore 8, 2) := by decide +kernel
theorem d3_15 : decode prog_69_method_20_code 15 = .ok (.dload 8, 2) := by decide +kernel
theorem d3_17 : decode prog_69_method_20_code 17 = .ok (.dload 4, 2) := by decide +kernel
theorem d3_19 : decode prog_69_method_20_code 19 = .ok (.dmul, 1) := by decide +kernel
theorem d3_20 : decode prog_69_method_20_code 20 = .ok (.dconst 1, 1) := by decide +kernel
theorem d3_21 : decode prog_69_method_20_code 21 = .ok (.dload 8, 2) := by decide +kernel
theorem d3_23 : decode prog_69_method_20_code 23 = .ok (.dsub, 1) := by decide +kernel
theorem d3_24 : decode prog_69_method_20_code 24 = .ok (.dload 6, 2) := by decide +kernel
theorem d3_26 : decode prog_69_method_20_code 26 = .ok (.dmul, 1) := by decide +kernel
theorem d3_27 : decode prog_69_method_20_code 27 = .ok (.dadd, 1) := by decide +kernel
theorem d3_28 : decode prog_69_method_20_code 28 = .ok (.dreturn, 1) := by decide +kernel
def ssk_b_rm : Room := { frames := 0, cells := 0, slots := 0, locals := 0 }
def ssk_b_Q (Z : State) (d0 : UInt64) (d1 : UInt64) (d2 : UInt64) (d3 : UInt64) (lo : Int) (hi : Int) (P : Int) (R : Int) (h0 : Heap) (n0 : Nat) (v : Option Value) (h : Heap) (L : List Loc) : Prop := ∃ x : UInt64, (v = some (.double x)) ∧ (Fr n0 L) ∧ (h = h0) ∧ (Dy x (ssk lo hi P R) 1070)
theorem ssk_b_ef (m : MethodId) (d0 : UInt64) (d1 : UInt64) (d2 : UInt64) (d3 : UInt64) : entryFrame m #[(.double d0), (.double d1), (.double d2), (.double d3)] 10 = mkF m 0 #[.val (.double d0), .second, .val (.double d1), .second, .val (.double d2), .second, .val (.double d3), .second, .unset, .unset] [] := by first | (simp [entryFrame, mkF, argsToLocals, Value.category]; done) | rfl
set_option maxRecDepth 65536 in
set_option maxHeartbeats 40000000 in
theorem ssk_b_c (l : Launch) (Z : State) (az : Array Value) (hw : ∀ d ∈ tables_1, d.before az Z = true) (ws : List Jvm.Cond) (d0 : UInt64) (d1 : UInt64) (d2 : UInt64) (d3 : UInt64) (lo : Int) (hi : Int) (P : Int) (R : Int) (h0 : Heap) (n0 : Nat) (Z0 : n0 ≤ h0.size) (hD0 : Dy d0 lo 1090) (hD1 : Dy d1 hi 1090) (hD2 : Dy d2 P 1080) (hD3 : Dy d3 R 1080) (hl : 0 ≤ lo ∧ lo ≤ hi ∧ hi ≤ 1024) (hp : 0 ≤ P ∧ P ≤ 1048576) (hr : 0 ≤ R ∧ R ≤ 1048576) :
    OCon l (⟨"com/example/geotide/geotide/Scorer", "sskBoundInDoubles", "(DDDD)D"⟩ : MethodName) prog_69_method_20_code 10 (some .double) ws ssk_b_rm Z #[(.double d0), (.double d1), (.double d2), (.double d3)] h0 (ssk_b_Q Z d0 d1 d2 d3 lo hi P R h0 n0) := by
  refine ocon (plainFor_of_name pn_com_example_geotide_geotide_Scorer) ?_
  intro p e s m below meth c s₁ hx hby hml hown hnm hret hlk hZ X0 eh0
  have N0 := Fr.nil n0
  have K0 := Keep.refl h0 []
  refine ogoE (ssk_b_ef m d0 d1 d2 d3) ?_
  generalize hG : (OEnd s below (ssk_b_Q Z d0 d1 d2 d3 lo hi P R h0 n0) ssk_b_rm.cells ssk_b_rm.slots) = G
  show OWay p e below G s₁ (mkF m 0 #[.val (.double d0), .second, .val (.double d1), .second, .val (.double d2), .second, .val (.double d3), .second, .unset, .unset] [])
  refine ogo (fun _ z_ => XS.dload X0.here hx rfl (hb hby d3_0) rfl z_) ?_
  show OWay p e below G s₁ (mkF m 2 #[.val (.double d0), .second, .val (.double d1), .second, .val (.double d2), .second, .val (.double d3), .second, .unset, .unset] [(.double d2)])
  refine ogo (fun _ z_ => XS.dload X0.here hx rfl (hb hby d3_2) rfl z_) ?_
  show OWay p e below G s₁ (mkF m 4 #[.val (.double d0), .second, .val (.double d1), .second, .val (.double d2), .second, .val (.double d3), .second, .unset, .unset] [(.double d3), (.double d2)])
  refine ogo (fun _ z_ => XS.dcmpS X0.here hx rfl (hb hby d3_4) rfl rfl z_) ?_
  show OWay p e below G s₁ (mkF m 5 #[.val (.double d0), .second, .val (.double d1), .second, .val (.double d2), .second, .val (.double d3), .second, .unset, .unset] [(.int (cmpValue (FP.dcmp d2 d3) .l))])
  have J2 : ∀ (us0_1 : UInt64), us0_1 = (if (0 : Int32) < (cmpValue (FP.dcmp d2 d3) .l) then d1 else d0) → OWay p e below G s₁ (mkF m 13 #[.val (.double d0), .second, .val (.double d1), .second, .val (.double d2), .second, .val (.double d3), .second, .unset, .unset] [(.double us0_1)]) := by
    intro us0_1 hus0_1
    refine ogo (fun _ z_ => XS.dstore X0.here hx rfl (hb hby d3_13) rfl (l' := #[.val (.double d0), .second, .val (.double d1), .second, .val (.double d2), .second, .val (.double d3), .second, .val (.double us0_1), .second]) rfl z_) ?_
    show OWay p e below G s₁ (mkF m 15 #[.val (.double d0), .second, .val (.double d1), .second, .val (.double d2), .second, .val (.double d3), .second, .val (.double us0_1), .second] [])
    have hA : Dy us0_1 (if R < P then hi else lo) 1090 := by
      rw [hus0_1]
      simp only [own_gt hD2 hD3]
      split
      · exact hD1
      · exact hD0
    have a01 : 0 ≤ (if R < P then hi else lo) ∧ (if R < P then hi else lo) ≤ 1024 := by split <;> omega
    refine ogo (fun _ z_ => XS.dload X0.here hx rfl (hb hby d3_15) rfl z_) ?_
    show OWay p e below G s₁ (mkF m 17 #[.val (.double d0), .second, .val (.double d1), .second, .val (.double d2), .second, .val (.double d3), .second, .val (.double us0_1), .second] [(.double us0_1)])
    refine ogo (fun _ z_ => XS.dload X0.here hx rfl (hb hby d3_17) rfl z_) ?_
    show OWay p e below G s₁ (mkF m 19 #[.val (.double d0), .second, .val (.double d1), .second, .val (.double d2), .second, .val (.double d3), .second, .val (.double us0_1), .second] [(.double d2), (.double us0_1)])
    refine ogo (fun _ z_ => XS.dmulS X0.here hx rfl (hb hby d3_19) rfl (dy_nn (own_s1 hA hD2 a01.1 a01.2 hp.1 hp.2)) rfl z_) ?_
    show OWay p e below G s₁ (mkF m 20 #[.val (.double d0), .second, .val (.double d1), .second, .val (.double d2), .second, .val (.double d3), .second, .val (.double us0_1), .second] [(.double (FP.dmul us0_1 d2))])
    refine ogo (fun _ z_ => XS.dconst1 X0.here hx rfl (hb hby d3_20) rfl z_) ?_
    show OWay p e below G s₁ (mkF m 21 #[.val (.double d0), .second, .val (.double d1), .second, .val (.double d2), .second, .val (.double d3), .second, .val (.double us0_1), .second] [(.double FP.dconst1), (.double (FP.dmul us0_1 d2))])
    refine ogo (fun _ z_ => XS.dload X0.here hx rfl (hb hby d3_21) rfl z_) ?_
    show OWay p e below G s₁ (mkF m 23 #[.val (.double d0), .second, .val (.double d1), .second, .val (.double d2), .second, .val (.double d3), .second, .val (.double us0_1), .second] [(.double us0_1), (.double FP.dconst1), (.double (FP.dmul us0_1 d2))])
    refine ogo (fun _ z_ => XS.dsubS X0.here hx rfl (hb hby d3_23) rfl (dy_nn (own_s2 hA a01.1 a01.2)) rfl z_) ?_
    show OWay p e below G s₁ (mkF m 24 #[.val (.double d0), .second, .val (.double d1), .second, .val (.double d2), .second, .val (.double d3), .second, .val (.double us0_1), .second] [(.double (FP.dsub FP.dconst1 us0_1)), (.double (FP.dmul us0_1 d2))])
    refine ogo (fun _ z_ => XS.dload X0.here hx rfl (hb hby d3_24) rfl z_) ?_
    show OWay p e below G s₁ (mkF m 26 #[.val (.double d0), .second, .val (.double d1), .second, .val (.double d2), .second, .val (.double d3), .second, .val (.double us0_1), .second] [(.double d3), (.double (FP.dsub FP.dconst1 us0_1)), (.double (FP.dmul us0_1 d2))])
    refine ogo (fun _ z_ => XS.dmulS X0.here hx rfl (hb hby d3_26) rfl (dy_nn (own_s1 (own_s2 hA a01.1 a01.2) hD3 (by omega) (by omega) hr.1 hr.2)) rfl z_) ?_
    show OWay p e below G s₁ (mkF m 27 #[.val (.double d0), .second, .val (.double d1), .second, .val (.double d2), .second, .val (.double d3), .second, .val (.double us0_1), .second] [(.double (FP.dmul (FP.dsub FP.dconst1 us0_1) d3)), (.double (FP.dmul us0_1 d2))])
    refine ogo (fun _ z_ => XS.daddS X0.here hx rfl (hb hby d3_27) rfl (dy_nn (own_s3 hA hD2 hD3 a01.1 a01.2 hp.1 hp.2 hr.1 hr.2)) rfl z_) ?_
    show OWay p e below G s₁ (mkF m 28 #[.val (.double d0), .second, .val (.double d1), .second, .val (.double d2), .second, .val (.double d3), .second, .val (.double us0_1), .second] [(.double (FP.dadd (FP.dmul us0_1 d2) (FP.dmul (FP.dsub FP.dconst1 us0_1) d3)))])
    subst hG
    refine wRet X0 hx hret hlk rfl (Or.inr (Or.inr (Or.inl ⟨rfl, rfl, _, rfl⟩))) (hb hby d3_28) (by decide) (by decide) eh0 ?_
    exact ⟨(FP.dadd (FP.dmul us0_1 d2) (FP.dmul (FP.dsub FP.dconst1 us0_1) d3)), rfl, N0, rfl, (own_s3 hA hD2 hD3 a01.1 a01.2 hp.1 hp.2 hr.1 hr.2)⟩
  by_cases c5 : (0 : Int32) < (cmpValue (FP.dcmp d2 d3) .l)
  · refine ogo (fun _ z_ => XS.ifNo X0.here hx rfl (hb hby d3_5) rfl ((if0 _ _).trans (tlt c5).2.2.2) z_) ?_
    show OWay p e below G s₁ (mkF m 8 #[.val (.double d0), .second, .val (.double d1), .second, .val (.double d2), .second, .val (.double d3), .second, .unset, .unset] [])
    refine ogo (fun _ z_ => XS.dloadN X0.here hx rfl (hb hby d3_8) rfl z_) ?_
    show OWay p e below G s₁ (mkF m 9 #[.val (.double d0), .second, .val (.double d1), .second, .val (.double d2), .second, .val (.double d3), .second, .unset, .unset] [(.double d1)])
    refine ogo (fun _ z_ => XS.goto X0.here hx rfl (pc0 := 9) (pc' := 13) rfl (hb hby d3_9) (by decide) (by decide) z_) ?_
    show OWay p e below G s₁ (mkF m 13 #[.val (.double d0), .second, .val (.double d1), .second, .val (.double d2), .second, .val (.double d3), .second, .unset, .unset] [(.double d1)])
    exact J2 _ ((if_pos c5).trans rfl).symm
  · refine ogo (fun _ z_ => XS.ifYes X0.here hx rfl (pc0 := 5) (pc' := 12) rfl (hb hby d3_5) rfl ((if0 _ _).trans (flt c5).2.2.2) (by decide) (by decide) z_) ?_
    show OWay p e below G s₁ (mkF m 12 #[.val (.double d0), .second, .val (.double d1), .second, .val (.double d2), .second, .val (.double d3), .second, .unset, .unset] [])
    refine ogo (fun _ z_ => XS.dloadN X0.here hx rfl (hb hby d3_12) rfl z_) ?_
    show OWay p e below G s₁ (mkF m 13 #[.val (.double d0), .second, .val (.double d1), .second, .val (.double d2), .second, .val (.double d3), .second, .unset, .unset] [(.double d0)])
    exact J2 _ ((if_neg c5).trans rfl).symm
theorem pn_com_example_geotide_geotide_ScorerSskBoundInDoublesPinLaw : plainName "com/example/geotide/geotide/ScorerSskBoundInDoublesPinLaw" = true := by first | (simp [plainName, overriddenIn]; done) | decide +kernel
theorem pd__II_I : parseMethodDescriptor "(II)I" = some ⟨[.int, .int], some .int⟩ := by decide +kernel
theorem pd__DDDD_D : parseMethodDescriptor "(DDDD)D" = some ⟨[.double, .double, .double, .double], some .double⟩ := by decide +kernel
theorem pd__JJ_J : parseMethodDescriptor "(JJ)J" = some ⟨[.long, .long], some .long⟩ := by decide +kernel
def law_Q (Z : State) (p0 : Int32) (p1 : Int32) (p2 : Int32) (p3 : Int32) (h0 : Heap) (n0 : Nat) (v : Option Value) (h : Heap) (L : List Loc) : Prop := v = some (.int 1) ∧ Fr n0 L
theorem law_ef (m : MethodId) (p0 : Int32) (p1 : Int32) (p2 : Int32) (p3 : Int32) : entryFrame m #[(.int p0), (.int p1), (.int p2), (.int p3)] maxLocals = mkF m 0 #[.val (.int p0), .val (.int p1), .val (.int p2), .val (.int p3), .unset, .unset, .unset, .unset, .unset, .unset, .unset, .unset, .unset, .unset, .unset, .unset, .unset, .unset, .unset, .unset, .unset, .unset, .unset, .unset, .unset, .unset, .unset, .unset] [] := by first | (simp [entryFrame, mkF, argsToLocals, Value.category, maxLocals]; done) | rfl
set_option maxRecDepth 65536 in
set_option maxHeartbeats 40000000 in
theorem law_c (l : Launch) (Z : State) (az : Array Value) (hw : ∀ d ∈ tables_1, d.before az Z = true) (ws : List Jvm.Cond) (p0 : Int32) (p1 : Int32) (p2 : Int32) (p3 : Int32) (h0 : Heap) (n0 : Nat) (Z0 : n0 ≤ h0.size) :
    OCon l x code maxLocals ret ws room_1 Z #[(.int p0), (.int p1), (.int p2), (.int p3)] h0 (law_Q Z p0 p1 p2 p3 h0 n0) := by
  refine ocon (plainFor_of_name pn_com_example_geotide_geotide_ScorerSskBoundInDoublesPinLaw) ?_
  intro p e s m below meth c s₁ hx hby hml hown hnm hret hlk hZ X0 eh0
  have N0 := Fr.nil n0
  have K0 := Keep.refl h0 []
  refine ogoE (law_ef m p0 p1 p2 p3) ?_
  generalize hG : (OEnd s below (law_Q Z p0 p1 p2 p3 h0 n0) room_1.cells room_1.slots) = G
  show OWay p e below G s₁ (mkF m 0 #[.val (.int p0), .val (.int p1), .val (.int p2), .val (.int p3), .unset, .unset, .unset, .unset, .unset, .unset, .unset, .unset, .unset, .unset, .unset, .unset, .unset, .unset, .unset, .unset, .unset, .unset, .unset, .unset, .unset, .unset, .unset, .unset] [])
  refine ogo (fun _ z_ => XS.iloadN X0.here hx rfl (hb hby at_0) rfl z_) ?_
  show OWay p e below G s₁ (mkF m 1 #[.val (.int p0), .val (.int p1), .val (.int p2), .val (.int p3), .unset, .unset, .unset, .unset, .unset, .unset, .unset, .unset, .unset, .unset, .unset, .unset, .unset, .unset, .unset, .unset, .unset, .unset, .unset, .unset, .unset, .unset, .unset, .unset] [(.int p0)])
  refine ogo (fun _ z_ => X0.ldcInt hx hown (mvT hZ (hw _ (List.mem_of_getElem? (i := 0) rfl))) (g := (mkF m 1 #[.val (.int p0), .val (.int p1), .val (.int p2), .val (.int p3), .unset, .unset, .unset, .unset, .unset, .unset, .unset, .unset, .unset, .unset, .unset, .unset, .unset, .unset, .unset, .unset, .unset, .unset, .unset, .unset, .unset, .unset, .unset, .unset] [(.int p0)])) rfl (hb hby at_1) _ z_) ?_
  show OWay p e below G s₁ (mkF m 3 #[.val (.int p0), .val (.int p1), .val (.int p2), .val (.int p3), .unset, .unset, .unset, .unset, .unset, .unset, .unset, .unset, .unset, .unset, .unset, .unset, .unset, .unset, .unset, .unset, .unset, .unset, .unset, .unset, .unset, .unset, .unset, .unset] [(.int (2147483647 : Int32)), (.int p0)])
  refine ogo (fun _ z_ => XS.iand X0.here hx rfl (hb hby at_3) rfl z_) ?_
  show OWay p e below G s₁ (mkF m 4 #[.val (.int p0), .val (.int p1), .val (.int p2), .val (.int p3), .unset, .unset, .unset, .unset, .unset, .unset, .unset, .unset, .unset, .unset, .unset, .unset, .unset, .unset, .unset, .unset, .unset, .unset, .unset, .unset, .unset, .unset, .unset, .unset] [(.int (p0 &&& (2147483647 : Int32)))])
  refine ogo (fun _ z_ => XS.sipush X0.here hx rfl (hb hby at_4) z_) ?_
  show OWay p e below G s₁ (mkF m 7 #[.val (.int p0), .val (.int p1), .val (.int p2), .val (.int p3), .unset, .unset, .unset, .unset, .unset, .unset, .unset, .unset, .unset, .unset, .unset, .unset, .unset, .unset, .unset, .unset, .unset, .unset, .unset, .unset, .unset, .unset, .unset, .unset] [(.int (1025 : Int32)), (.int (p0 &&& (2147483647 : Int32)))])
  refine ogo (fun _ z_ => iremM X0 hx rfl (hb hby at_7) rfl (by decide) z_) ?_
  show OWay p e below G s₁ (mkF m 8 #[.val (.int p0), .val (.int p1), .val (.int p2), .val (.int p3), .unset, .unset, .unset, .unset, .unset, .unset, .unset, .unset, .unset, .unset, .unset, .unset, .unset, .unset, .unset, .unset, .unset, .unset, .unset, .unset, .unset, .unset, .unset, .unset] [(.int ((p0 &&& (2147483647 : Int32)) % (1025 : Int32)))])
  suffices Jv4_1 : ∀ v4_1 : Int32, v4_1 = ((p0 &&& (2147483647 : Int32)) % (1025 : Int32)) → OWay p e below G s₁ (mkF m 8 #[.val (.int p0), .val (.int p1), .val (.int p2), .val (.int p3), .unset, .unset, .unset, .unset, .unset, .unset, .unset, .unset, .unset, .unset, .unset, .unset, .unset, .unset, .unset, .unset, .unset, .unset, .unset, .unset, .unset, .unset, .unset, .unset] [(.int v4_1)]) from Jv4_1 _ rfl
  intro v4_1 hv4_1
  refine ogo (fun _ z_ => XS.istore X0.here hx rfl (hb hby at_8) rfl (l' := #[.val (.int p0), .val (.int p1), .val (.int p2), .val (.int p3), .val (.int v4_1), .unset, .unset, .unset, .unset, .unset, .unset, .unset, .unset, .unset, .unset, .unset, .unset, .unset, .unset, .unset, .unset, .unset, .unset, .unset, .unset, .unset, .unset, .unset]) rfl z_) ?_
  show OWay p e below G s₁ (mkF m 10 #[.val (.int p0), .val (.int p1), .val (.int p2), .val (.int p3), .val (.int v4_1), .unset, .unset, .unset, .unset, .unset, .unset, .unset, .unset, .unset, .unset, .unset, .unset, .unset, .unset, .unset, .unset, .unset, .unset, .unset, .unset, .unset, .unset, .unset] [])
  refine ogo (fun _ z_ => XS.iloadN X0.here hx rfl (hb hby at_10) rfl z_) ?_
  show OWay p e below G s₁ (mkF m 11 #[.val (.int p0), .val (.int p1), .val (.int p2), .val (.int p3), .val (.int v4_1), .unset, .unset, .unset, .unset, .unset, .unset, .unset, .unset, .unset, .unset, .unset, .unset, .unset, .unset, .unset, .unset, .unset, .unset, .unset, .unset, .unset, .unset, .unset] [(.int p1)])
  refine ogo (fun _ z_ => X0.ldcInt hx hown (mvT hZ (hw _ (List.mem_of_getElem? (i := 0) rfl))) (g := (mkF m 11 #[.val (.int p0), .val (.int p1), .val (.int p2), .val (.int p3), .val (.int v4_1), .unset, .unset, .unset, .unset, .unset, .unset, .unset, .unset, .unset, .unset, .unset, .unset, .unset, .unset, .unset, .unset, .unset, .unset, .unset, .unset, .unset, .unset, .unset] [(.int p1)])) rfl (hb hby at_11) _ z_) ?_
  show OWay p e below G s₁ (mkF m 13 #[.val (.int p0), .val (.int p1), .val (.int p2), .val (.int p3), .val (.int v4_1), .unset, .unset, .unset, .unset, .unset, .unset, .unset, .unset, .unset, .unset, .unset, .unset, .unset, .unset, .unset, .unset, .unset, .unset, .unset, .unset, .unset, .unset, .unset] [(.int (2147483647 : Int32)), (.int p1)])
  refine ogo (fun _ z_ => XS.iand X0.here hx rfl (hb hby at_13) rfl z_) ?_
  show OWay p e below G s₁ (mkF m 14 #[.val (.int p0), .val (.int p1), .val (.int p2), .val (.int p3), .val (.int v4_1), .unset, .unset, .unset, .unset, .unset, .unset, .unset, .unset, .unset, .unset, .unset, .unset, .unset, .unset, .unset, .unset, .unset, .unset, .unset, .unset, .unset, .unset, .unset] [(.int (p1 &&& (2147483647 : Int32)))])
  refine ogo (fun _ z_ => XS.sipush X0.here hx rfl (hb hby at_14) z_) ?_
  show OWay p e below G s₁ (mkF m 17 #[.val (.int p0), .val (.int p1), .val (.int p2), .val (.int p3), .val (.int v4_1), .unset, .unset, .unset, .unset, .unset, .unset, .unset, .unset, .unset, .unset, .unset, .unset, .unset, .unset, .unset, .unset, .unset, .unset, .unset, .unset, .unset, .unset, .unset] [(.int (1025 : Int32)), (.int (p1 &&& (2147483647 : Int32)))])
  refine ogo (fun _ z_ => iremM X0 hx rfl (hb hby at_17) rfl (by decide) z_) ?_
  show OWay p e below G s₁ (mkF m 18 #[.val (.int p0), .val (.int p1), .val (.int p2), .val (.int p3), .val (.int v4_1), .unset, .unset, .unset, .unset, .unset, .unset, .unset, .unset, .unset, .unset, .unset, .unset, .unset, .unset, .unset, .unset, .unset, .unset, .unset, .unset, .unset, .unset, .unset] [(.int ((p1 &&& (2147483647 : Int32)) % (1025 : Int32)))])
  suffices Jv5_2 : ∀ v5_2 : Int32, v5_2 = ((p1 &&& (2147483647 : Int32)) % (1025 : Int32)) → OWay p e below G s₁ (mkF m 18 #[.val (.int p0), .val (.int p1), .val (.int p2), .val (.int p3), .val (.int v4_1), .unset, .unset, .unset, .unset, .unset, .unset, .unset, .unset, .unset, .unset, .unset, .unset, .unset, .unset, .unset, .unset, .unset, .unset, .unset, .unset, .unset, .unset, .unset] [(.int v5_2)]) from Jv5_2 _ rfl
  intro v5_2 hv5_2
  refine ogo (fun _ z_ => XS.istore X0.here hx rfl (hb hby at_18) rfl (l' := #[.val (.int p0), .val (.int p1), .val (.int p2), .val (.int p3), .val (.int v4_1), .val (.int v5_2), .unset, .unset, .unset, .unset, .unset, .unset, .unset, .unset, .unset, .unset, .unset, .unset, .unset, .unset, .unset, .unset, .unset, .unset, .unset, .unset, .unset, .unset]) rfl z_) ?_
  show OWay p e below G s₁ (mkF m 20 #[.val (.int p0), .val (.int p1), .val (.int p2), .val (.int p3), .val (.int v4_1), .val (.int v5_2), .unset, .unset, .unset, .unset, .unset, .unset, .unset, .unset, .unset, .unset, .unset, .unset, .unset, .unset, .unset, .unset, .unset, .unset, .unset, .unset, .unset, .unset] [])
  refine ogo (fun _ z_ => XS.iload X0.here hx rfl (hb hby at_20) rfl z_) ?_
  show OWay p e below G s₁ (mkF m 22 #[.val (.int p0), .val (.int p1), .val (.int p2), .val (.int p3), .val (.int v4_1), .val (.int v5_2), .unset, .unset, .unset, .unset, .unset, .unset, .unset, .unset, .unset, .unset, .unset, .unset, .unset, .unset, .unset, .unset, .unset, .unset, .unset, .unset, .unset, .unset] [(.int v4_1)])
  refine ogo (fun _ z_ => XS.iload X0.here hx rfl (hb hby at_22) rfl z_) ?_
  show OWay p e below G s₁ (mkF m 24 #[.val (.int p0), .val (.int p1), .val (.int p2), .val (.int p3), .val (.int v4_1), .val (.int v5_2), .unset, .unset, .unset, .unset, .unset, .unset, .unset, .unset, .unset, .unset, .unset, .unset, .unset, .unset, .unset, .unset, .unset, .unset, .unset, .unset, .unset, .unset] [(.int v5_2), (.int v4_1)])
  obtain ⟨_, T3, L3, X3, hQ3, st3⟩ := wStatic X0 hx hZ (y := (⟨"java/lang/Math", "min", "(II)I"⟩ : MethodName)) hown (hw _ (List.mem_of_getElem? (i := 1) rfl)) (hw _ (List.mem_of_getElem? (i := 2) rfl)) (hw _ (List.mem_of_getElem? (i := 3) rfl)) (hw _ (List.mem_of_getElem? (i := 4) rfl)) (by decide) (imin_b_c l Z az hw [] v4_1 v5_2 h0 n0 Z0) 0 (by decide) (by decide) (g := (mkF m 24 #[.val (.int p0), .val (.int p1), .val (.int p2), .val (.int p3), .val (.int v4_1), .val (.int v5_2), .unset, .unset, .unset, .unset, .unset, .unset, .unset, .unset, .unset, .unset, .unset, .unset, .unset, .unset, .unset, .unset, .unset, .unset, .unset, .unset, .unset, .unset] [(.int v5_2), (.int v4_1)])) rfl (by rw [hml]; rfl) (argsL := [(.int v4_1), (.int v5_2)]) (rest := []) (lenOf pd__II_I rfl) rfl (by show 2 * 0 + _ ≤ _; exact Nat.le_of_eq rfl) (hb hby at_24) rfl eh0 (by decide) (by decide)
  obtain ⟨rfl, N3q, eq3⟩ := hQ3
  have N3 := Fr.app N0 N3q
  refine ogo st3 ?_
  show OWay p e below G T3 (mkF m 27 #[.val (.int p0), .val (.int p1), .val (.int p2), .val (.int p3), .val (.int v4_1), .val (.int v5_2), .unset, .unset, .unset, .unset, .unset, .unset, .unset, .unset, .unset, .unset, .unset, .unset, .unset, .unset, .unset, .unset, .unset, .unset, .unset, .unset, .unset, .unset] [(.int (imin v4_1 v5_2))])
  suffices Jv6_4 : ∀ v6_4 : Int32, v6_4 = (imin v4_1 v5_2) → OWay p e below G T3 (mkF m 27 #[.val (.int p0), .val (.int p1), .val (.int p2), .val (.int p3), .val (.int v4_1), .val (.int v5_2), .unset, .unset, .unset, .unset, .unset, .unset, .unset, .unset, .unset, .unset, .unset, .unset, .unset, .unset, .unset, .unset, .unset, .unset, .unset, .unset, .unset, .unset] [(.int v6_4)]) from Jv6_4 _ rfl
  intro v6_4 hv6_4
  refine ogo (fun _ z_ => XS.istore X3.here hx rfl (hb hby at_27) rfl (l' := #[.val (.int p0), .val (.int p1), .val (.int p2), .val (.int p3), .val (.int v4_1), .val (.int v5_2), .val (.int v6_4), .unset, .unset, .unset, .unset, .unset, .unset, .unset, .unset, .unset, .unset, .unset, .unset, .unset, .unset, .unset, .unset, .unset, .unset, .unset, .unset, .unset]) rfl z_) ?_
  show OWay p e below G T3 (mkF m 29 #[.val (.int p0), .val (.int p1), .val (.int p2), .val (.int p3), .val (.int v4_1), .val (.int v5_2), .val (.int v6_4), .unset, .unset, .unset, .unset, .unset, .unset, .unset, .unset, .unset, .unset, .unset, .unset, .unset, .unset, .unset, .unset, .unset, .unset, .unset, .unset, .unset] [])
  refine ogo (fun _ z_ => XS.iload X3.here hx rfl (hb hby at_29) rfl z_) ?_
  show OWay p e below G T3 (mkF m 31 #[.val (.int p0), .val (.int p1), .val (.int p2), .val (.int p3), .val (.int v4_1), .val (.int v5_2), .val (.int v6_4), .unset, .unset, .unset, .unset, .unset, .unset, .unset, .unset, .unset, .unset, .unset, .unset, .unset, .unset, .unset, .unset, .unset, .unset, .unset, .unset, .unset] [(.int v4_1)])
  refine ogo (fun _ z_ => XS.iload X3.here hx rfl (hb hby at_31) rfl z_) ?_
  show OWay p e below G T3 (mkF m 33 #[.val (.int p0), .val (.int p1), .val (.int p2), .val (.int p3), .val (.int v4_1), .val (.int v5_2), .val (.int v6_4), .unset, .unset, .unset, .unset, .unset, .unset, .unset, .unset, .unset, .unset, .unset, .unset, .unset, .unset, .unset, .unset, .unset, .unset, .unset, .unset, .unset] [(.int v5_2), (.int v4_1)])
  obtain ⟨_, T5, L5, X5, hQ5, st5⟩ := wStatic X3 hx hZ (y := (⟨"java/lang/Math", "max", "(II)I"⟩ : MethodName)) hown (hw _ (List.mem_of_getElem? (i := 5) rfl)) (hw _ (List.mem_of_getElem? (i := 6) rfl)) (hw _ (List.mem_of_getElem? (i := 3) rfl)) (hw _ (List.mem_of_getElem? (i := 7) rfl)) (by decide) (imax_b_c l Z az hw [] v4_1 v5_2 h0 n0 Z0) 0 (by decide) (by decide) (g := (mkF m 33 #[.val (.int p0), .val (.int p1), .val (.int p2), .val (.int p3), .val (.int v4_1), .val (.int v5_2), .val (.int v6_4), .unset, .unset, .unset, .unset, .unset, .unset, .unset, .unset, .unset, .unset, .unset, .unset, .unset, .unset, .unset, .unset, .unset, .unset, .unset, .unset, .unset] [(.int v5_2), (.int v4_1)])) rfl (by rw [hml]; rfl) (argsL := [(.int v4_1), (.int v5_2)]) (rest := []) (lenOf pd__II_I rfl) rfl (by show 2 * 0 + _ ≤ _; exact Nat.le_of_eq rfl) (hb hby at_33) rfl eq3 (by decide) (by decide)
  obtain ⟨rfl, N5q, eq5⟩ := hQ5
  have N5 := Fr.app N3 N5q
  refine ogo st5 ?_
  show OWay p e below G T5 (mkF m 36 #[.val (.int p0), .val (.int p1), .val (.int p2), .val (.int p3), .val (.int v4_1), .val (.int v5_2), .val (.int v6_4), .unset, .unset, .unset, .unset, .unset, .unset, .unset, .unset, .unset, .unset, .unset, .unset, .unset, .unset, .unset, .unset, .unset, .unset, .unset, .unset, .unset] [(.int (imax v4_1 v5_2))])
  suffices Jv7_6 : ∀ v7_6 : Int32, v7_6 = (imax v4_1 v5_2) → OWay p e below G T5 (mkF m 36 #[.val (.int p0), .val (.int p1), .val (.int p2), .val (.int p3), .val (.int v4_1), .val (.int v5_2), .val (.int v6_4), .unset, .unset, .unset, .unset, .unset, .unset, .unset, .unset, .unset, .unset, .unset, .unset, .unset, .unset, .unset, .unset, .unset, .unset, .unset, .unset, .unset] [(.int v7_6)]) from Jv7_6 _ rfl
  intro v7_6 hv7_6
  refine ogo (fun _ z_ => XS.istore X5.here hx rfl (hb hby at_36) rfl (l' := #[.val (.int p0), .val (.int p1), .val (.int p2), .val (.int p3), .val (.int v4_1), .val (.int v5_2), .val (.int v6_4), .val (.int v7_6), .unset, .unset, .unset, .unset, .unset, .unset, .unset, .unset, .unset, .unset, .unset, .unset, .unset, .unset, .unset, .unset, .unset, .unset, .unset, .unset]) rfl z_) ?_
  show OWay p e below G T5 (mkF m 38 #[.val (.int p0), .val (.int p1), .val (.int p2), .val (.int p3), .val (.int v4_1), .val (.int v5_2), .val (.int v6_4), .val (.int v7_6), .unset, .unset, .unset, .unset, .unset, .unset, .unset, .unset, .unset, .unset, .unset, .unset, .unset, .unset, .unset, .unset, .unset, .unset, .unset, .unset] [])
  refine ogo (fun _ z_ => XS.iloadN X5.here hx rfl (hb hby at_38) rfl z_) ?_
  show OWay p e below G T5 (mkF m 39 #[.val (.int p0), .val (.int p1), .val (.int p2), .val (.int p3), .val (.int v4_1), .val (.int v5_2), .val (.int v6_4), .val (.int v7_6), .unset, .unset, .unset, .unset, .unset, .unset, .unset, .unset, .unset, .unset, .unset, .unset, .unset, .unset, .unset, .unset, .unset, .unset, .unset, .unset] [(.int p2)])
  refine ogo (fun _ z_ => X5.ldcInt hx hown (mvT hZ (hw _ (List.mem_of_getElem? (i := 0) rfl))) (g := (mkF m 39 #[.val (.int p0), .val (.int p1), .val (.int p2), .val (.int p3), .val (.int v4_1), .val (.int v5_2), .val (.int v6_4), .val (.int v7_6), .unset, .unset, .unset, .unset, .unset, .unset, .unset, .unset, .unset, .unset, .unset, .unset, .unset, .unset, .unset, .unset, .unset, .unset, .unset, .unset] [(.int p2)])) rfl (hb hby at_39) _ z_) ?_
  show OWay p e below G T5 (mkF m 41 #[.val (.int p0), .val (.int p1), .val (.int p2), .val (.int p3), .val (.int v4_1), .val (.int v5_2), .val (.int v6_4), .val (.int v7_6), .unset, .unset, .unset, .unset, .unset, .unset, .unset, .unset, .unset, .unset, .unset, .unset, .unset, .unset, .unset, .unset, .unset, .unset, .unset, .unset] [(.int (2147483647 : Int32)), (.int p2)])
  refine ogo (fun _ z_ => XS.iand X5.here hx rfl (hb hby at_41) rfl z_) ?_
  show OWay p e below G T5 (mkF m 42 #[.val (.int p0), .val (.int p1), .val (.int p2), .val (.int p3), .val (.int v4_1), .val (.int v5_2), .val (.int v6_4), .val (.int v7_6), .unset, .unset, .unset, .unset, .unset, .unset, .unset, .unset, .unset, .unset, .unset, .unset, .unset, .unset, .unset, .unset, .unset, .unset, .unset, .unset] [(.int (p2 &&& (2147483647 : Int32)))])
  refine ogo (fun _ z_ => X5.ldcInt hx hown (mvT hZ (hw _ (List.mem_of_getElem? (i := 8) rfl))) (g := (mkF m 42 #[.val (.int p0), .val (.int p1), .val (.int p2), .val (.int p3), .val (.int v4_1), .val (.int v5_2), .val (.int v6_4), .val (.int v7_6), .unset, .unset, .unset, .unset, .unset, .unset, .unset, .unset, .unset, .unset, .unset, .unset, .unset, .unset, .unset, .unset, .unset, .unset, .unset, .unset] [(.int (p2 &&& (2147483647 : Int32)))])) rfl (hb hby at_42) _ z_) ?_
  show OWay p e below G T5 (mkF m 44 #[.val (.int p0), .val (.int p1), .val (.int p2), .val (.int p3), .val (.int v4_1), .val (.int v5_2), .val (.int v6_4), .val (.int v7_6), .unset, .unset, .unset, .unset, .unset, .unset, .unset, .unset, .unset, .unset, .unset, .unset, .unset, .unset, .unset, .unset, .unset, .unset, .unset, .unset] [(.int (1048577 : Int32)), (.int (p2 &&& (2147483647 : Int32)))])
  refine ogo (fun _ z_ => iremM X5 hx rfl (hb hby at_44) rfl (by decide) z_) ?_
  show OWay p e below G T5 (mkF m 45 #[.val (.int p0), .val (.int p1), .val (.int p2), .val (.int p3), .val (.int v4_1), .val (.int v5_2), .val (.int v6_4), .val (.int v7_6), .unset, .unset, .unset, .unset, .unset, .unset, .unset, .unset, .unset, .unset, .unset, .unset, .unset, .unset, .unset, .unset, .unset, .unset, .unset, .unset] [(.int ((p2 &&& (2147483647 : Int32)) % (1048577 : Int32)))])
  refine ogo (fun _ z_ => XS.i2l X5.here hx rfl (hb hby at_45) rfl z_) ?_
  show OWay p e below G T5 (mkF m 46 #[.val (.int p0), .val (.int p1), .val (.int p2), .val (.int p3), .val (.int v4_1), .val (.int v5_2), .val (.int v6_4), .val (.int v7_6), .unset, .unset, .unset, .unset, .unset, .unset, .unset, .unset, .unset, .unset, .unset, .unset, .unset, .unset, .unset, .unset, .unset, .unset, .unset, .unset] [(.long (((p2 &&& (2147483647 : Int32)) % (1048577 : Int32)).toInt64))])
  suffices Jv8_7 : ∀ v8_7 : Int64, v8_7 = (((p2 &&& (2147483647 : Int32)) % (1048577 : Int32)).toInt64) → OWay p e below G T5 (mkF m 46 #[.val (.int p0), .val (.int p1), .val (.int p2), .val (.int p3), .val (.int v4_1), .val (.int v5_2), .val (.int v6_4), .val (.int v7_6), .unset, .unset, .unset, .unset, .unset, .unset, .unset, .unset, .unset, .unset, .unset, .unset, .unset, .unset, .unset, .unset, .unset, .unset, .unset, .unset] [(.long v8_7)]) from Jv8_7 _ rfl
  intro v8_7 hv8_7
  refine ogo (fun _ z_ => XS.lstore X5.here hx rfl (hb hby at_46) rfl (l' := #[.val (.int p0), .val (.int p1), .val (.int p2), .val (.int p3), .val (.int v4_1), .val (.int v5_2), .val (.int v6_4), .val (.int v7_6), .val (.long v8_7), .second, .unset, .unset, .unset, .unset, .unset, .unset, .unset, .unset, .unset, .unset, .unset, .unset, .unset, .unset, .unset, .unset, .unset, .unset]) rfl z_) ?_
  show OWay p e below G T5 (mkF m 48 #[.val (.int p0), .val (.int p1), .val (.int p2), .val (.int p3), .val (.int v4_1), .val (.int v5_2), .val (.int v6_4), .val (.int v7_6), .val (.long v8_7), .second, .unset, .unset, .unset, .unset, .unset, .unset, .unset, .unset, .unset, .unset, .unset, .unset, .unset, .unset, .unset, .unset, .unset, .unset] [])
  refine ogo (fun _ z_ => XS.iloadN X5.here hx rfl (hb hby at_48) rfl z_) ?_
  show OWay p e below G T5 (mkF m 49 #[.val (.int p0), .val (.int p1), .val (.int p2), .val (.int p3), .val (.int v4_1), .val (.int v5_2), .val (.int v6_4), .val (.int v7_6), .val (.long v8_7), .second, .unset, .unset, .unset, .unset, .unset, .unset, .unset, .unset, .unset, .unset, .unset, .unset, .unset, .unset, .unset, .unset, .unset, .unset] [(.int p3)])
  refine ogo (fun _ z_ => X5.ldcInt hx hown (mvT hZ (hw _ (List.mem_of_getElem? (i := 0) rfl))) (g := (mkF m 49 #[.val (.int p0), .val (.int p1), .val (.int p2), .val (.int p3), .val (.int v4_1), .val (.int v5_2), .val (.int v6_4), .val (.int v7_6), .val (.long v8_7), .second, .unset, .unset, .unset, .unset, .unset, .unset, .unset, .unset, .unset, .unset, .unset, .unset, .unset, .unset, .unset, .unset, .unset, .unset] [(.int p3)])) rfl (hb hby at_49) _ z_) ?_
  show OWay p e below G T5 (mkF m 51 #[.val (.int p0), .val (.int p1), .val (.int p2), .val (.int p3), .val (.int v4_1), .val (.int v5_2), .val (.int v6_4), .val (.int v7_6), .val (.long v8_7), .second, .unset, .unset, .unset, .unset, .unset, .unset, .unset, .unset, .unset, .unset, .unset, .unset, .unset, .unset, .unset, .unset, .unset, .unset] [(.int (2147483647 : Int32)), (.int p3)])
  refine ogo (fun _ z_ => XS.iand X5.here hx rfl (hb hby at_51) rfl z_) ?_
  show OWay p e below G T5 (mkF m 52 #[.val (.int p0), .val (.int p1), .val (.int p2), .val (.int p3), .val (.int v4_1), .val (.int v5_2), .val (.int v6_4), .val (.int v7_6), .val (.long v8_7), .second, .unset, .unset, .unset, .unset, .unset, .unset, .unset, .unset, .unset, .unset, .unset, .unset, .unset, .unset, .unset, .unset, .unset, .unset] [(.int (p3 &&& (2147483647 : Int32)))])
  refine ogo (fun _ z_ => X5.ldcInt hx hown (mvT hZ (hw _ (List.mem_of_getElem? (i := 8) rfl))) (g := (mkF m 52 #[.val (.int p0), .val (.int p1), .val (.int p2), .val (.int p3), .val (.int v4_1), .val (.int v5_2), .val (.int v6_4), .val (.int v7_6), .val (.long v8_7), .second, .unset, .unset, .unset, .unset, .unset, .unset, .unset, .unset, .unset, .unset, .unset, .unset, .unset, .unset, .unset, .unset, .unset, .unset] [(.int (p3 &&& (2147483647 : Int32)))])) rfl (hb hby at_52) _ z_) ?_
  show OWay p e below G T5 (mkF m 54 #[.val (.int p0), .val (.int p1), .val (.int p2), .val (.int p3), .val (.int v4_1), .val (.int v5_2), .val (.int v6_4), .val (.int v7_6), .val (.long v8_7), .second, .unset, .unset, .unset, .unset, .unset, .unset, .unset, .unset, .unset, .unset, .unset, .unset, .unset, .unset, .unset, .unset, .unset, .unset] [(.int (1048577 : Int32)), (.int (p3 &&& (2147483647 : Int32)))])
  refine ogo (fun _ z_ => iremM X5 hx rfl (hb hby at_54) rfl (by decide) z_) ?_
  show OWay p e below G T5 (mkF m 55 #[.val (.int p0), .val (.int p1), .val (.int p2), .val (.int p3), .val (.int v4_1), .val (.int v5_2), .val (.int v6_4), .val (.int v7_6), .val (.long v8_7), .second, .unset, .unset, .unset, .unset, .unset, .unset, .unset, .unset, .unset, .unset, .unset, .unset, .unset, .unset, .unset, .unset, .unset, .unset] [(.int ((p3 &&& (2147483647 : Int32)) % (1048577 : Int32)))])
  refine ogo (fun _ z_ => XS.i2l X5.here hx rfl (hb hby at_55) rfl z_) ?_
  show OWay p e below G T5 (mkF m 56 #[.val (.int p0), .val (.int p1), .val (.int p2), .val (.int p3), .val (.int v4_1), .val (.int v5_2), .val (.int v6_4), .val (.int v7_6), .val (.long v8_7), .second, .unset, .unset, .unset, .unset, .unset, .unset, .unset, .unset, .unset, .unset, .unset, .unset, .unset, .unset, .unset, .unset, .unset, .unset] [(.long (((p3 &&& (2147483647 : Int32)) % (1048577 : Int32)).toInt64))])
  suffices Jv10_8 : ∀ v10_8 : Int64, v10_8 = (((p3 &&& (2147483647 : Int32)) % (1048577 : Int32)).toInt64) → OWay p e below G T5 (mkF m 56 #[.val (.int p0), .val (.int p1), .val (.int p2), .val (.int p3), .val (.int v4_1), .val (.int v5_2), .val (.int v6_4), .val (.int v7_6), .val (.long v8_7), .second, .unset, .unset, .unset, .unset, .unset, .unset, .unset, .unset, .unset, .unset, .unset, .unset, .unset, .unset, .unset, .unset, .unset, .unset] [(.long v10_8)]) from Jv10_8 _ rfl
  intro v10_8 hv10_8
  refine ogo (fun _ z_ => XS.lstore X5.here hx rfl (hb hby at_56) rfl (l' := #[.val (.int p0), .val (.int p1), .val (.int p2), .val (.int p3), .val (.int v4_1), .val (.int v5_2), .val (.int v6_4), .val (.int v7_6), .val (.long v8_7), .second, .val (.long v10_8), .second, .unset, .unset, .unset, .unset, .unset, .unset, .unset, .unset, .unset, .unset, .unset, .unset, .unset, .unset, .unset, .unset]) rfl z_) ?_
  show OWay p e below G T5 (mkF m 58 #[.val (.int p0), .val (.int p1), .val (.int p2), .val (.int p3), .val (.int v4_1), .val (.int v5_2), .val (.int v6_4), .val (.int v7_6), .val (.long v8_7), .second, .val (.long v10_8), .second, .unset, .unset, .unset, .unset, .unset, .unset, .unset, .unset, .unset, .unset, .unset, .unset, .unset, .unset, .unset, .unset] [])
  have b4 := own_rem p0 v4_1 hv4_1
  have b5 := own_rem p1 v5_2 hv5_2
  have b8 := own_rem2 p2 v8_7 hv8_7
  have b10 := own_rem2 p3 v10_8 hv10_8
  have bl := own_mm v4_1 v5_2 v6_4 v7_6 b4 b5 hv6_4 hv7_6
  have D6 : Dy (FP.ddiv (FP.i2d v6_4) (4652218415073722368 : UInt64)) v6_4.toInt 1090 := own_d1 dy_1024 (by decide) (by decide) (by decide)
  have D7 : Dy (FP.ddiv (FP.i2d v7_6) (4652218415073722368 : UInt64)) v7_6.toInt 1090 := own_d1 dy_1024 (by decide) (by decide) (by decide)
  have D8 : Dy (FP.ddiv (FP.l2d v8_7) (4697254411347427328 : UInt64)) v8_7.toInt 1080 := own_d2 (by omega) dy_2p20 (by decide) (by decide) (by decide)
  have D10 : Dy (FP.ddiv (FP.l2d v10_8) (4697254411347427328 : UInt64)) v10_8.toInt 1080 := own_d2 (by omega) dy_2p20 (by decide) (by decide) (by decide)
  refine ogo (fun _ z_ => XS.iload X5.here hx rfl (hb hby at_58) rfl z_) ?_
  show OWay p e below G T5 (mkF m 60 #[.val (.int p0), .val (.int p1), .val (.int p2), .val (.int p3), .val (.int v4_1), .val (.int v5_2), .val (.int v6_4), .val (.int v7_6), .val (.long v8_7), .second, .val (.long v10_8), .second, .unset, .unset, .unset, .unset, .unset, .unset, .unset, .unset, .unset, .unset, .unset, .unset, .unset, .unset, .unset, .unset] [(.int v6_4)])
  refine ogo (fun _ z_ => XS.i2dS X5.here hx rfl (hb hby at_60) rfl rfl z_) ?_
  show OWay p e below G T5 (mkF m 61 #[.val (.int p0), .val (.int p1), .val (.int p2), .val (.int p3), .val (.int v4_1), .val (.int v5_2), .val (.int v6_4), .val (.int v7_6), .val (.long v8_7), .second, .val (.long v10_8), .second, .unset, .unset, .unset, .unset, .unset, .unset, .unset, .unset, .unset, .unset, .unset, .unset, .unset, .unset, .unset, .unset] [(.double (FP.i2d v6_4))])
  refine ogo (fun _ z_ => X5.ldc2DoubleC hx hown (mvT hZ (hw _ (List.mem_of_getElem? (i := 9) rfl))) (g := (mkF m 61 #[.val (.int p0), .val (.int p1), .val (.int p2), .val (.int p3), .val (.int v4_1), .val (.int v5_2), .val (.int v6_4), .val (.int v7_6), .val (.long v8_7), .second, .val (.long v10_8), .second, .unset, .unset, .unset, .unset, .unset, .unset, .unset, .unset, .unset, .unset, .unset, .unset, .unset, .unset, .unset, .unset] [(.double (FP.i2d v6_4))])) rfl (hb hby at_61) _ z_) ?_
  show OWay p e below G T5 (mkF m 64 #[.val (.int p0), .val (.int p1), .val (.int p2), .val (.int p3), .val (.int v4_1), .val (.int v5_2), .val (.int v6_4), .val (.int v7_6), .val (.long v8_7), .second, .val (.long v10_8), .second, .unset, .unset, .unset, .unset, .unset, .unset, .unset, .unset, .unset, .unset, .unset, .unset, .unset, .unset, .unset, .unset] [(.double (4652218415073722368 : UInt64)), (.double (FP.i2d v6_4))])
  refine ogo (fun _ z_ => XS.ddivS X5.here hx rfl (hb hby at_64) rfl (dy_nn D6) rfl z_) ?_
  show OWay p e below G T5 (mkF m 65 #[.val (.int p0), .val (.int p1), .val (.int p2), .val (.int p3), .val (.int v4_1), .val (.int v5_2), .val (.int v6_4), .val (.int v7_6), .val (.long v8_7), .second, .val (.long v10_8), .second, .unset, .unset, .unset, .unset, .unset, .unset, .unset, .unset, .unset, .unset, .unset, .unset, .unset, .unset, .unset, .unset] [(.double (FP.ddiv (FP.i2d v6_4) (4652218415073722368 : UInt64)))])
  suffices Jv12_9 : ∀ v12_9 : UInt64, v12_9 = (FP.ddiv (FP.i2d v6_4) (4652218415073722368 : UInt64)) → OWay p e below G T5 (mkF m 65 #[.val (.int p0), .val (.int p1), .val (.int p2), .val (.int p3), .val (.int v4_1), .val (.int v5_2), .val (.int v6_4), .val (.int v7_6), .val (.long v8_7), .second, .val (.long v10_8), .second, .unset, .unset, .unset, .unset, .unset, .unset, .unset, .unset, .unset, .unset, .unset, .unset, .unset, .unset, .unset, .unset] [(.double v12_9)]) from Jv12_9 _ rfl
  intro v12_9 hv12_9
  refine ogo (fun _ z_ => XS.dstore X5.here hx rfl (hb hby at_65) rfl (l' := #[.val (.int p0), .val (.int p1), .val (.int p2), .val (.int p3), .val (.int v4_1), .val (.int v5_2), .val (.int v6_4), .val (.int v7_6), .val (.long v8_7), .second, .val (.long v10_8), .second, .val (.double v12_9), .second, .unset, .unset, .unset, .unset, .unset, .unset, .unset, .unset, .unset, .unset, .unset, .unset, .unset, .unset]) rfl z_) ?_
  show OWay p e below G T5 (mkF m 67 #[.val (.int p0), .val (.int p1), .val (.int p2), .val (.int p3), .val (.int v4_1), .val (.int v5_2), .val (.int v6_4), .val (.int v7_6), .val (.long v8_7), .second, .val (.long v10_8), .second, .val (.double v12_9), .second, .unset, .unset, .unset, .unset, .unset, .unset, .unset, .unset, .unset, .unset, .unset, .unset, .unset, .unset] [])
  refine ogo (fun _ z_ => XS.iload X5.here hx rfl (hb hby at_67) rfl z_) ?_
  show OWay p e below G T5 (mkF m 69 #[.val (.int p0), .val (.int p1), .val (.int p2), .val (.int p3), .val (.int v4_1), .val (.int v5_2), .val (.int v6_4), .val (.int v7_6), .val (.long v8_7), .second, .val (.long v10_8), .second, .val (.double v12_9), .second, .unset, .unset, .unset, .unset, .unset, .unset, .unset, .unset, .unset, .unset, .unset, .unset, .unset, .unset] [(.int v7_6)])
  refine ogo (fun _ z_ => XS.i2dS X5.here hx rfl (hb hby at_69) rfl rfl z_) ?_
  show OWay p e below G T5 (mkF m 70 #[.val (.int p0), .val (.int p1), .val (.int p2), .val (.int p3), .val (.int v4_1), .val (.int v5_2), .val (.int v6_4), .val (.int v7_6), .val (.long v8_7), .second, .val (.long v10_8), .second, .val (.double v12_9), .second, .unset, .unset, .unset, .unset, .unset, .unset, .unset, .unset, .unset, .unset, .unset, .unset, .unset, .unset] [(.double (FP.i2d v7_6))])
  refine ogo (fun _ z_ => X5.ldc2DoubleC hx hown (mvT hZ (hw _ (List.mem_of_getElem? (i := 9) rfl))) (g := (mkF m 70 #[.val (.int p0), .val (.int p1), .val (.int p2), .val (.int p3), .val (.int v4_1), .val (.int v5_2), .val (.int v6_4), .val (.int v7_6), .val (.long v8_7), .second, .val (.long v10_8), .second, .val (.double v12_9), .second, .unset, .unset, .unset, .unset, .unset, .unset, .unset, .unset, .unset, .unset, .unset, .unset, .unset, .unset] [(.double (FP.i2d v7_6))])) rfl (hb hby at_70) _ z_) ?_
  show OWay p e below G T5 (mkF m 73 #[.val (.int p0), .val (.int p1), .val (.int p2), .val (.int p3), .val (.int v4_1), .val (.int v5_2), .val (.int v6_4), .val (.int v7_6), .val (.long v8_7), .second, .val (.long v10_8), .second, .val (.double v12_9), .second, .unset, .unset, .unset, .unset, .unset, .unset, .unset, .unset, .unset, .unset, .unset, .unset, .unset, .unset] [(.double (4652218415073722368 : UInt64)), (.double (FP.i2d v7_6))])
  refine ogo (fun _ z_ => XS.ddivS X5.here hx rfl (hb hby at_73) rfl (dy_nn D7) rfl z_) ?_
  show OWay p e below G T5 (mkF m 74 #[.val (.int p0), .val (.int p1), .val (.int p2), .val (.int p3), .val (.int v4_1), .val (.int v5_2), .val (.int v6_4), .val (.int v7_6), .val (.long v8_7), .second, .val (.long v10_8), .second, .val (.double v12_9), .second, .unset, .unset, .unset, .unset, .unset, .unset, .unset, .unset, .unset, .unset, .unset, .unset, .unset, .unset] [(.double (FP.ddiv (FP.i2d v7_6) (4652218415073722368 : UInt64)))])
  suffices Jv14_10 : ∀ v14_10 : UInt64, v14_10 = (FP.ddiv (FP.i2d v7_6) (4652218415073722368 : UInt64)) → OWay p e below G T5 (mkF m 74 #[.val (.int p0), .val (.int p1), .val (.int p2), .val (.int p3), .val (.int v4_1), .val (.int v5_2), .val (.int v6_4), .val (.int v7_6), .val (.long v8_7), .second, .val (.long v10_8), .second, .val (.double v12_9), .second, .unset, .unset, .unset, .unset, .unset, .unset, .unset, .unset, .unset, .unset, .unset, .unset, .unset, .unset] [(.double v14_10)]) from Jv14_10 _ rfl
  intro v14_10 hv14_10
  refine ogo (fun _ z_ => XS.dstore X5.here hx rfl (hb hby at_74) rfl (l' := #[.val (.int p0), .val (.int p1), .val (.int p2), .val (.int p3), .val (.int v4_1), .val (.int v5_2), .val (.int v6_4), .val (.int v7_6), .val (.long v8_7), .second, .val (.long v10_8), .second, .val (.double v12_9), .second, .val (.double v14_10), .second, .unset, .unset, .unset, .unset, .unset, .unset, .unset, .unset, .unset, .unset, .unset, .unset]) rfl z_) ?_
  show OWay p e below G T5 (mkF m 76 #[.val (.int p0), .val (.int p1), .val (.int p2), .val (.int p3), .val (.int v4_1), .val (.int v5_2), .val (.int v6_4), .val (.int v7_6), .val (.long v8_7), .second, .val (.long v10_8), .second, .val (.double v12_9), .second, .val (.double v14_10), .second, .unset, .unset, .unset, .unset, .unset, .unset, .unset, .unset, .unset, .unset, .unset, .unset] [])
  refine ogo (fun _ z_ => XS.lload X5.here hx rfl (hb hby at_76) rfl z_) ?_
  show OWay p e below G T5 (mkF m 78 #[.val (.int p0), .val (.int p1), .val (.int p2), .val (.int p3), .val (.int v4_1), .val (.int v5_2), .val (.int v6_4), .val (.int v7_6), .val (.long v8_7), .second, .val (.long v10_8), .second, .val (.double v12_9), .second, .val (.double v14_10), .second, .unset, .unset, .unset, .unset, .unset, .unset, .unset, .unset, .unset, .unset, .unset, .unset] [(.long v8_7)])
  refine ogo (fun _ z_ => XS.l2dS X5.here hx rfl (hb hby at_78) rfl rfl z_) ?_
  show OWay p e below G T5 (mkF m 79 #[.val (.int p0), .val (.int p1), .val (.int p2), .val (.int p3), .val (.int v4_1), .val (.int v5_2), .val (.int v6_4), .val (.int v7_6), .val (.long v8_7), .second, .val (.long v10_8), .second, .val (.double v12_9), .second, .val (.double v14_10), .second, .unset, .unset, .unset, .unset, .unset, .unset, .unset, .unset, .unset, .unset, .unset, .unset] [(.double (FP.l2d v8_7))])
  refine ogo (fun _ z_ => X5.ldc2DoubleC hx hown (mvT hZ (hw _ (List.mem_of_getElem? (i := 10) rfl))) (g := (mkF m 79 #[.val (.int p0), .val (.int p1), .val (.int p2), .val (.int p3), .val (.int v4_1), .val (.int v5_2), .val (.int v6_4), .val (.int v7_6), .val (.long v8_7), .second, .val (.long v10_8), .second, .val (.double v12_9), .second, .val (.double v14_10), .second, .unset, .unset, .unset, .unset, .unset, .unset, .unset, .unset, .unset, .unset, .unset, .unset] [(.double (FP.l2d v8_7))])) rfl (hb hby at_79) _ z_) ?_
  show OWay p e below G T5 (mkF m 82 #[.val (.int p0), .val (.int p1), .val (.int p2), .val (.int p3), .val (.int v4_1), .val (.int v5_2), .val (.int v6_4), .val (.int v7_6), .val (.long v8_7), .second, .val (.long v10_8), .second, .val (.double v12_9), .second, .val (.double v14_10), .second, .unset, .unset, .unset, .unset, .unset, .unset, .unset, .unset, .unset, .unset, .unset, .unset] [(.double (4697254411347427328 : UInt64)), (.double (FP.l2d v8_7))])
  refine ogo (fun _ z_ => XS.ddivS X5.here hx rfl (hb hby at_82) rfl (dy_nn D8) rfl z_) ?_
  show OWay p e below G T5 (mkF m 83 #[.val (.int p0), .val (.int p1), .val (.int p2), .val (.int p3), .val (.int v4_1), .val (.int v5_2), .val (.int v6_4), .val (.int v7_6), .val (.long v8_7), .second, .val (.long v10_8), .second, .val (.double v12_9), .second, .val (.double v14_10), .second, .unset, .unset, .unset, .unset, .unset, .unset, .unset, .unset, .unset, .unset, .unset, .unset] [(.double (FP.ddiv (FP.l2d v8_7) (4697254411347427328 : UInt64)))])
  suffices Jv16_11 : ∀ v16_11 : UInt64, v16_11 = (FP.ddiv (FP.l2d v8_7) (4697254411347427328 : UInt64)) → OWay p e below G T5 (mkF m 83 #[.val (.int p0), .val (.int p1), .val (.int p2), .val (.int p3), .val (.int v4_1), .val (.int v5_2), .val (.int v6_4), .val (.int v7_6), .val (.long v8_7), .second, .val (.long v10_8), .second, .val (.double v12_9), .second, .val (.double v14_10), .second, .unset, .unset, .unset, .unset, .unset, .unset, .unset, .unset, .unset, .unset, .unset, .unset] [(.double v16_11)]) from Jv16_11 _ rfl
  intro v16_11 hv16_11
  refine ogo (fun _ z_ => XS.dstore X5.here hx rfl (hb hby at_83) rfl (l' := #[.val (.int p0), .val (.int p1), .val (.int p2), .val (.int p3), .val (.int v4_1), .val (.int v5_2), .val (.int v6_4), .val (.int v7_6), .val (.long v8_7), .second, .val (.long v10_8), .second, .val (.double v12_9), .second, .val (.double v14_10), .second, .val (.double v16_11), .second, .unset, .unset, .unset, .unset, .unset, .unset, .unset, .unset, .unset, .unset]) rfl z_) ?_
  show OWay p e below G T5 (mkF m 85 #[.val (.int p0), .val (.int p1), .val (.int p2), .val (.int p3), .val (.int v4_1), .val (.int v5_2), .val (.int v6_4), .val (.int v7_6), .val (.long v8_7), .second, .val (.long v10_8), .second, .val (.double v12_9), .second, .val (.double v14_10), .second, .val (.double v16_11), .second, .unset, .unset, .unset, .unset, .unset, .unset, .unset, .unset, .unset, .unset] [])
  refine ogo (fun _ z_ => XS.lload X5.here hx rfl (hb hby at_85) rfl z_) ?_
  show OWay p e below G T5 (mkF m 87 #[.val (.int p0), .val (.int p1), .val (.int p2), .val (.int p3), .val (.int v4_1), .val (.int v5_2), .val (.int v6_4), .val (.int v7_6), .val (.long v8_7), .second, .val (.long v10_8), .second, .val (.double v12_9), .second, .val (.double v14_10), .second, .val (.double v16_11), .second, .unset, .unset, .unset, .unset, .unset, .unset, .unset, .unset, .unset, .unset] [(.long v10_8)])
  refine ogo (fun _ z_ => XS.l2dS X5.here hx rfl (hb hby at_87) rfl rfl z_) ?_
  show OWay p e below G T5 (mkF m 88 #[.val (.int p0), .val (.int p1), .val (.int p2), .val (.int p3), .val (.int v4_1), .val (.int v5_2), .val (.int v6_4), .val (.int v7_6), .val (.long v8_7), .second, .val (.long v10_8), .second, .val (.double v12_9), .second, .val (.double v14_10), .second, .val (.double v16_11), .second, .unset, .unset, .unset, .unset, .unset, .unset, .unset, .unset, .unset, .unset] [(.double (FP.l2d v10_8))])
  refine ogo (fun _ z_ => X5.ldc2DoubleC hx hown (mvT hZ (hw _ (List.mem_of_getElem? (i := 10) rfl))) (g := (mkF m 88 #[.val (.int p0), .val (.int p1), .val (.int p2), .val (.int p3), .val (.int v4_1), .val (.int v5_2), .val (.int v6_4), .val (.int v7_6), .val (.long v8_7), .second, .val (.long v10_8), .second, .val (.double v12_9), .second, .val (.double v14_10), .second, .val (.double v16_11), .second, .unset, .unset, .unset, .unset, .unset, .unset, .unset, .unset, .unset, .unset] [(.double (FP.l2d v10_8))])) rfl (hb hby at_88) _ z_) ?_
  show OWay p e below G T5 (mkF m 91 #[.val (.int p0), .val (.int p1), .val (.int p2), .val (.int p3), .val (.int v4_1), .val (.int v5_2), .val (.int v6_4), .val (.int v7_6), .val (.long v8_7), .second, .val (.long v10_8), .second, .val (.double v12_9), .second, .val (.double v14_10), .second, .val (.double v16_11), .second, .unset, .unset, .unset, .unset, .unset, .unset, .unset, .unset, .unset, .unset] [(.double (4697254411347427328 : UInt64)), (.double (FP.l2d v10_8))])
  refine ogo (fun _ z_ => XS.ddivS X5.here hx rfl (hb hby at_91) rfl (dy_nn D10) rfl z_) ?_
  show OWay p e below G T5 (mkF m 92 #[.val (.int p0), .val (.int p1), .val (.int p2), .val (.int p3), .val (.int v4_1), .val (.int v5_2), .val (.int v6_4), .val (.int v7_6), .val (.long v8_7), .second, .val (.long v10_8), .second, .val (.double v12_9), .second, .val (.double v14_10), .second, .val (.double v16_11), .second, .unset, .unset, .unset, .unset, .unset, .unset, .unset, .unset, .unset, .unset] [(.double (FP.ddiv (FP.l2d v10_8) (4697254411347427328 : UInt64)))])
  suffices Jv18_12 : ∀ v18_12 : UInt64, v18_12 = (FP.ddiv (FP.l2d v10_8) (4697254411347427328 : UInt64)) → OWay p e below G T5 (mkF m 92 #[.val (.int p0), .val (.int p1), .val (.int p2), .val (.int p3), .val (.int v4_1), .val (.int v5_2), .val (.int v6_4), .val (.int v7_6), .val (.long v8_7), .second, .val (.long v10_8), .second, .val (.double v12_9), .second, .val (.double v14_10), .second, .val (.double v16_11), .second, .unset, .unset, .unset, .unset, .unset, .unset, .unset, .unset, .unset, .unset] [(.double v18_12)]) from Jv18_12 _ rfl
  intro v18_12 hv18_12
  refine ogo (fun _ z_ => XS.dstore X5.here hx rfl (hb hby at_92) rfl (l' := #[.val (.int p0), .val (.int p1), .val (.int p2), .val (.int p3), .val (.int v4_1), .val (.int v5_2), .val (.int v6_4), .val (.int v7_6), .val (.long v8_7), .second, .val (.long v10_8), .second, .val (.double v12_9), .second, .val (.double v14_10), .second, .val (.double v16_11), .second, .val (.double v18_12), .second, .unset, .unset, .unset, .unset, .unset, .unset, .unset, .unset]) rfl z_) ?_
  show OWay p e below G T5 (mkF m 94 #[.val (.int p0), .val (.int p1), .val (.int p2), .val (.int p3), .val (.int v4_1), .val (.int v5_2), .val (.int v6_4), .val (.int v7_6), .val (.long v8_7), .second, .val (.long v10_8), .second, .val (.double v12_9), .second, .val (.double v14_10), .second, .val (.double v16_11), .second, .val (.double v18_12), .second, .unset, .unset, .unset, .unset, .unset, .unset, .unset, .unset] [])
  refine ogo (fun _ z_ => XS.dload X5.here hx rfl (hb hby at_94) rfl z_) ?_
  show OWay p e below G T5 (mkF m 96 #[.val (.int p0), .val (.int p1), .val (.int p2), .val (.int p3), .val (.int v4_1), .val (.int v5_2), .val (.int v6_4), .val (.int v7_6), .val (.long v8_7), .second, .val (.long v10_8), .second, .val (.double v12_9), .second, .val (.double v14_10), .second, .val (.double v16_11), .second, .val (.double v18_12), .second, .unset, .unset, .unset, .unset, .unset, .unset, .unset, .unset] [(.double v12_9)])
  refine ogo (fun _ z_ => XS.dload X5.here hx rfl (hb hby at_96) rfl z_) ?_
  show OWay p e below G T5 (mkF m 98 #[.val (.int p0), .val (.int p1), .val (.int p2), .val (.int p3), .val (.int v4_1), .val (.int v5_2), .val (.int v6_4), .val (.int v7_6), .val (.long v8_7), .second, .val (.long v10_8), .second, .val (.double v12_9), .second, .val (.double v14_10), .second, .val (.double v16_11), .second, .val (.double v18_12), .second, .unset, .unset, .unset, .unset, .unset, .unset, .unset, .unset] [(.double v14_10), (.double v12_9)])
  refine ogo (fun _ z_ => XS.dload X5.here hx rfl (hb hby at_98) rfl z_) ?_
  show OWay p e below G T5 (mkF m 100 #[.val (.int p0), .val (.int p1), .val (.int p2), .val (.int p3), .val (.int v4_1), .val (.int v5_2), .val (.int v6_4), .val (.int v7_6), .val (.long v8_7), .second, .val (.long v10_8), .second, .val (.double v12_9), .second, .val (.double v14_10), .second, .val (.double v16_11), .second, .val (.double v18_12), .second, .unset, .unset, .unset, .unset, .unset, .unset, .unset, .unset] [(.double v16_11), (.double v14_10), (.double v12_9)])
  refine ogo (fun _ z_ => XS.dload X5.here hx rfl (hb hby at_100) rfl z_) ?_
  show OWay p e below G T5 (mkF m 102 #[.val (.int p0), .val (.int p1), .val (.int p2), .val (.int p3), .val (.int v4_1), .val (.int v5_2), .val (.int v6_4), .val (.int v7_6), .val (.long v8_7), .second, .val (.long v10_8), .second, .val (.double v12_9), .second, .val (.double v14_10), .second, .val (.double v16_11), .second, .val (.double v18_12), .second, .unset, .unset, .unset, .unset, .unset, .unset, .unset, .unset] [(.double v18_12), (.double v16_11), (.double v14_10), (.double v12_9)])
  obtain ⟨_, T13, L13, X13, hQ13, st13⟩ := wStatic X5 hx hZ (y := (⟨"com/example/geotide/geotide/Scorer", "sskBoundInDoubles", "(DDDD)D"⟩ : MethodName)) hown (hw _ (List.mem_of_getElem? (i := 11) rfl)) (hw _ (List.mem_of_getElem? (i := 12) rfl)) (hw _ (List.mem_of_getElem? (i := 13) rfl)) (hw _ (List.mem_of_getElem? (i := 14) rfl)) (by decide) (ssk_b_c l Z az hw [] v12_9 v14_10 v16_11 v18_12 v6_4.toInt v7_6.toInt v8_7.toInt v10_8.toInt h0 n0 Z0 (by rw [hv12_9]; exact D6) (by rw [hv14_10]; exact D7) (by rw [hv16_11]; exact D8) (by rw [hv18_12]; exact D10) bl b8 b10) 0 (by decide) (by decide) (g := (mkF m 102 #[.val (.int p0), .val (.int p1), .val (.int p2), .val (.int p3), .val (.int v4_1), .val (.int v5_2), .val (.int v6_4), .val (.int v7_6), .val (.long v8_7), .second, .val (.long v10_8), .second, .val (.double v12_9), .second, .val (.double v14_10), .second, .val (.double v16_11), .second, .val (.double v18_12), .second, .unset, .unset, .unset, .unset, .unset, .unset, .unset, .unset] [(.double v18_12), (.double v16_11), (.double v14_10), (.double v12_9)])) rfl (by rw [hml]; rfl) (argsL := [(.double v12_9), (.double v14_10), (.double v16_11), (.double v18_12)]) (rest := []) (lenOf pd__DDDD_D rfl) rfl (by show 2 * 0 + _ ≤ _; exact Nat.le_of_eq rfl) (hb hby at_102) rfl eq5 (by decide) (by decide)
  obtain ⟨x_14, rfl, N13q, eq13, dx_15⟩ := hQ13
  have N13 := Fr.app N5 N13q
  refine ogo st13 ?_
  show OWay p e below G T13 (mkF m 105 #[.val (.int p0), .val (.int p1), .val (.int p2), .val (.int p3), .val (.int v4_1), .val (.int v5_2), .val (.int v6_4), .val (.int v7_6), .val (.long v8_7), .second, .val (.long v10_8), .second, .val (.double v12_9), .second, .val (.double v14_10), .second, .val (.double v16_11), .second, .val (.double v18_12), .second, .unset, .unset, .unset, .unset, .unset, .unset, .unset, .unset] [(.double x_14)])
  have DX := dx_15
  refine ogo (fun _ z_ => XS.dstore X13.here hx rfl (hb hby at_105) rfl (l' := #[.val (.int p0), .val (.int p1), .val (.int p2), .val (.int p3), .val (.int v4_1), .val (.int v5_2), .val (.int v6_4), .val (.int v7_6), .val (.long v8_7), .second, .val (.long v10_8), .second, .val (.double v12_9), .second, .val (.double v14_10), .second, .val (.double v16_11), .second, .val (.double v18_12), .second, .val (.double x_14), .second, .unset, .unset, .unset, .unset, .unset, .unset]) rfl z_) ?_
  show OWay p e below G T13 (mkF m 107 #[.val (.int p0), .val (.int p1), .val (.int p2), .val (.int p3), .val (.int v4_1), .val (.int v5_2), .val (.int v6_4), .val (.int v7_6), .val (.long v8_7), .second, .val (.long v10_8), .second, .val (.double v12_9), .second, .val (.double v14_10), .second, .val (.double v16_11), .second, .val (.double v18_12), .second, .val (.double x_14), .second, .unset, .unset, .unset, .unset, .unset, .unset] [])
  refine ogo (fun _ z_ => XS.iload X13.here hx rfl (hb hby at_107) rfl z_) ?_
  show OWay p e below G T13 (mkF m 109 #[.val (.int p0), .val (.int p1), .val (.int p2), .val (.int p3), .val (.int v4_1), .val (.int v5_2), .val (.int v6_4), .val (.int v7_6), .val (.long v8_7), .second, .val (.long v10_8), .second, .val (.double v12_9), .second, .val (.double v14_10), .second, .val (.double v16_11), .second, .val (.double v18_12), .second, .val (.double x_14), .second, .unset, .unset, .unset, .unset, .unset, .unset] [(.int v6_4)])
  refine ogo (fun _ z_ => XS.i2l X13.here hx rfl (hb hby at_109) rfl z_) ?_
  show OWay p e below G T13 (mkF m 110 #[.val (.int p0), .val (.int p1), .val (.int p2), .val (.int p3), .val (.int v4_1), .val (.int v5_2), .val (.int v6_4), .val (.int v7_6), .val (.long v8_7), .second, .val (.long v10_8), .second, .val (.double v12_9), .second, .val (.double v14_10), .second, .val (.double v16_11), .second, .val (.double v18_12), .second, .val (.double x_14), .second, .unset, .unset, .unset, .unset, .unset, .unset] [(.long (v6_4.toInt64))])
  refine ogo (fun _ z_ => XS.lload X13.here hx rfl (hb hby at_110) rfl z_) ?_
  show OWay p e below G T13 (mkF m 112 #[.val (.int p0), .val (.int p1), .val (.int p2), .val (.int p3), .val (.int v4_1), .val (.int v5_2), .val (.int v6_4), .val (.int v7_6), .val (.long v8_7), .second, .val (.long v10_8), .second, .val (.double v12_9), .second, .val (.double v14_10), .second, .val (.double v16_11), .second, .val (.double v18_12), .second, .val (.double x_14), .second, .unset, .unset, .unset, .unset, .unset, .unset] [(.long v8_7), (.long (v6_4.toInt64))])
  refine ogo (fun _ z_ => XS.lmul X13.here hx rfl (hb hby at_112) rfl z_) ?_
  show OWay p e below G T13 (mkF m 113 #[.val (.int p0), .val (.int p1), .val (.int p2), .val (.int p3), .val (.int v4_1), .val (.int v5_2), .val (.int v6_4), .val (.int v7_6), .val (.long v8_7), .second, .val (.long v10_8), .second, .val (.double v12_9), .second, .val (.double v14_10), .second, .val (.double v16_11), .second, .val (.double v18_12), .second, .val (.double x_14), .second, .unset, .unset, .unset, .unset, .unset, .unset] [(.long ((v6_4.toInt64) * v8_7))])
  refine ogo (fun _ z_ => XS.sipush X13.here hx rfl (hb hby at_113) z_) ?_
  show OWay p e below G T13 (mkF m 116 #[.val (.int p0), .val (.int p1), .val (.int p2), .val (.int p3), .val (.int v4_1), .val (.int v5_2), .val (.int v6_4), .val (.int v7_6), .val (.long v8_7), .second, .val (.long v10_8), .second, .val (.double v12_9), .second, .val (.double v14_10), .second, .val (.double v16_11), .second, .val (.double v18_12), .second, .val (.double x_14), .second, .unset, .unset, .unset, .unset, .unset, .unset] [(.int (1024 : Int32)), (.long ((v6_4.toInt64) * v8_7))])
  refine ogo (fun _ z_ => XS.iload X13.here hx rfl (hb hby at_116) rfl z_) ?_
  show OWay p e below G T13 (mkF m 118 #[.val (.int p0), .val (.int p1), .val (.int p2), .val (.int p3), .val (.int v4_1), .val (.int v5_2), .val (.int v6_4), .val (.int v7_6), .val (.long v8_7), .second, .val (.long v10_8), .second, .val (.double v12_9), .second, .val (.double v14_10), .second, .val (.double v16_11), .second, .val (.double v18_12), .second, .val (.double x_14), .second, .unset, .unset, .unset, .unset, .unset, .unset] [(.int v6_4), (.int (1024 : Int32)), (.long ((v6_4.toInt64) * v8_7))])
  refine ogo (fun _ z_ => XS.isub X13.here hx rfl (hb hby at_118) rfl z_) ?_
  show OWay p e below G T13 (mkF m 119 #[.val (.int p0), .val (.int p1), .val (.int p2), .val (.int p3), .val (.int v4_1), .val (.int v5_2), .val (.int v6_4), .val (.int v7_6), .val (.long v8_7), .second, .val (.long v10_8), .second, .val (.double v12_9), .second, .val (.double v14_10), .second, .val (.double v16_11), .second, .val (.double v18_12), .second, .val (.double x_14), .second, .unset, .unset, .unset, .unset, .unset, .unset] [(.int ((1024 : Int32) - v6_4)), (.long ((v6_4.toInt64) * v8_7))])
  refine ogo (fun _ z_ => XS.i2l X13.here hx rfl (hb hby at_119) rfl z_) ?_
  show OWay p e below G T13 (mkF m 120 #[.val (.int p0), .val (.int p1), .val (.int p2), .val (.int p3), .val (.int v4_1), .val (.int v5_2), .val (.int v6_4), .val (.int v7_6), .val (.long v8_7), .second, .val (.long v10_8), .second, .val (.double v12_9), .second, .val (.double v14_10), .second, .val (.double v16_11), .second, .val (.double v18_12), .second, .val (.double x_14), .second, .unset, .unset, .unset, .unset, .unset, .unset] [(.long (((1024 : Int32) - v6_4).toInt64)), (.long ((v6_4.toInt64) * v8_7))])
  refine ogo (fun _ z_ => XS.lload X13.here hx rfl (hb hby at_120) rfl z_) ?_
  show OWay p e below G T13 (mkF m 122 #[.val (.int p0), .val (.int p1), .val (.int p2), .val (.int p3), .val (.int v4_1), .val (.int v5_2), .val (.int v6_4), .val (.int v7_6), .val (.long v8_7), .second, .val (.long v10_8), .second, .val (.double v12_9), .second, .val (.double v14_10), .second, .val (.double v16_11), .second, .val (.double v18_12), .second, .val (.double x_14), .second, .unset, .unset, .unset, .unset, .unset, .unset] [(.long v10_8), (.long (((1024 : Int32) - v6_4).toInt64)), (.long ((v6_4.toInt64) * v8_7))])
  refine ogo (fun _ z_ => XS.lmul X13.here hx rfl (hb hby at_122) rfl z_) ?_
  show OWay p e below G T13 (mkF m 123 #[.val (.int p0), .val (.int p1), .val (.int p2), .val (.int p3), .val (.int v4_1), .val (.int v5_2), .val (.int v6_4), .val (.int v7_6), .val (.long v8_7), .second, .val (.long v10_8), .second, .val (.double v12_9), .second, .val (.double v14_10), .second, .val (.double v16_11), .second, .val (.double v18_12), .second, .val (.double x_14), .second, .unset, .unset, .unset, .unset, .unset, .unset] [(.long ((((1024 : Int32) - v6_4).toInt64) * v10_8)), (.long ((v6_4.toInt64) * v8_7))])
  refine ogo (fun _ z_ => XS.ladd X13.here hx rfl (hb hby at_123) rfl z_) ?_
  show OWay p e below G T13 (mkF m 124 #[.val (.int p0), .val (.int p1), .val (.int p2), .val (.int p3), .val (.int v4_1), .val (.int v5_2), .val (.int v6_4), .val (.int v7_6), .val (.long v8_7), .second, .val (.long v10_8), .second, .val (.double v12_9), .second, .val (.double v14_10), .second, .val (.double v16_11), .second, .val (.double v18_12), .second, .val (.double x_14), .second, .unset, .unset, .unset, .unset, .unset, .unset] [(.long (((v6_4.toInt64) * v8_7) + ((((1024 : Int32) - v6_4).toInt64) * v10_8)))])
  suffices Jv22_16 : ∀ v22_16 : Int64, v22_16 = (((v6_4.toInt64) * v8_7) + ((((1024 : Int32) - v6_4).toInt64) * v10_8)) → OWay p e below G T13 (mkF m 124 #[.val (.int p0), .val (.int p1), .val (.int p2), .val (.int p3), .val (.int v4_1), .val (.int v5_2), .val (.int v6_4), .val (.int v7_6), .val (.long v8_7), .second, .val (.long v10_8), .second, .val (.double v12_9), .second, .val (.double v14_10), .second, .val (.double v16_11), .second, .val (.double v18_12), .second, .val (.double x_14), .second, .unset, .unset, .unset, .unset, .unset, .unset] [(.long v22_16)]) from Jv22_16 _ rfl
  intro v22_16 hv22_16
  refine ogo (fun _ z_ => XS.lstore X13.here hx rfl (hb hby at_124) rfl (l' := #[.val (.int p0), .val (.int p1), .val (.int p2), .val (.int p3), .val (.int v4_1), .val (.int v5_2), .val (.int v6_4), .val (.int v7_6), .val (.long v8_7), .second, .val (.long v10_8), .second, .val (.double v12_9), .second, .val (.double v14_10), .second, .val (.double v16_11), .second, .val (.double v18_12), .second, .val (.double x_14), .second, .val (.long v22_16), .second, .unset, .unset, .unset, .unset]) rfl z_) ?_
  show OWay p e below G T13 (mkF m 126 #[.val (.int p0), .val (.int p1), .val (.int p2), .val (.int p3), .val (.int v4_1), .val (.int v5_2), .val (.int v6_4), .val (.int v7_6), .val (.long v8_7), .second, .val (.long v10_8), .second, .val (.double v12_9), .second, .val (.double v14_10), .second, .val (.double v16_11), .second, .val (.double v18_12), .second, .val (.double x_14), .second, .val (.long v22_16), .second, .unset, .unset, .unset, .unset] [])
  refine ogo (fun _ z_ => XS.iload X13.here hx rfl (hb hby at_126) rfl z_) ?_
  show OWay p e below G T13 (mkF m 128 #[.val (.int p0), .val (.int p1), .val (.int p2), .val (.int p3), .val (.int v4_1), .val (.int v5_2), .val (.int v6_4), .val (.int v7_6), .val (.long v8_7), .second, .val (.long v10_8), .second, .val (.double v12_9), .second, .val (.double v14_10), .second, .val (.double v16_11), .second, .val (.double v18_12), .second, .val (.double x_14), .second, .val (.long v22_16), .second, .unset, .unset, .unset, .unset] [(.int v7_6)])
  refine ogo (fun _ z_ => XS.i2l X13.here hx rfl (hb hby at_128) rfl z_) ?_
  show OWay p e below G T13 (mkF m 129 #[.val (.int p0), .val (.int p1), .val (.int p2), .val (.int p3), .val (.int v4_1), .val (.int v5_2), .val (.int v6_4), .val (.int v7_6), .val (.long v8_7), .second, .val (.long v10_8), .second, .val (.double v12_9), .second, .val (.double v14_10), .second, .val (.double v16_11), .second, .val (.double v18_12), .second, .val (.double x_14), .second, .val (.long v22_16), .second, .unset, .unset, .unset, .unset] [(.long (v7_6.toInt64))])
  refine ogo (fun _ z_ => XS.lload X13.here hx rfl (hb hby at_129) rfl z_) ?_
  show OWay p e below G T13 (mkF m 131 #[.val (.int p0), .val (.int p1), .val (.int p2), .val (.int p3), .val (.int v4_1), .val (.int v5_2), .val (.int v6_4), .val (.int v7_6), .val (.long v8_7), .second, .val (.long v10_8), .second, .val (.double v12_9), .second, .val (.double v14_10), .second, .val (.double v16_11), .second, .val (.double v18_12), .second, .val (.double x_14), .second, .val (.long v22_16), .second, .unset, .unset, .unset, .unset] [(.long v8_7), (.long (v7_6.toInt64))])
  refine ogo (fun _ z_ => XS.lmul X13.here hx rfl (hb hby at_131) rfl z_) ?_
  show OWay p e below G T13 (mkF m 132 #[.val (.int p0), .val (.int p1), .val (.int p2), .val (.int p3), .val (.int v4_1), .val (.int v5_2), .val (.int v6_4), .val (.int v7_6), .val (.long v8_7), .second, .val (.long v10_8), .second, .val (.double v12_9), .second, .val (.double v14_10), .second, .val (.double v16_11), .second, .val (.double v18_12), .second, .val (.double x_14), .second, .val (.long v22_16), .second, .unset, .unset, .unset, .unset] [(.long ((v7_6.toInt64) * v8_7))])
  refine ogo (fun _ z_ => XS.sipush X13.here hx rfl (hb hby at_132) z_) ?_
  show OWay p e below G T13 (mkF m 135 #[.val (.int p0), .val (.int p1), .val (.int p2), .val (.int p3), .val (.int v4_1), .val (.int v5_2), .val (.int v6_4), .val (.int v7_6), .val (.long v8_7), .second, .val (.long v10_8), .second, .val (.double v12_9), .second, .val (.double v14_10), .second, .val (.double v16_11), .second, .val (.double v18_12), .second, .val (.double x_14), .second, .val (.long v22_16), .second, .unset, .unset, .unset, .unset] [(.int (1024 : Int32)), (.long ((v7_6.toInt64) * v8_7))])
  refine ogo (fun _ z_ => XS.iload X13.here hx rfl (hb hby at_135) rfl z_) ?_
  show OWay p e below G T13 (mkF m 137 #[.val (.int p0), .val (.int p1), .val (.int p2), .val (.int p3), .val (.int v4_1), .val (.int v5_2), .val (.int v6_4), .val (.int v7_6), .val (.long v8_7), .second, .val (.long v10_8), .second, .val (.double v12_9), .second, .val (.double v14_10), .second, .val (.double v16_11), .second, .val (.double v18_12), .second, .val (.double x_14), .second, .val (.long v22_16), .second, .unset, .unset, .unset, .unset] [(.int v7_6), (.int (1024 : Int32)), (.long ((v7_6.toInt64) * v8_7))])
  refine ogo (fun _ z_ => XS.isub X13.here hx rfl (hb hby at_137) rfl z_) ?_
  show OWay p e below G T13 (mkF m 138 #[.val (.int p0), .val (.int p1), .val (.int p2), .val (.int p3), .val (.int v4_1), .val (.int v5_2), .val (.int v6_4), .val (.int v7_6), .val (.long v8_7), .second, .val (.long v10_8), .second, .val (.double v12_9), .second, .val (.double v14_10), .second, .val (.double v16_11), .second, .val (.double v18_12), .second, .val (.double x_14), .second, .val (.long v22_16), .second, .unset, .unset, .unset, .unset] [(.int ((1024 : Int32) - v7_6)), (.long ((v7_6.toInt64) * v8_7))])
  refine ogo (fun _ z_ => XS.i2l X13.here hx rfl (hb hby at_138) rfl z_) ?_
  show OWay p e below G T13 (mkF m 139 #[.val (.int p0), .val (.int p1), .val (.int p2), .val (.int p3), .val (.int v4_1), .val (.int v5_2), .val (.int v6_4), .val (.int v7_6), .val (.long v8_7), .second, .val (.long v10_8), .second, .val (.double v12_9), .second, .val (.double v14_10), .second, .val (.double v16_11), .second, .val (.double v18_12), .second, .val (.double x_14), .second, .val (.long v22_16), .second, .unset, .unset, .unset, .unset] [(.long (((1024 : Int32) - v7_6).toInt64)), (.long ((v7_6.toInt64) * v8_7))])
  refine ogo (fun _ z_ => XS.lload X13.here hx rfl (hb hby at_139) rfl z_) ?_
  show OWay p e below G T13 (mkF m 141 #[.val (.int p0), .val (.int p1), .val (.int p2), .val (.int p3), .val (.int v4_1), .val (.int v5_2), .val (.int v6_4), .val (.int v7_6), .val (.long v8_7), .second, .val (.long v10_8), .second, .val (.double v12_9), .second, .val (.double v14_10), .second, .val (.double v16_11), .second, .val (.double v18_12), .second, .val (.double x_14), .second, .val (.long v22_16), .second, .unset, .unset, .unset, .unset] [(.long v10_8), (.long (((1024 : Int32) - v7_6).toInt64)), (.long ((v7_6.toInt64) * v8_7))])
  refine ogo (fun _ z_ => XS.lmul X13.here hx rfl (hb hby at_141) rfl z_) ?_
  show OWay p e below G T13 (mkF m 142 #[.val (.int p0), .val (.int p1), .val (.int p2), .val (.int p3), .val (.int v4_1), .val (.int v5_2), .val (.int v6_4), .val (.int v7_6), .val (.long v8_7), .second, .val (.long v10_8), .second, .val (.double v12_9), .second, .val (.double v14_10), .second, .val (.double v16_11), .second, .val (.double v18_12), .second, .val (.double x_14), .second, .val (.long v22_16), .second, .unset, .unset, .unset, .unset] [(.long ((((1024 : Int32) - v7_6).toInt64) * v10_8)), (.long ((v7_6.toInt64) * v8_7))])
  refine ogo (fun _ z_ => XS.ladd X13.here hx rfl (hb hby at_142) rfl z_) ?_
  show OWay p e below G T13 (mkF m 143 #[.val (.int p0), .val (.int p1), .val (.int p2), .val (.int p3), .val (.int v4_1), .val (.int v5_2), .val (.int v6_4), .val (.int v7_6), .val (.long v8_7), .second, .val (.long v10_8), .second, .val (.double v12_9), .second, .val (.double v14_10), .second, .val (.double v16_11), .second, .val (.double v18_12), .second, .val (.double x_14), .second, .val (.long v22_16), .second, .unset, .unset, .unset, .unset] [(.long (((v7_6.toInt64) * v8_7) + ((((1024 : Int32) - v7_6).toInt64) * v10_8)))])
  suffices Jv24_17 : ∀ v24_17 : Int64, v24_17 = (((v7_6.toInt64) * v8_7) + ((((1024 : Int32) - v7_6).toInt64) * v10_8)) → OWay p e below G T13 (mkF m 143 #[.val (.int p0), .val (.int p1), .val (.int p2), .val (.int p3), .val (.int v4_1), .val (.int v5_2), .val (.int v6_4), .val (.int v7_6), .val (.long v8_7), .second, .val (.long v10_8), .second, .val (.double v12_9), .second, .val (.double v14_10), .second, .val (.double v16_11), .second, .val (.double v18_12), .second, .val (.double x_14), .second, .val (.long v22_16), .second, .unset, .unset, .unset, .unset] [(.long v24_17)]) from Jv24_17 _ rfl
  intro v24_17 hv24_17
  refine ogo (fun _ z_ => XS.lstore X13.here hx rfl (hb hby at_143) rfl (l' := #[.val (.int p0), .val (.int p1), .val (.int p2), .val (.int p3), .val (.int v4_1), .val (.int v5_2), .val (.int v6_4), .val (.int v7_6), .val (.long v8_7), .second, .val (.long v10_8), .second, .val (.double v12_9), .second, .val (.double v14_10), .second, .val (.double v16_11), .second, .val (.double v18_12), .second, .val (.double x_14), .second, .val (.long v22_16), .second, .val (.long v24_17), .second, .unset, .unset]) rfl z_) ?_
  show OWay p e below G T13 (mkF m 145 #[.val (.int p0), .val (.int p1), .val (.int p2), .val (.int p3), .val (.int v4_1), .val (.int v5_2), .val (.int v6_4), .val (.int v7_6), .val (.long v8_7), .second, .val (.long v10_8), .second, .val (.double v12_9), .second, .val (.double v14_10), .second, .val (.double v16_11), .second, .val (.double v18_12), .second, .val (.double x_14), .second, .val (.long v22_16), .second, .val (.long v24_17), .second, .unset, .unset] [])
  refine ogo (fun _ z_ => XS.lload X13.here hx rfl (hb hby at_145) rfl z_) ?_
  show OWay p e below G T13 (mkF m 147 #[.val (.int p0), .val (.int p1), .val (.int p2), .val (.int p3), .val (.int v4_1), .val (.int v5_2), .val (.int v6_4), .val (.int v7_6), .val (.long v8_7), .second, .val (.long v10_8), .second, .val (.double v12_9), .second, .val (.double v14_10), .second, .val (.double v16_11), .second, .val (.double v18_12), .second, .val (.double x_14), .second, .val (.long v22_16), .second, .val (.long v24_17), .second, .unset, .unset] [(.long v22_16)])
  refine ogo (fun _ z_ => XS.lload X13.here hx rfl (hb hby at_147) rfl z_) ?_
  show OWay p e below G T13 (mkF m 149 #[.val (.int p0), .val (.int p1), .val (.int p2), .val (.int p3), .val (.int v4_1), .val (.int v5_2), .val (.int v6_4), .val (.int v7_6), .val (.long v8_7), .second, .val (.long v10_8), .second, .val (.double v12_9), .second, .val (.double v14_10), .second, .val (.double v16_11), .second, .val (.double v18_12), .second, .val (.double x_14), .second, .val (.long v22_16), .second, .val (.long v24_17), .second, .unset, .unset] [(.long v24_17), (.long v22_16)])
  obtain ⟨_, T18, L18, X18, hQ18, st18⟩ := wStatic X13 hx hZ (y := (⟨"java/lang/Math", "max", "(JJ)J"⟩ : MethodName)) hown (hw _ (List.mem_of_getElem? (i := 15) rfl)) (hw _ (List.mem_of_getElem? (i := 16) rfl)) (hw _ (List.mem_of_getElem? (i := 3) rfl)) (hw _ (List.mem_of_getElem? (i := 17) rfl)) (by decide) (lmax_b_c l Z az hw [] v22_16 v24_17 h0 n0 Z0) 0 (by decide) (by decide) (g := (mkF m 149 #[.val (.int p0), .val (.int p1), .val (.int p2), .val (.int p3), .val (.int v4_1), .val (.int v5_2), .val (.int v6_4), .val (.int v7_6), .val (.long v8_7), .second, .val (.long v10_8), .second, .val (.double v12_9), .second, .val (.double v14_10), .second, .val (.double v16_11), .second, .val (.double v18_12), .second, .val (.double x_14), .second, .val (.long v22_16), .second, .val (.long v24_17), .second, .unset, .unset] [(.long v24_17), (.long v22_16)])) rfl (by rw [hml]; rfl) (argsL := [(.long v22_16), (.long v24_17)]) (rest := []) (lenOf pd__JJ_J rfl) rfl (by show 2 * 0 + _ ≤ _; exact Nat.le_of_eq rfl) (hb hby at_149) rfl eq13 (by decide) (by decide)
  obtain ⟨rfl, N18q, eq18⟩ := hQ18
  have N18 := Fr.app N13 N18q
  refine ogo st18 ?_
  show OWay p e below G T18 (mkF m 152 #[.val (.int p0), .val (.int p1), .val (.int p2), .val (.int p3), .val (.int v4_1), .val (.int v5_2), .val (.int v6_4), .val (.int v7_6), .val (.long v8_7), .second, .val (.long v10_8), .second, .val (.double v12_9), .second, .val (.double v14_10), .second, .val (.double v16_11), .second, .val (.double v18_12), .second, .val (.double x_14), .second, .val (.long v22_16), .second, .val (.long v24_17), .second, .unset, .unset] [(.long (lmax v22_16 v24_17))])
  suffices Jv26_19 : ∀ v26_19 : Int64, v26_19 = (lmax v22_16 v24_17) → OWay p e below G T18 (mkF m 152 #[.val (.int p0), .val (.int p1), .val (.int p2), .val (.int p3), .val (.int v4_1), .val (.int v5_2), .val (.int v6_4), .val (.int v7_6), .val (.long v8_7), .second, .val (.long v10_8), .second, .val (.double v12_9), .second, .val (.double v14_10), .second, .val (.double v16_11), .second, .val (.double v18_12), .second, .val (.double x_14), .second, .val (.long v22_16), .second, .val (.long v24_17), .second, .unset, .unset] [(.long v26_19)]) from Jv26_19 _ rfl
  intro v26_19 hv26_19
  refine ogo (fun _ z_ => XS.lstore X18.here hx rfl (hb hby at_152) rfl (l' := #[.val (.int p0), .val (.int p1), .val (.int p2), .val (.int p3), .val (.int v4_1), .val (.int v5_2), .val (.int v6_4), .val (.int v7_6), .val (.long v8_7), .second, .val (.long v10_8), .second, .val (.double v12_9), .second, .val (.double v14_10), .second, .val (.double v16_11), .second, .val (.double v18_12), .second, .val (.double x_14), .second, .val (.long v22_16), .second, .val (.long v24_17), .second, .val (.long v26_19), .second]) rfl z_) ?_
  show OWay p e below G T18 (mkF m 154 #[.val (.int p0), .val (.int p1), .val (.int p2), .val (.int p3), .val (.int v4_1), .val (.int v5_2), .val (.int v6_4), .val (.int v7_6), .val (.long v8_7), .second, .val (.long v10_8), .second, .val (.double v12_9), .second, .val (.double v14_10), .second, .val (.double v16_11), .second, .val (.double v18_12), .second, .val (.double x_14), .second, .val (.long v22_16), .second, .val (.long v24_17), .second, .val (.long v26_19), .second] [])
  have q22 := own_at v6_4 v8_7 v10_8 v22_16 ⟨bl.1, by omega⟩ b8 b10 hv22_16
  have q24 := own_at v7_6 v8_7 v10_8 v24_17 ⟨by omega, bl.2.2⟩ b8 b10 hv24_17
  have qb := own_best v6_4 v7_6 v8_7 v10_8 v22_16 v24_17 v26_19 bl q22 q24 hv26_19
  have qs := own_b v6_4.toInt v7_6.toInt v8_7.toInt v10_8.toInt bl.1 bl.2.1 bl.2.2 b8.1 b8.2 b10.1 b10.2
  have DY : Dy (FP.dmul x_14 (4742290407621132288 : UInt64)) (ssk v6_4.toInt v7_6.toInt v8_7.toInt v10_8.toInt) 1100 := by
    have z := dy_mul (k := 1100) DX dy_2p30 (by decide) (by omega) (by decide) (by decide)
    rw [Int.mul_one] at z
    exact z
  have DB : Dy (FP.l2d v26_19) (ssk v6_4.toInt v7_6.toInt v8_7.toInt v10_8.toInt) 1100 := by
    rw [← qb]
    exact dy_l2d _ (by omega)
  refine ogo (fun _ z_ => XS.dload X18.here hx rfl (hb hby at_154) rfl z_) ?_
  show OWay p e below G T18 (mkF m 156 #[.val (.int p0), .val (.int p1), .val (.int p2), .val (.int p3), .val (.int v4_1), .val (.int v5_2), .val (.int v6_4), .val (.int v7_6), .val (.long v8_7), .second, .val (.long v10_8), .second, .val (.double v12_9), .second, .val (.double v14_10), .second, .val (.double v16_11), .second, .val (.double v18_12), .second, .val (.double x_14), .second, .val (.long v22_16), .second, .val (.long v24_17), .second, .val (.long v26_19), .second] [(.double x_14)])
  refine ogo (fun _ z_ => X18.ldc2DoubleC hx hown (mvT hZ (hw _ (List.mem_of_getElem? (i := 18) rfl))) (g := (mkF m 156 #[.val (.int p0), .val (.int p1), .val (.int p2), .val (.int p3), .val (.int v4_1), .val (.int v5_2), .val (.int v6_4), .val (.int v7_6), .val (.long v8_7), .second, .val (.long v10_8), .second, .val (.double v12_9), .second, .val (.double v14_10), .second, .val (.double v16_11), .second, .val (.double v18_12), .second, .val (.double x_14), .second, .val (.long v22_16), .second, .val (.long v24_17), .second, .val (.long v26_19), .second] [(.double x_14)])) rfl (hb hby at_156) _ z_) ?_
  show OWay p e below G T18 (mkF m 159 #[.val (.int p0), .val (.int p1), .val (.int p2), .val (.int p3), .val (.int v4_1), .val (.int v5_2), .val (.int v6_4), .val (.int v7_6), .val (.long v8_7), .second, .val (.long v10_8), .second, .val (.double v12_9), .second, .val (.double v14_10), .second, .val (.double v16_11), .second, .val (.double v18_12), .second, .val (.double x_14), .second, .val (.long v22_16), .second, .val (.long v24_17), .second, .val (.long v26_19), .second] [(.double (4742290407621132288 : UInt64)), (.double x_14)])
  refine ogo (fun _ z_ => XS.dmulS X18.here hx rfl (hb hby at_159) rfl (dy_nn DY) rfl z_) ?_
  show OWay p e below G T18 (mkF m 160 #[.val (.int p0), .val (.int p1), .val (.int p2), .val (.int p3), .val (.int v4_1), .val (.int v5_2), .val (.int v6_4), .val (.int v7_6), .val (.long v8_7), .second, .val (.long v10_8), .second, .val (.double v12_9), .second, .val (.double v14_10), .second, .val (.double v16_11), .second, .val (.double v18_12), .second, .val (.double x_14), .second, .val (.long v22_16), .second, .val (.long v24_17), .second, .val (.long v26_19), .second] [(.double (FP.dmul x_14 (4742290407621132288 : UInt64)))])
  refine ogo (fun _ z_ => XS.lload X18.here hx rfl (hb hby at_160) rfl z_) ?_
  show OWay p e below G T18 (mkF m 162 #[.val (.int p0), .val (.int p1), .val (.int p2), .val (.int p3), .val (.int v4_1), .val (.int v5_2), .val (.int v6_4), .val (.int v7_6), .val (.long v8_7), .second, .val (.long v10_8), .second, .val (.double v12_9), .second, .val (.double v14_10), .second, .val (.double v16_11), .second, .val (.double v18_12), .second, .val (.double x_14), .second, .val (.long v22_16), .second, .val (.long v24_17), .second, .val (.long v26_19), .second] [(.long v26_19), (.double (FP.dmul x_14 (4742290407621132288 : UInt64)))])
  refine ogo (fun _ z_ => XS.l2dS X18.here hx rfl (hb hby at_162) rfl rfl z_) ?_
  show OWay p e below G T18 (mkF m 163 #[.val (.int p0), .val (.int p1), .val (.int p2), .val (.int p3), .val (.int v4_1), .val (.int v5_2), .val (.int v6_4), .val (.int v7_6), .val (.long v8_7), .second, .val (.long v10_8), .second, .val (.double v12_9), .second, .val (.double v14_10), .second, .val (.double v16_11), .second, .val (.double v18_12), .second, .val (.double x_14), .second, .val (.long v22_16), .second, .val (.long v24_17), .second, .val (.long v26_19), .second] [(.double (FP.l2d v26_19)), (.double (FP.dmul x_14 (4742290407621132288 : UInt64)))])
  refine ogo (fun _ z_ => XS.dcmpS X18.here hx rfl (hb hby at_163) rfl rfl z_) ?_
  show OWay p e below G T18 (mkF m 164 #[.val (.int p0), .val (.int p1), .val (.int p2), .val (.int p3), .val (.int v4_1), .val (.int v5_2), .val (.int v6_4), .val (.int v7_6), .val (.long v8_7), .second, .val (.long v10_8), .second, .val (.double v12_9), .second, .val (.double v14_10), .second, .val (.double v16_11), .second, .val (.double v18_12), .second, .val (.double x_14), .second, .val (.long v22_16), .second, .val (.long v24_17), .second, .val (.long v26_19), .second] [(.int (cmpValue (FP.dcmp (FP.dmul x_14 (4742290407621132288 : UInt64)) (FP.l2d v26_19)) .l))])
  refine ogo (fun _ z_ => XS.ifNo X18.here hx rfl (hb hby at_164) rfl ((if0 _ _).trans (teq (own_eq DY DB)).2) z_) ?_
  show OWay p e below G T18 (mkF m 167 #[.val (.int p0), .val (.int p1), .val (.int p2), .val (.int p3), .val (.int v4_1), .val (.int v5_2), .val (.int v6_4), .val (.int v7_6), .val (.long v8_7), .second, .val (.long v10_8), .second, .val (.double v12_9), .second, .val (.double v14_10), .second, .val (.double v16_11), .second, .val (.double v18_12), .second, .val (.double x_14), .second, .val (.long v22_16), .second, .val (.long v24_17), .second, .val (.long v26_19), .second] [])
  refine ogo (fun _ z_ => XS.iconst X18.here hx rfl (hb hby at_167) z_) ?_
  show OWay p e below G T18 (mkF m 168 #[.val (.int p0), .val (.int p1), .val (.int p2), .val (.int p3), .val (.int v4_1), .val (.int v5_2), .val (.int v6_4), .val (.int v7_6), .val (.long v8_7), .second, .val (.long v10_8), .second, .val (.double v12_9), .second, .val (.double v14_10), .second, .val (.double v16_11), .second, .val (.double v18_12), .second, .val (.double x_14), .second, .val (.long v22_16), .second, .val (.long v24_17), .second, .val (.long v26_19), .second] [(.int (1 : Int32))])
  refine ogo (fun _ z_ => XS.goto X18.here hx rfl (pc0 := 168) (pc' := 172) rfl (hb hby at_168) (by decide) (by decide) z_) ?_
  show OWay p e below G T18 (mkF m 172 #[.val (.int p0), .val (.int p1), .val (.int p2), .val (.int p3), .val (.int v4_1), .val (.int v5_2), .val (.int v6_4), .val (.int v7_6), .val (.long v8_7), .second, .val (.long v10_8), .second, .val (.double v12_9), .second, .val (.double v14_10), .second, .val (.double v16_11), .second, .val (.double v18_12), .second, .val (.double x_14), .second, .val (.long v22_16), .second, .val (.long v24_17), .second, .val (.long v26_19), .second] [(.int (1 : Int32))])
  subst hG
  refine wRetN X18 hx (t := .boolean) hret hlk (by simp) (hb hby at_172) (by decide) (by decide) eq18 ?_
  exact ⟨rfl, N18⟩
set_option maxRecDepth 65536 in
set_option maxHeartbeats 40000000 in
theorem comes_1 {Post : Tables → Env → Array Value → State → Outcome → State → Prop} (hpost : ∀ tb e args s v u, (limb_1_1.after args s (.returned v) u = true ∧ limb_1_2.after args s (.returned v) u = true ∧ True) → FrameEnd s (.returned v) u (Jvm.fieldLocs frame_1_writes args s ++ Jvm.arrayLocs frame_1_arrays args s ++ Jvm.staticLocs frame_1_statics s) 0 0 → Post tb e args s (.returned v) u) :
    ArmFor flags0 classFile x code maxLocals ret World_1 tables_1 room_1 Calls_1 rest_1 Pre_1 Post := by
  intro l hfl _ _ p e ha hc hk s m args below hf hA hF happ hP
  obtain ⟨hcalls, hrest, hpre⟩ := hP
  obtain ⟨-, -, -, hnamed, -, -, -, hat⟩ := (Spec.applies_iff hf).mp happ
  obtain ⟨hg, hn⟩ := and_e (Cond.before_iff.mp (show (Jvm.Cond.and given_1 narrow_1).before args s = true from hpre))
  obtain ⟨g1, g2⟩ := and_e hg
  obtain ⟨g3, g4⟩ := and_e g2
  obtain ⟨g5, g6⟩ := and_e g4
  obtain ⟨g7, g8⟩ := and_e g6
  obtain ⟨w0, w1, w2, w3, rfl⟩ : ∃ w0 w1 w2 w3 : Value, args = #[w0, w1, w2, w3] := by
    have hs : args.size = 4 := by simpa [Cond.value, given_1] using g1
    obtain ⟨L⟩ := args
    match L, hs with
    | [w0, w1, w2, w3], _ => exact ⟨w0, w1, w2, w3, rfl⟩
  have hw := fun d (hd : d ∈ tables_1) => atoms_spec (ws := Jvm.Cond.code x code maxLocals ret :: tables_1) hat d (List.mem_cons_of_mem _ hd)
  have hfit : Fit s := fun {y c} hc i hi => by
    obtain ⟨ha, rfl⟩ := Array.getElem?_eq_some_iff.mp hc
    have q := List.all_eq_true.mp ((Array.all_eq_true_iff_forall_mem.mp hF) _ (Array.getElem_mem ha)) i (List.mem_range.mpr hi)
    simpa [Array.getElem?_eq_getElem hi] using q
  obtain ⟨i0, ei0⟩ := is_v g3
  obtain rfl : w0 = (.int i0) := Option.some.inj ei0
  obtain ⟨i1, ei1⟩ := is_v g5
  obtain rfl : w1 = (.int i1) := Option.some.inj ei1
  obtain ⟨i2, ei2⟩ := is_v g7
  obtain rfl : w2 = (.int i2) := Option.some.inj ei2
  obtain ⟨i3, ei3⟩ := is_v g8
  obtain rfl : w3 = (.int i3) := Option.some.inj ei3
  obtain ⟨n, o, h1, h2, h3, _, L, rfl, ⟨rfl, N⟩, hq⟩ := law_c l s _ hw tables_1 i0 i1 i2 i3 s.heap s.heap.size (Nat.le_refl _) p e ha hc hk s m _ below hf ((Spec.applies_iff_loose hf).mp happ).1 ⟨rfl, State.Warmed39.refl s, rfl⟩ trivial
  refine ⟨n, _, h1, h2, h3, hpost _ _ _ _ _ _ ⟨Cond.after_iff.mpr rfl, Cond.after_iff.mpr (eq_i res_at (Term.int_eval (1)) rfl), trivial⟩ ⟨hq.1, hq.2.1, (hq.2.2.sift fun y hy => Or.inr (N y hy)).mono (by decide) (by decide)⟩⟩
theorem main_1_1 : Claimed_1_1 := comes_1 fun _ _ _ _ _ _ h hF => ⟨h.1, hF⟩
theorem main_1_2 : Claimed_1_2 := comes_1 fun _ _ _ _ _ _ h hF => ⟨h.2.1, hF⟩
end Jvm.Pilot.@@N@@
namespace Jvm.Pilot.@@N@@
open Jvm Jvm.ClassFile Sem Op Lib Jvm.Free Jvm.Stand Jvm.Pilot.@@N@@.Jvm.D
/-! MADE BY PROGRAM (witnessworld.py) out of the Statement's table words and the real class files: 10 classes; the members and pool entries that the words name. The judged class is class 1, her method 1. -/
namespace start1
open Jvm.ClassFile
def u (s : String) : CpInfo := .utf8 (stringToUtf16 s)
/-- a pool by its gaps: so many unusable entries, then the entry; so many at the end -/
def gap : Nat → List CpInfo → List CpInfo
  | 0, r => r
  | n + 1, r => .unusable :: gap n r
def poolList (es : List (Nat × CpInfo)) (last : Nat) : List CpInfo := es.foldr (fun e r => gap e.1 (e.2 :: r)) (gap last [])
def pool (es : List (Nat × CpInfo)) (last : Nat) : Array CpInfo := ⟨poolList es last⟩
def fileOf (pool : Array CpInfo) (this : Nat) (attrs : Array Attribute := #[]) (ms : Array MethodInfo := #[]) (fl : Nat := 33) (sup : Nat := 0) (ifs : Array Nat := #[]) (fds : Array FieldInfo := #[]) : ClassFile where
  minorVersion := 0
  majorVersion := 65
  constantPool := pool
  accessFlags := fl
  thisClass := this
  superClass := sup
  interfaces := ifs
  fields := fds
  methods := ms
  attributes := attrs
def plain (name : String) (sup : Option ClassId) : Class where
  name := name
  kind := .ordinary
  loader := none
  accessFlags := 33
  super := sup
  interfaces := #[]
  cf := none
  fields := #[]
  methods := #[]
  instanceTypes := #[]
  staticTypes := #[]
  resolved := #[]
  callSites := []
  init := .initialized
  statics := none
  mirror := none

def pool0 : Array CpInfo := pool [(5, u "<init>"), (0, u "()V"), (1, .class_ 10), (1, u "java/lang/Object")] 113

def k0m0 : Method := { name := "<init>", desc := "()V", sig := { parameters := [], returnType := none }, accessFlags := 1, code := none }
/-- java/lang/Object -/
def k0 : Class := { plain "java/lang/Object" none with
  accessFlags := 33
  interfaces := #[]
  cf := some (fileOf pool0 8 #[] #[{ accessFlags := 1, nameIndex := 5, descriptorIndex := 6, attributes := #[] }] 33 0 #[] #[])
  fields := #[]
  methods := #[k0m0]
  instanceTypes := #[]
  staticTypes := #[]
  resolved := Array.replicate 124 none
  statics := none }

def pool1 : Array CpInfo := pool [(2, .class_ 4), (1, u "java/lang/Object"), (0, u "<init>"), (0, u "()V"), (0, .integer 2147483647), (0, .methodref 9 10), (0, .class_ 11), (0, .nameAndType 12 13), (0, u "java/lang/Math"), (0, u "min"), (0, u "(II)I"), (0, .methodref 9 15), (0, .nameAndType 16 13), (0, u "max"), (0, .integer 1048577), (0, .double 4652218415073722368), (1, .double 4697254411347427328), (1, .methodref 23 24), (0, .class_ 25), (0, .nameAndType 26 27), (0, u "com/example/geotide/geotide/Scorer"), (0, u "sskBoundInDoubles"), (0, u "(DDDD)D"), (0, .methodref 9 29), (0, .nameAndType 16 30), (0, u "(JJ)J"), (0, .double 4742290407621132288), (1, .class_ 34), (0, u "com/example/geotide/geotide/ScorerSskBoundInDoublesPinLaw"), (2, u "law"), (0, u "(IIII)Z")] 3

def k1m0 : Method := { name := "<init>", desc := "()V", sig := { parameters := [], returnType := none }, accessFlags := 1, code := none }
def k1c1 : Code := { maxStack := 8, maxLocals := 28, code := code, exceptionTable := #[], attributes := #[] }
def k1m1 : Method := { name := "law", desc := "(IIII)Z", sig := { parameters := [.int, .int, .int, .int], returnType := some .boolean }, accessFlags := 9, code := some k1c1 }
/-- com/example/geotide/geotide/ScorerSskBoundInDoublesPinLaw -/
def k1 : Class := { plain "com/example/geotide/geotide/ScorerSskBoundInDoublesPinLaw" (some 0) with
  accessFlags := 49
  interfaces := #[]
  cf := some (fileOf pool1 33 #[] #[{ accessFlags := 1, nameIndex := 5, descriptorIndex := 6, attributes := #[] }, { accessFlags := 9, nameIndex := 37, descriptorIndex := 38, attributes := #[] }] 49 2 #[] #[])
  fields := #[]
  methods := #[k1m0, k1m1]
  instanceTypes := #[]
  staticTypes := #[]
  resolved := Array.replicate 42 none
  statics := none }

def pool2 : Array CpInfo := pool [(1, .class_ 2), (0, u "java/lang/Math"), (1, .class_ 6), (1, u "java/lang/Object"), (0, u "<init>"), (0, u "()V"), (89, .class_ 100), (1, u "java/lang/Math$RandomNumberGeneratorHolder"), (20, u "(JJ)J"), (50, u "negativeZeroFloatBits"), (0, u "J"), (2, u "negativeZeroDoubleBits"), (21, u "max"), (2, u "min"), (43, u "$assertionsDisabled"), (0, u "Z"), (88, u "(II)I"), (2, u "twoToTheDoubleScaleDown"), (0, u "D"), (4, u "twoToTheDoubleScaleUp"), (9, u "E"), (3, u "PI"), (2, u "TAU"), (2, u "DEGREES_TO_RADIANS"), (0, u "RADIANS_TO_DEGREES")] 94

def k2m0 : Method := { name := "<init>", desc := "()V", sig := { parameters := [], returnType := none }, accessFlags := 2, code := none }
def k2c1 : Code := { maxStack := 2, maxLocals := 2, code := jdk_29_method_65_code, exceptionTable := #[], attributes := #[] }
def k2m1 : Method := { name := "max", desc := "(II)I", sig := { parameters := [.int, .int], returnType := some .int }, accessFlags := 9, code := some k2c1 }
def k2c2 : Code := { maxStack := 4, maxLocals := 4, code := jdk_29_method_66_code, exceptionTable := #[], attributes := #[] }
def k2m2 : Method := { name := "max", desc := "(JJ)J", sig := { parameters := [.long, .long], returnType := some .long }, accessFlags := 9, code := some k2c2 }
def k2c3 : Code := { maxStack := 2, maxLocals := 2, code := jdk_29_method_69_code, exceptionTable := #[], attributes := #[] }
def k2m3 : Method := { name := "min", desc := "(II)I", sig := { parameters := [.int, .int], returnType := some .int }, accessFlags := 9, code := some k2c3 }
/-- java/lang/Math -/
def k2 : Class := { plain "java/lang/Math" (some 0) with
  accessFlags := 49
  interfaces := #[]
  cf := some (fileOf pool2 1 #[.nestMembers #[98]] #[{ accessFlags := 2, nameIndex := 7, descriptorIndex := 8, attributes := #[] }, { accessFlags := 9, nameIndex := 198, descriptorIndex := 335, attributes := #[] }, { accessFlags := 9, nameIndex := 198, descriptorIndex := 121, attributes := #[] }, { accessFlags := 9, nameIndex := 201, descriptorIndex := 335, attributes := #[] }] 49 4 #[] #[{ accessFlags := 25, nameIndex := 354, descriptorIndex := 339, attributes := #[] }, { accessFlags := 25, nameIndex := 358, descriptorIndex := 339, attributes := #[] }, { accessFlags := 25, nameIndex := 361, descriptorIndex := 339, attributes := #[] }, { accessFlags := 26, nameIndex := 364, descriptorIndex := 339, attributes := #[] }, { accessFlags := 26, nameIndex := 365, descriptorIndex := 339, attributes := #[] }, { accessFlags := 26, nameIndex := 172, descriptorIndex := 173, attributes := #[] }, { accessFlags := 26, nameIndex := 176, descriptorIndex := 173, attributes := #[] }, { accessFlags := 8, nameIndex := 344, descriptorIndex := 339, attributes := #[] }, { accessFlags := 8, nameIndex := 338, descriptorIndex := 339, attributes := #[] }, { accessFlags := 4120, nameIndex := 245, descriptorIndex := 246, attributes := #[] }])
  fields := #[{ name := "E", type := .double, accessFlags := 25, slot := 0, constantValue := 0 }, { name := "PI", type := .double, accessFlags := 25, slot := 1, constantValue := 0 }, { name := "TAU", type := .double, accessFlags := 25, slot := 2, constantValue := 0 }, { name := "DEGREES_TO_RADIANS", type := .double, accessFlags := 26, slot := 3, constantValue := 0 }, { name := "RADIANS_TO_DEGREES", type := .double, accessFlags := 26, slot := 4, constantValue := 0 }, { name := "negativeZeroFloatBits", type := .long, accessFlags := 26, slot := 5, constantValue := 0 }, { name := "negativeZeroDoubleBits", type := .long, accessFlags := 26, slot := 6, constantValue := 0 }, { name := "twoToTheDoubleScaleUp", type := .double, accessFlags := 8, slot := 7, constantValue := 0 }, { name := "twoToTheDoubleScaleDown", type := .double, accessFlags := 8, slot := 8, constantValue := 0 }, { name := "$assertionsDisabled", type := .boolean, accessFlags := 4120, slot := 9, constantValue := 0 }]
  methods := #[k2m0, k2m1, k2m2, k2m3]
  instanceTypes := #[]
  staticTypes := #[.double, .double, .double, .double, .double, .long, .long, .double, .double, .boolean]
  resolved := Array.replicate 460 none
  statics := none }

def pool3 : Array CpInfo := pool [(2, .class_ 4), (1, u "java/lang/Object"), (6, .class_ 13), (1, u "com/example/geotide/geotide/Scorer"), (0, u "collectionCounts"), (0, u "Ljava/util/Map;"), (0, .class_ 17), (0, u "com/example/geotide/geotide/Scorer$LatestPost"), (3, u "latest"), (0, u "Lcom/example/geotide/geotide/Scorer$LatestPost;"), (2, u "halfLifeSeconds"), (0, u "D"), (7, u "exactHalfLife"), (0, u "Ljava/math/BigDecimal;"), (2, u "maxDistanceMetres"), (2, u "perMaxDistance"), (2, u "smoothing"), (20, u "postsCounted"), (0, u "J"), (43, .class_ 111), (0, u "com/example/geotide/geotide/Scorer$WordCounts"), (15, u "largestCollectionCount"), (8, u "countsKept"), (5, u "collectionLength"), (16, u "pairsScored"), (183, u "origin"), (0, u "Ljava/time/Instant;"), (79, u "DEFAULT_HALF_LIFE_SECONDS"), (3, u "DEFAULT_MAX_DISTANCE_METRES"), (2, u "DEFAULT_SMOOTHING"), (2, u "KEY_TOLERANCE"), (22, u "sskBoundInDoubles"), (0, u "(DDDD)D")] 54

def k3c0 : Code := { maxStack := 6, maxLocals := 10, code := prog_69_method_20_code, exceptionTable := #[], attributes := #[] }
def k3m0 : Method := { name := "sskBoundInDoubles", desc := "(DDDD)D", sig := { parameters := [.double, .double, .double, .double], returnType := some .double }, accessFlags := 8, code := some k3c0 }
/-- com/example/geotide/geotide/Scorer -/
def k3 : Class := { plain "com/example/geotide/geotide/Scorer" (some 0) with
  accessFlags := 49
  interfaces := #[]
  cf := some (fileOf pool3 11 #[.nestMembers #[110, 16]] #[{ accessFlags := 8, nameIndex := 457, descriptorIndex := 458, attributes := #[] }] 49 2 #[] #[{ accessFlags := 25, nameIndex := 424, descriptorIndex := 26, attributes := #[] }, { accessFlags := 24, nameIndex := 428, descriptorIndex := 26, attributes := #[] }, { accessFlags := 25, nameIndex := 431, descriptorIndex := 26, attributes := #[] }, { accessFlags := 26, nameIndex := 434, descriptorIndex := 26, attributes := #[] }, { accessFlags := 18, nameIndex := 25, descriptorIndex := 26, attributes := #[] }, { accessFlags := 18, nameIndex := 34, descriptorIndex := 35, attributes := #[] }, { accessFlags := 18, nameIndex := 38, descriptorIndex := 26, attributes := #[] }, { accessFlags := 18, nameIndex := 41, descriptorIndex := 26, attributes := #[] }, { accessFlags := 18, nameIndex := 44, descriptorIndex := 26, attributes := #[] }, { accessFlags := 18, nameIndex := 14, descriptorIndex := 15, attributes := #[] }, { accessFlags := 2, nameIndex := 142, descriptorIndex := 66, attributes := #[] }, { accessFlags := 2, nameIndex := 65, descriptorIndex := 66, attributes := #[] }, { accessFlags := 2, nameIndex := 127, descriptorIndex := 66, attributes := #[] }, { accessFlags := 2, nameIndex := 136, descriptorIndex := 66, attributes := #[] }, { accessFlags := 2, nameIndex := 159, descriptorIndex := 66, attributes := #[] }, { accessFlags := 2, nameIndex := 343, descriptorIndex := 344, attributes := #[] }, { accessFlags := 18, nameIndex := 21, descriptorIndex := 22, attributes := #[] }])
  fields := #[{ name := "DEFAULT_HALF_LIFE_SECONDS", type := .double, accessFlags := 25, slot := 0, constantValue := 0 }, { name := "DEFAULT_MAX_DISTANCE_METRES", type := .double, accessFlags := 24, slot := 1, constantValue := 0 }, { name := "DEFAULT_SMOOTHING", type := .double, accessFlags := 25, slot := 2, constantValue := 0 }, { name := "KEY_TOLERANCE", type := .double, accessFlags := 26, slot := 3, constantValue := 0 }, { name := "halfLifeSeconds", type := .double, accessFlags := 18, slot := 0, constantValue := 0 }, { name := "exactHalfLife", type := (.object "java/math/BigDecimal"), accessFlags := 18, slot := 1, constantValue := 0 }, { name := "maxDistanceMetres", type := .double, accessFlags := 18, slot := 2, constantValue := 0 }, { name := "perMaxDistance", type := .double, accessFlags := 18, slot := 3, constantValue := 0 }, { name := "smoothing", type := .double, accessFlags := 18, slot := 4, constantValue := 0 }, { name := "collectionCounts", type := (.object "java/util/Map"), accessFlags := 18, slot := 5, constantValue := 0 }, { name := "collectionLength", type := .long, accessFlags := 2, slot := 6, constantValue := 0 }, { name := "postsCounted", type := .long, accessFlags := 2, slot := 7, constantValue := 0 }, { name := "largestCollectionCount", type := .long, accessFlags := 2, slot := 8, constantValue := 0 }, { name := "countsKept", type := .long, accessFlags := 2, slot := 9, constantValue := 0 }, { name := "pairsScored", type := .long, accessFlags := 2, slot := 10, constantValue := 0 }, { name := "origin", type := (.object "java/time/Instant"), accessFlags := 2, slot := 11, constantValue := 0 }, { name := "latest", type := (.object "com/example/geotide/geotide/Scorer$LatestPost"), accessFlags := 18, slot := 12, constantValue := 0 }]
  methods := #[k3m0]
  instanceTypes := #[.double, (.object "java/math/BigDecimal"), .double, .double, .double, (.object "java/util/Map"), .long, .long, .long, .long, .long, (.object "java/time/Instant"), (.object "com/example/geotide/geotide/Scorer$LatestPost")]
  staticTypes := #[.double, .double, .double, .double]
  resolved := Array.replicate 513 none
  statics := none }

def pool4 : Array CpInfo := pool [(1, u "java/lang/Cloneable"), (0, .class_ 1), (0, u "java/lang/Object"), (0, .class_ 3)] 3

/-- java/lang/Cloneable -/
def k4 : Class := { plain "java/lang/Cloneable" (some 0) with
  accessFlags := 1537
  interfaces := #[]
  cf := some (fileOf pool4 2 #[] #[] 1537 4 #[] #[])
  fields := #[]
  methods := #[]
  instanceTypes := #[]
  staticTypes := #[]
  resolved := Array.replicate 8 none
  statics := none }

def pool5 : Array CpInfo := pool [(1, u "java/io/Serializable"), (0, .class_ 1), (0, u "java/lang/Object"), (0, .class_ 3)] 3

/-- java/io/Serializable -/
def k5 : Class := { plain "java/io/Serializable" (some 0) with
  accessFlags := 1537
  interfaces := #[]
  cf := some (fileOf pool5 2 #[] #[] 1537 4 #[] #[])
  fields := #[]
  methods := #[]
  instanceTypes := #[]
  staticTypes := #[]
  resolved := Array.replicate 8 none
  statics := none }

/-- the primitive byte -/
def k6 : Class := { plain "byte" none with kind := .primitive 'B', accessFlags := 0x411 }
/-- [B -/
def k7 : Class := { plain "[B" (some 0) with kind := .array 6 .byte, interfaces := #[4, 5], accessFlags := 1041 }

/-- the primitive int -/
def k8 : Class := { plain "int" none with kind := .primitive 'I', accessFlags := 0x411 }
/-- [I -/
def k9 : Class := { plain "[I" (some 0) with kind := .array 8 .int, interfaces := #[4, 5], accessFlags := 1041 }

def heap : Heap := #[]
def classes : Array Class := #[k0, k1, k2, k3, k4, k5, k6, k7, k8, k9]
def interned : List (Array UInt16 × Addr) := []
def slotsUsed : Nat := 0
def theMethod : MethodId := ⟨1, 1⟩
def args0 : Array Value := #[.int 3, .int 4, .int 5, .int 6]
def aboutOver (below : List Frame) : State where
  vm := { classes := classes, interned := interned.toArray }
  heap := heap
  slotsUsed := slotsUsed
  threads := #[{ frames := .invoking theMethod args0 :: below }]
def below0 : List Frame := [.native { method := ⟨0, 0⟩, args := #[] }]
def about1 : State := aboutOver below0
def p0 : Program := .bare "" "" ""
def e0 : Env := launch0.env 0 0 0
theorem w_frames : about1.frames = Frame.invoking theMethod args0 :: below0 := rfl
set_option maxRecDepth 65536 in
theorem w_args : argsFit about1.vm theMethod args0 = true := by decide +kernel
set_option maxRecDepth 65536 in
theorem w_heap : heapFits about1 = true := by decide +kernel
set_option maxRecDepth 65536 in
theorem w_runnable : about1.curStatus? = some .runnable := by decide +kernel
set_option maxRecDepth 65536 in
theorem w_alone : about1.alone = true := by decide +kernel
set_option maxRecDepth 65536 in
theorem w_named : about1.methodNamed? x = some theMethod := by decide +kernel
set_option maxRecDepth 65536 in
theorem w_hears : about1.hears theMethod below0 = true := by decide +kernel
set_option maxRecDepth 65536 in
theorem w_ripe : about1.ripe theMethod args0 below0 = true := by decide +kernel
theorem w_running : about1.status = .running := rfl
set_option maxRecDepth 65536 in
theorem w_room : about1.hasRoom e0.platform room_1 = true :=
  launch0.hasRoom_least _ room_1 (by decide +kernel) (by decide +kernel) (by decide +kernel) (by decide +kernel) (by decide +kernel) (by decide +kernel)
theorem allAtoms_all (ts : List Jvm.Cond) (a : Array Jvm.Value) (st : Jvm.State) : (allAtoms ts).before a st = ts.all (fun c => c.before a st) := by
  induction ts with
  | nil => rfl
  | cons c t ih =>
    show (Jvm.Cond.and c (allAtoms t)).before a st = _
    rw [Jvm.Cond.before_and, ih, List.all_cons]
def words1 : List Jvm.Cond := Jvm.Cond.code x code maxLocals ret :: tables_1
/-- a 'code' word, met by the world's own term for the bytes: nothing is compared byte by byte -/
theorem code_word {y : MethodName} {bytes : ByteArray} {mx : Nat} {rt : Option FieldType} {a : Array Value} {s : State} {m : MethodId} {meth : Method} {c : Code} (h1 : s.methodNamed? y = some m) (h2 : s.vm.method? m = some meth) (h3 : meth.code = some c) (h4 : c.code = bytes)
    (h5 : (c.maxLocals == mx && c.exceptionTable.isEmpty && decide (c.maxStack ≤ mostOperands) && decide (meth.sig.returnType = rt) && !meth.locks && decide (parseMethodDescriptor y.desc = some meth.sig)) = true) : (Jvm.Cond.code y bytes mx rt).before a s = true := by
  simp only [Bool.and_eq_true, beq_iff_eq, Bool.not_eq_true', decide_eq_true_eq] at h5
  obtain ⟨⟨⟨⟨⟨g1, g2⟩, g3⟩, g4⟩, g5⟩, g6⟩ := h5
  simp [Cond.before, Cond.holds, Cond.value, h1, h2, h3, h4, g1, g2, g3, g4, g5, g6]
def isCode : Jvm.Cond → Bool
  | .code _ _ _ _ => true
  | _ => false
theorem all_split {L : List Jvm.Cond} {P : Jvm.Cond → Bool} (h1 : L.all (fun c => isCode c || P c) = true) (h2 : ∀ c ∈ L.filter isCode, P c = true) : L.all P = true := by
  refine List.all_eq_true.mpr fun c hc => ?_
  have h := List.all_eq_true.mp h1 c hc
  rcases Bool.eq_false_or_eq_true (isCode c) with hi | hi
  · exact h2 c (List.mem_filter.mpr ⟨hc, hi⟩)
  · simpa [hi] using h
set_option maxRecDepth 65536 in
theorem w_c0 : (Jvm.Cond.code x code maxLocals ret).before args0 about1 = true := code_word (m := ⟨1, 1⟩) (meth := k1m1) (c := k1c1) (by decide +kernel) rfl rfl rfl (by decide +kernel)
set_option maxRecDepth 65536 in
theorem w_c1 : (Jvm.Cond.code ({ cls := "java/lang/Math", name := "min", desc := "(II)I" } : Jvm.MethodName) jdk_29_method_69_code (2 : Nat) (Option.some Jvm.ClassFile.FieldType.int)).before args0 about1 = true := code_word (m := ⟨2, 3⟩) (meth := k2m3) (c := k2c3) (by decide +kernel) rfl rfl rfl (by decide +kernel)
set_option maxRecDepth 65536 in
theorem w_c2 : (Jvm.Cond.code ({ cls := "java/lang/Math", name := "max", desc := "(II)I" } : Jvm.MethodName) jdk_29_method_65_code (2 : Nat) (Option.some Jvm.ClassFile.FieldType.int)).before args0 about1 = true := code_word (m := ⟨2, 1⟩) (meth := k2m1) (c := k2c1) (by decide +kernel) rfl rfl rfl (by decide +kernel)
set_option maxRecDepth 65536 in
theorem w_c3 : (Jvm.Cond.code ({ cls := "com/example/geotide/geotide/Scorer", name := "sskBoundInDoubles", desc := "(DDDD)D" } : Jvm.MethodName) prog_69_method_20_code (10 : Nat) (Option.some Jvm.ClassFile.FieldType.double)).before args0 about1 = true := code_word (m := ⟨3, 0⟩) (meth := k3m0) (c := k3c0) (by decide +kernel) rfl rfl rfl (by decide +kernel)
set_option maxRecDepth 65536 in
theorem w_c4 : (Jvm.Cond.code ({ cls := "java/lang/Math", name := "max", desc := "(JJ)J" } : Jvm.MethodName) jdk_29_method_66_code (4 : Nat) (Option.some Jvm.ClassFile.FieldType.long)).before args0 about1 = true := code_word (m := ⟨2, 2⟩) (meth := k2m2) (c := k2c2) (by decide +kernel) rfl rfl rfl (by decide +kernel)
def codes1 : List Jvm.Cond := [Jvm.Cond.code x code maxLocals ret, Jvm.Cond.code ({ cls := "java/lang/Math", name := "min", desc := "(II)I" } : Jvm.MethodName) jdk_29_method_69_code (2 : Nat) (Option.some Jvm.ClassFile.FieldType.int), Jvm.Cond.code ({ cls := "java/lang/Math", name := "max", desc := "(II)I" } : Jvm.MethodName) jdk_29_method_65_code (2 : Nat) (Option.some Jvm.ClassFile.FieldType.int), Jvm.Cond.code ({ cls := "com/example/geotide/geotide/Scorer", name := "sskBoundInDoubles", desc := "(DDDD)D" } : Jvm.MethodName) prog_69_method_20_code (10 : Nat) (Option.some Jvm.ClassFile.FieldType.double), Jvm.Cond.code ({ cls := "java/lang/Math", name := "max", desc := "(JJ)J" } : Jvm.MethodName) jdk_29_method_66_code (4 : Nat) (Option.some Jvm.ClassFile.FieldType.long)]
set_option maxRecDepth 65536 in
theorem codes_eq : words1.filter isCode = codes1 := rfl
theorem w_codes : ∀ c ∈ words1.filter isCode, c.before args0 about1 = true := by
  rw [codes_eq]
  intro c hc
  simp only [codes1, List.mem_cons, List.not_mem_nil, or_false] at hc
  rcases hc with rfl | rfl | rfl | rfl | rfl
  · exact w_c0
  · exact w_c1
  · exact w_c2
  · exact w_c3
  · exact w_c4
set_option maxRecDepth 65536 in
theorem w_t1 : words1.all (fun c => isCode c || c.before args0 about1) = true := by decide +kernel
theorem w_tables : (allAtoms (Jvm.Cond.code x code maxLocals ret :: tables_1)).before args0 about1 = true := by
  rw [allAtoms_all]
  show words1.all (fun c => c.before args0 about1) = true
  refine all_split ?_ w_codes
  rw [w_t1]
set_option maxRecDepth 65536 in
theorem w_case : (Jvm.Cond.and given_1 narrow_1).before args0 about1 = true := by decide +kernel
theorem w_applies : (headSpec (Jvm.Cond.code x code maxLocals ret :: tables_1) room_1).applies x e0.platform about1 = true :=
  (Spec.applies_iff w_frames).mpr ⟨w_running, w_runnable, w_alone, w_named, w_hears, w_ripe, w_room, w_tables⟩
theorem atStart : AtStart classFile x code maxLocals ret World_1 tables_1 room_1 Calls_1 rest_1 Pre_1 launch0 p0 e0 about1 theMethod args0 below0 :=
  ⟨lists_1, trivial, launch0.admits_env _ _ _, launch0.least_env, fairChoices_fair.cas, fairChoices_fair.clock, w_frames, w_args, w_heap, w_applies, trivial, trivial, w_case⟩
end start1
theorem witness_1 : WitnessClaimed_1 := ⟨start1.p0, start1.e0, start1.about1, start1.theMethod, start1.args0, start1.below0, start1.atStart⟩
end Jvm.Pilot.@@N@@
