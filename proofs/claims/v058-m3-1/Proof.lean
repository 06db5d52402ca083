import JvmDerived
import JvmDerived.Pilot.@@N@@Statement
import JvmDerived.Pilot.@@N@@Code
set_option linter.unusedVariables false
set_option linter.unusedSimpArgs false
namespace Jvm.Pilot.@@N@@
section Dyad
open Jvm.FP.Core
/-- the double x is the number m * 2 ^ (b - 1100) -/
def Dy (x : UInt64) (m : Int) (b : Nat) : Prop := ∃ (s : Bool) (c a : Nat), val64 x = .fin s c ((a : Int) - 1100) ∧ signed s c * (2 ^ a : Nat) = m * (2 ^ b : Nat)
theorem dy_sg (s : Bool) (c : Nat) (h : 0 < c) (m : Int) (x y : Nat) (hx : 0 < x) (hy : 0 < y) (e : signed s c * (x : Int) = m * (y : Int)) : signed s m.natAbs = m := by
  cases s
  · have p : 0 < (c : Int) * x := Int.mul_pos (by omega) (by omega)
    have q : 0 < m * (y : Int) := by rw [← e]; exact p
    have r : 0 < m := Int.pos_of_mul_pos_left q (by omega)
    simp only [signed, Bool.false_eq_true, if_false]
    omega
  · have p : -(c : Int) * x < 0 := by rw [Int.neg_mul]; have := Int.mul_pos (a := (c : Int)) (b := (x : Int)) (by omega) (by omega); omega
    have q : m * (y : Int) < 0 := by rw [← e]; exact p
    have r : m < 0 := by
      apply Classical.byContradiction
      intro n
      have := Int.mul_nonneg (a := m) (b := (y : Int)) (by omega) (by omega)
      omega
    simp only [signed, if_true]
    omega
theorem dy_round (s : Bool) (c A B M b : Nat) (m : Int) (e : signed s c * (2 ^ A : Nat) = m * (2 ^ B : Nat)) (hm : m.natAbs < 2 ^ 53) (hb : (B : Int) - M = b - 1100) (b1 : 78 ≤ b) (b2 : b ≤ 2000) :
    ∃ (s' : Bool) (c' a' : Nat), round b64 (.fin s c ((A : Int) - M)) = .fin s' c' ((a' : Int) - 1100) ∧ signed s' c' * (2 ^ a' : Nat) = m * (2 ^ b : Nat) := by
  by_cases hc : c = 0
  · subst hc
    have m0 : m = 0 := by
      rw [signed_zero, Int.zero_mul] at e
      have := Int.mul_eq_zero.mp e.symm
      have : 0 < 2 ^ B := Nat.two_pow_pos B
      omega
    refine ⟨s, 0, 26, ?_, ?_⟩
    · rfl
    · rw [signed_zero, m0, Int.zero_mul, Int.zero_mul]
  · have sg := dy_sg s c (by omega) m _ _ (Nat.two_pow_pos A) (Nat.two_pow_pos B) e
    have e1 : c * 2 ^ A = m.natAbs * 2 ^ B := by
      have := congrArg Int.natAbs e
      rw [Int.natAbs_mul, Int.natAbs_mul, natAbs_signed] at this
      simpa using this
    generalize hn : m.natAbs = n at *
    have n0 : n ≠ 0 := by
      intro q
      rw [q, Nat.zero_mul] at e1
      have := Nat.mul_pos (Nat.pos_of_ne_zero hc) (Nat.two_pow_pos A)
      omega
    have l1 : n.log2 ≤ 52 := by
      have := (Nat.log2_lt n0).mpr hm
      omega
    have l2 : 2 ^ n.log2 ≤ n := Nat.log2_self_le n0
    have l3 : n < 2 ^ (n.log2 + 1) := Nat.lt_log2_self
    generalize hj : 52 - n.log2 = j at *
    have j1 : n.log2 + j = 52 := by omega
    have f1 : 2 ^ 52 ≤ n * 2 ^ j := by
      rw [← j1, Nat.pow_add]
      exact Nat.mul_le_mul_right _ l2
    have f2 : n * 2 ^ j < 2 ^ 53 := by
      have : 2 ^ 53 = 2 ^ (n.log2 + 1) * 2 ^ j := by rw [← Nat.pow_add]; congr 1; omega
      rw [this]
      exact Nat.mul_lt_mul_of_pos_right l3 (Nat.two_pow_pos j)
    refine ⟨s, n * 2 ^ j, b - j, ?_, ?_⟩
    · refine roundRatio_exact good_b64 (by decide) ⟨f2, ?_, ?_, Or.inr f1⟩ ?_
      · show (-1074 : Int) ≤ _
        omega
      · show _ ≤ (971 : Int)
        omega
      · rw [Nat.mul_one]
        by_cases g : B ≤ A + j
        · have k1 : ((A : Int) - M - (((b - j : Nat) : Int) - 1100)).toNat = A + j - B := by omega
          have k2 : ((((b - j : Nat) : Int) - 1100) - ((A : Int) - M)).toNat = 0 := by omega
          rw [k1, k2, Nat.pow_zero, Nat.mul_one]
          apply Nat.eq_of_mul_eq_mul_right (Nat.two_pow_pos B)
          rw [Nat.mul_assoc, ← Nat.pow_add, show A + j - B + B = A + j by omega, Nat.pow_add, ← Nat.mul_assoc, e1, Nat.mul_assoc, Nat.mul_comm (2 ^ B), ← Nat.mul_assoc]
        · have k1 : ((A : Int) - M - (((b - j : Nat) : Int) - 1100)).toNat = 0 := by omega
          have k2 : ((((b - j : Nat) : Int) - 1100) - ((A : Int) - M)).toNat = B - (A + j) := by omega
          rw [k1, k2, Nat.pow_zero, Nat.mul_one]
          apply Nat.eq_of_mul_eq_mul_right (Nat.two_pow_pos A)
          rw [e1, Nat.mul_assoc, Nat.mul_assoc, ← Nat.pow_add, ← Nat.pow_add]
          congr 2
          omega
    · rw [signed_mul, sg, Int.mul_assoc, show ((2 ^ j : Nat) : Int) * ((2 ^ (b - j) : Nat) : Int) = ((2 ^ b : Nat) : Int) by rw [← Int.natCast_mul, ← Nat.pow_add]; congr 2; omega]
theorem dy_int (n : Int) (x : UInt64) (h : val64 x = round b64 (ofInt n)) (hn : n.natAbs < 2 ^ 53) : Dy x n 1100 := by
  have sg : signed (decide (n < 0)) n.natAbs = n := by
    by_cases q : n < 0
    · simp only [signed, q, decide_true, if_true]; omega
    · simp only [signed, q, decide_false, Bool.false_eq_true, if_false]; omega
  obtain ⟨s, c, a, h1, h2⟩ := dy_round (decide (n < 0)) n.natAbs 1100 1100 1100 1100 n (by rw [sg]) hn rfl (by decide) (by decide)
  exact ⟨s, c, a, by rw [h]; exact h1, h2⟩
theorem dy_i2d (v : Int32) : Dy (i2d v) v.toInt 1100 := dy_int _ _ (val64_i2d v) (by have := v.le_toInt; have := v.toInt_lt; omega)
theorem dy_l2d (v : Int64) (h : v.toInt.natAbs < 2 ^ 53) : Dy (l2d v) v.toInt 1100 := dy_int _ _ (val64_l2d v) h
theorem dy_mul {x y : UInt64} {m n : Int} {b d k : Nat} (hx : Dy x m b) (hy : Dy y n d) (hk : b + d = k + 1100) (h : (m * n).natAbs < 2 ^ 53) (k1 : 78 ≤ k) (k2 : k ≤ 2000) : Dy (dmul x y) (m * n) k := by
  obtain ⟨s, c, a, h1, h2⟩ := hx
  obtain ⟨t, c', a', g1, g2⟩ := hy
  have e : exactProduct (val64 x) (val64 y) = .fin (s != t) (c * c') (((a + a' : Nat) : Int) - (2200 : Nat)) := by
    rw [h1, g1]
    simp only [exactProduct]
    congr 1
    omega
  have sm : signed (s != t) (c * c') = signed s c * signed t c' := by
    cases s <;> cases t <;> simp [signed, Int.neg_mul, Int.mul_neg]
  obtain ⟨s', c2, a2, r1, r2⟩ := dy_round (s != t) (c * c') (a + a') (b + d) 2200 k (m * n) (by
    rw [sm, Nat.pow_add, Nat.pow_add, Int.natCast_mul, Int.natCast_mul]
    calc signed s c * signed t c' * (((2 ^ a : Nat) : Int) * ((2 ^ a' : Nat) : Int)) = (signed s c * ((2 ^ a : Nat) : Int)) * (signed t c' * ((2 ^ a' : Nat) : Int)) := by ac_rfl
      _ = (m * ((2 ^ b : Nat) : Int)) * (n * ((2 ^ d : Nat) : Int)) := by rw [h2, g2]
      _ = m * n * (((2 ^ b : Nat) : Int) * ((2 ^ d : Nat) : Int)) := by ac_rfl) h (by omega) k1 k2
  exact ⟨s', c2, a2, by rw [val64_dmul, e]; exact r1, r2⟩
theorem dy_add {x y : UInt64} {m n : Int} {b : Nat} (hx : Dy x m b) (hy : Dy y n b) (h : (m + n).natAbs < 2 ^ 53) (k1 : 78 ≤ b) (k2 : b ≤ 2000) : Dy (dadd x y) (m + n) b := by
  obtain ⟨s, c, a, h1, h2⟩ := hx
  obtain ⟨t, c', a', g1, g2⟩ := hy
  have sgn : ∀ (v : Int) (z : Bool), (v = 0 → True) → signed (sumSign s t v) v.natAbs = v := by
    intro v z _
    unfold sumSign
    by_cases q : v = 0
    · rw [q]; simp [signed]
    · rw [if_neg q]
      by_cases r : v < 0
      · simp only [signed, r, decide_true, if_true]; omega
      · simp only [signed, r, decide_false, Bool.false_eq_true, if_false]; omega
  generalize hmn : min a a' = w at *
  have wa : w ≤ a := by omega
  have wa' : w ≤ a' := by omega
  have hq : min ((a : Int) - 1100) ((a' : Int) - 1100) = (w : Int) - (1100 : Nat) := by omega
  have hu : sumUnits s c ((a : Int) - 1100) t c' ((a' : Int) - 1100) ((w : Int) - (1100 : Nat)) * ((2 ^ w : Nat) : Int) = (m + n) * ((2 ^ b : Nat) : Int) := by
    unfold sumUnits inUnits
    rw [show ((a : Int) - 1100 - ((w : Int) - (1100 : Nat))).toNat = a - w by omega, show ((a' : Int) - 1100 - ((w : Int) - (1100 : Nat))).toNat = a' - w by omega, signed_mul, signed_mul, Int.add_mul, Int.mul_assoc, Int.mul_assoc, ← Int.natCast_mul, ← Int.natCast_mul, ← Nat.pow_add, ← Nat.pow_add, show a - w + w = a by omega, show a' - w + w = a' by omega, h2, g2, Int.add_mul]
  have e : exactSum (val64 x) (val64 y) = .fin (sumSign s t (sumUnits s c ((a : Int) - 1100) t c' ((a' : Int) - 1100) ((w : Int) - (1100 : Nat)))) (sumUnits s c ((a : Int) - 1100) t c' ((a' : Int) - 1100) ((w : Int) - (1100 : Nat))).natAbs ((w : Int) - (1100 : Nat)) := by
    rw [h1, g1]
    simp only [exactSum]
    rw [hq]
  obtain ⟨s', c2, a2, r1, r2⟩ := dy_round _ _ w b 1100 b (m + n) (by rw [sgn _ true (fun _ => trivial)]; exact hu) h (by omega) k1 k2
  exact ⟨s', c2, a2, by rw [val64_dadd, e]; exact r1, r2⟩
theorem dy_neg {x : UInt64} {m : Int} {b : Nat} (hx : Dy x m b) : Dy (dneg x) (-m) b := by
  obtain ⟨s, c, a, h1, h2⟩ := hx
  refine ⟨!s, c, a, by rw [val64_dneg, h1]; rfl, ?_⟩
  rw [show signed (!s) c = - signed s c by cases s <;> simp [signed], Int.neg_mul, h2, Int.neg_mul]
theorem dy_sub {x y : UInt64} {m n : Int} {b : Nat} (hx : Dy x m b) (hy : Dy y n b) (h : (m - n).natAbs < 2 ^ 53) (k1 : 78 ≤ b) (k2 : b ≤ 2000) : Dy (dsub x y) (m - n) b := by
  rw [dsub_eq]
  exact dy_add hx (dy_neg hy) h k1 k2
theorem dy_ratio (s : Bool) (c d A B k n : Nat) (E : Int) (hd : 0 < d) (e : c * 2 ^ A = n * d * 2 ^ B) (hn : n < 2 ^ 53) (hE : (A : Int) - B = E - (k - 1100)) (k1 : 78 ≤ k) (k2 : k ≤ 2000) :
    ∃ (c' a' : Nat), roundRatio b64 s c d E = .fin s c' ((a' : Int) - 1100) ∧ c' * 2 ^ a' = n * 2 ^ k := by
  by_cases n0 : n = 0
  · subst n0
    have c0 : c = 0 := by
      rw [Nat.zero_mul, Nat.zero_mul] at e
      have := Nat.mul_eq_zero.mp e
      have : 0 < 2 ^ A := Nat.two_pow_pos A
      omega
    subst c0
    exact ⟨0, 26, rfl, by rw [Nat.zero_mul, Nat.zero_mul]⟩
  · have l1 : n.log2 ≤ 52 := by
      have := (Nat.log2_lt n0).mpr hn
      omega
    have l2 : 2 ^ n.log2 ≤ n := Nat.log2_self_le n0
    have l3 : n < 2 ^ (n.log2 + 1) := Nat.lt_log2_self
    generalize hj : 52 - n.log2 = j at *
    have j1 : n.log2 + j = 52 := by omega
    have f1 : 2 ^ 52 ≤ n * 2 ^ j := by
      rw [← j1, Nat.pow_add]
      exact Nat.mul_le_mul_right _ l2
    have f2 : n * 2 ^ j < 2 ^ 53 := by
      have : 2 ^ 53 = 2 ^ (n.log2 + 1) * 2 ^ j := by rw [← Nat.pow_add]; congr 1; omega
      rw [this]
      exact Nat.mul_lt_mul_of_pos_right l3 (Nat.two_pow_pos j)
    refine ⟨n * 2 ^ j, k - j, ?_, ?_⟩
    · refine roundRatio_exact good_b64 hd ⟨f2, ?_, ?_, Or.inr f1⟩ ?_
      · show (-1074 : Int) ≤ _
        omega
      · show _ ≤ (971 : Int)
        omega
      · by_cases g : B ≤ A + j
        · have q1 : (E - (((k - j : Nat) : Int) - 1100)).toNat = A + j - B := by omega
          have q2 : ((((k - j : Nat) : Int) - 1100) - E).toNat = 0 := by omega
          rw [q1, q2, Nat.pow_zero, Nat.mul_one]
          apply Nat.eq_of_mul_eq_mul_right (Nat.two_pow_pos B)
          rw [Nat.mul_assoc, ← Nat.pow_add, show A + j - B + B = A + j by omega, Nat.pow_add, ← Nat.mul_assoc, e]
          ac_rfl
        · have q1 : (E - (((k - j : Nat) : Int) - 1100)).toNat = 0 := by omega
          have q2 : ((((k - j : Nat) : Int) - 1100) - E).toNat = B - (A + j) := by omega
          rw [q1, q2, Nat.pow_zero, Nat.mul_one]
          apply Nat.eq_of_mul_eq_mul_right (Nat.two_pow_pos A)
          rw [e, show B = j + (B - (A + j)) + A by omega, Nat.pow_add, Nat.pow_add, show j + (B - (A + j)) + A - (A + j) = B - (A + j) by omega]
          ac_rfl
    · rw [Nat.mul_assoc, ← Nat.pow_add]
      congr 2
      omega
/-- an exact quotient -/
theorem dy_div {x y : UInt64} {m n r : Int} {b d k : Nat} (hx : Dy x m b) (hy : Dy y n d) (hn : n ≠ 0) (hr : m = r * n) (hk : b + 1100 = k + d) (h : r.natAbs < 2 ^ 53) (k1 : 78 ≤ k) (k2 : k ≤ 2000) : Dy (ddiv x y) r k := by
  obtain ⟨s, c, a, h1, h2⟩ := hx
  obtain ⟨t, c', a', g1, g2⟩ := hy
  have c0 : 0 < c' := by
    apply Nat.pos_of_ne_zero
    intro q
    rw [q, signed_zero, Int.zero_mul] at g2
    have := Int.mul_eq_zero.mp g2.symm
    have : 0 < 2 ^ d := Nat.two_pow_pos d
    omega
  have e1 : c * 2 ^ a = r.natAbs * n.natAbs * 2 ^ b := by
    have := congrArg Int.natAbs h2
    rw [hr, Int.natAbs_mul, Int.natAbs_mul, Int.natAbs_mul, natAbs_signed] at this
    simpa using this
  have e2 : c' * 2 ^ a' = n.natAbs * 2 ^ d := by
    have := congrArg Int.natAbs g2
    rw [Int.natAbs_mul, Int.natAbs_mul, natAbs_signed] at this
    simpa using this
  have n0 : 0 < n.natAbs := by omega
  have e3 : c * 2 ^ (a + d) = r.natAbs * c' * 2 ^ (b + a') := by
    apply Nat.eq_of_mul_eq_mul_right n0
    rw [Nat.pow_add, Nat.pow_add]
    calc c * (2 ^ a * 2 ^ d) * n.natAbs = (c * 2 ^ a) * (n.natAbs * 2 ^ d) := by ac_rfl
      _ = (r.natAbs * n.natAbs * 2 ^ b) * (c' * 2 ^ a') := by rw [e1, e2]
      _ = r.natAbs * c' * (2 ^ b * 2 ^ a') * n.natAbs := by ac_rfl
  obtain ⟨c2, a2, r1, r2⟩ := dy_ratio (s != t) c c' (a + d) (b + a') k r.natAbs ((a : Int) - 1100 - ((a' : Int) - 1100)) c0 e3 h (by omega) k1 k2
  refine ⟨s != t, c2, a2, ?_, ?_⟩
  · rw [val64_ddiv, h1, g1]
    simp only [quotient]
    rw [if_neg (by omega)]
    exact r1
  · have e4 : signed (s != t) c2 * ((2 ^ a2 : Nat) : Int) = signed (s != t) (r.natAbs) * ((2 ^ k : Nat) : Int) := by
      rw [← signed_mul, ← signed_mul, r2]
    rw [e4]
    congr 1
    by_cases q : r = 0
    · rw [q]; exact signed_zero _
    · have cc : 0 < c := by
        apply Nat.pos_of_ne_zero
        intro z
        rw [z, Nat.zero_mul] at e1
        have : 0 < r.natAbs * n.natAbs * 2 ^ b := Nat.mul_pos (Nat.mul_pos (by omega) n0) (Nat.two_pow_pos b)
        omega
      have s1 := dy_sg s c cc m _ _ (Nat.two_pow_pos a) (Nat.two_pow_pos b) h2
      have s2 := dy_sg t c' c0 n _ _ (Nat.two_pow_pos a') (Nat.two_pow_pos d) g2
      have s3 : signed (s != t) (r.natAbs * n.natAbs) * signed t n.natAbs = signed s m.natAbs * (n.natAbs : Int) := by
        rw [hr, Int.natAbs_mul]
        cases s <;> cases t <;> simp [signed, Int.neg_mul, Int.mul_neg]
      rw [s1, s2, hr, signed_mul] at s3
      have s4 : signed (s != t) r.natAbs * ((n.natAbs : Int) * n) = r * ((n.natAbs : Int) * n) := by
        calc signed (s != t) r.natAbs * ((n.natAbs : Int) * n) = signed (s != t) r.natAbs * (n.natAbs : Int) * n := by ac_rfl
          _ = r * n * (n.natAbs : Int) := s3
          _ = r * ((n.natAbs : Int) * n) := by ac_rfl
      exact Int.eq_of_mul_eq_mul_right (Int.mul_ne_zero (by omega) hn) s4
theorem dy_fin {x : UInt64} {m : Int} {b : Nat} (h : Dy x m b) : val64 x ≠ .nan := by
  obtain ⟨s, c, a, h1, -⟩ := h
  rw [h1]
  exact nofun
theorem dy_cmp {x y : UInt64} {m n : Int} {b : Nat} (hx : Dy x m b) (hy : Dy y n b) : dcmp x y = some (compare m n) := by
  obtain ⟨s, c, a, h1, h2⟩ := hx
  obtain ⟨t, c', a', g1, g2⟩ := hy
  show order (val64 x) (val64 y) = _
  rw [h1, g1]
  simp only [order]
  congr 1
  generalize hmn : min a a' = w at *
  have wa : w ≤ a := by omega
  have wa' : w ≤ a' := by omega
  have hq : min ((a : Int) - 1100) ((a' : Int) - 1100) = (w : Int) - 1100 := by omega
  rw [hq]
  unfold inUnits
  rw [show ((a : Int) - 1100 - ((w : Int) - 1100)).toNat = a - w by omega, show ((a' : Int) - 1100 - ((w : Int) - 1100)).toNat = a' - w by omega]
  have p1 : signed s (c * 2 ^ (a - w)) * ((2 ^ w : Nat) : Int) = m * ((2 ^ b : Nat) : Int) := by
    rw [signed_mul, Int.mul_assoc, ← Int.natCast_mul, ← Nat.pow_add, show a - w + w = a by omega, h2]
  have p2 : signed t (c' * 2 ^ (a' - w)) * ((2 ^ w : Nat) : Int) = n * ((2 ^ b : Nat) : Int) := by
    rw [signed_mul, Int.mul_assoc, ← Int.natCast_mul, ← Nat.pow_add, show a' - w + w = a' by omega, g2]
  generalize signed s (c * 2 ^ (a - w)) = u at *
  generalize signed t (c' * 2 ^ (a' - w)) = v at *
  have hw : (0 : Int) < ((2 ^ w : Nat) : Int) := Int.natCast_pos.mpr (Nat.two_pow_pos w)
  have hb : (0 : Int) < ((2 ^ b : Nat) : Int) := Int.natCast_pos.mpr (Nat.two_pow_pos b)
  have lt : u < v ↔ m < n := by
    constructor
    · intro q
      have := Int.mul_lt_mul_of_pos_right q hw
      rw [p1, p2] at this
      exact Int.lt_of_mul_lt_mul_right this (by omega)
    · intro q
      have := Int.mul_lt_mul_of_pos_right q hb
      rw [← p1, ← p2] at this
      exact Int.lt_of_mul_lt_mul_right this (by omega)
  have eq : u = v ↔ m = n := by
    constructor
    · intro q
      rw [q] at p1
      exact Int.eq_of_mul_eq_mul_right (by omega) (p1.symm.trans p2)
    · intro q
      rw [q] at p1
      exact Int.eq_of_mul_eq_mul_right (by omega) (p1.trans p2.symm)
  simp only [compare, compareOfLessAndEq, lt, eq]
theorem dy_up {x : UInt64} {m : Int} {b : Nat} (h : Dy x m b) (k : Nat) (hk : k ≤ b) : Dy x (m * (2 ^ k : Nat)) (b - k) := by
  obtain ⟨s, c, a, h1, h2⟩ := h
  exact ⟨s, c, a, h1, by rw [h2, Int.mul_assoc, ← Int.natCast_mul, ← Nat.pow_add, show k + (b - k) = b by omega]⟩
theorem dy_nn {x : UInt64} {m : Int} {b : Nat} (h : Dy x m b) : Jvm.Free.Fl.NoNaN64 x := Jvm.Free.Fl.val64_no.mpr (dy_fin h)
end Dyad
end Jvm.Pilot.@@N@@
namespace Jvm.Pilot.@@N@@
open Jvm Jvm.ClassFile Sem Op Lib Jvm.Free Jvm.Stand Jvm.LawKit Jvm.RoadKit Bundle Jvm.Pilot.@@N@@.Jvm.D
/-! arrays: their class by name, and their clones -/
theorem own_fitC {Z : State} {h : Heap} {a : Addr} {c : Cell} {ty : FieldType} {vs : List Value} {dv : Value} (A : Arr Z h a c ty) (H : Has c vs dv) (G : ∀ i, i < c.slots.size → fits ty (vs.getD i dv) = true) : FitC Z c := fun i v hv => by
  obtain ⟨hi, -⟩ := Array.getElem?_eq_some_iff.mp hv
  have q := H i hi
  rw [hv] at q
  cases q
  obtain ⟨-, k, hk, comp, hkind⟩ := A.2.1
  have e : Z.slotType? c.cls .none i = some ty := by simp [State.slotType?, hk, hkind]
  have g := G i hi
  simp only [State.fitsSlot, e]
  exact g
theorem own_clone {Z : State} {h : Heap} {b : Addr} {c : Cell} {vs : List Value} {z : Int32} {ty : FieldType} {dv : Value} (A : Arr Z h b (cloneOf c) ty) (S : c.slots.size = z.toNatClampNeg) (N : ¬ z < 0) (H : Has c vs dv) (G : ∀ i, i < c.slots.size → fits ty (vs.getD i dv) = true) : Arv Z h b c.cls ty z vs dv := ⟨cloneOf c, A, rfl, S, N, H, G⟩
theorem newPE {p : Program} {l : Launch} {e : Env} {R : Room} {s : State} {m : MethodId} {args : Array Value} {below : List Frame} {meth : Method} {c : Code} {T : State} {locs : List Loc} {cells slots : Nat} {Z : State} {a0 : Array Value} {h : Heap}
    (X : Stand p l e R s m args below meth c T locs cells slots) (hx : p.tables.exec = Jvm.exec) (hZ : Z.Warmed39 s.vm) {aty : ArrayType} (w : (Jvm.Cond.arrayClass (newarray.typeOf aty)).before a0 Z = true) (eT : T.heap = h) {g : JFrame} (hg : g.method = m) (hd : decode c.code g.pc = .ok (.newarray aty, 2)) {n : Int32} {rest : List Value} (hs : g.stack = .int n :: rest)
    (hn : ¬ n < 0) {cap : Nat} (hcap : n.toNatClampNeg ≤ cap) (hb : cap * 8 ≤ 536870912) (hc : cells + 1 ≤ R.cells) (hl : slots + cap ≤ R.slots) :
    ∃ T' h' cA, Stand p l e R s m args below meth c T' locs (cells + 1) (slots + cap) ∧ T'.heap = h' ∧ Ext h h' ∧ Arr Z h' h.size (newA cA (newarray.typeOf aty) n) (newarray.typeOf aty) ∧ Exa Z h' h.size ("[" ++ (newarray.typeOf aty).toString) ∧
      ∀ target, Steps p.tables e below (T'.setTop { g with pc := g.pc + 2, stack := .ref h.size :: rest }) target → Steps p.tables e below (T.setTop g) target := by
  have hcb : componentBytes (newarray.typeOf aty) ≤ 8 := by cases aty <;> decide
  obtain ⟨cA, kA, comp, h1, h2, h3, X', st⟩ := X.newarrayPrim hx (mvA hZ w) hg hd hs hn (Nat.le_trans (Nat.mul_le_mul hcap hcb) hb) hc (by omega)
  subst eT
  rw [hZ.alike.findClass] at h1
  obtain ⟨kZ, z1, -⟩ := Vm.findClass_spec h1
  obtain ⟨k', z2, z3⟩ := hZ.alike.2.2 _ _ z1
  cases h2.symm.trans z2
  have hk : kZ.kind = .array comp (newarray.typeOf aty) := by rw [← h3, z3]
  have hN : (T.pushCell { cls := cA, slots := Array.replicate n.toNatClampNeg (defaultValue (newarray.typeOf aty)), vm := .none }).heap[T.heap.size]? = some (newA cA (newarray.typeOf aty) n) := by
    show (T.heap.push _)[T.heap.size]? = _
    simp [newA]
  refine ⟨_, _, cA, X'.more (Nat.le_refl _) (by omega), rfl, ext_of fun a q => ?_, ⟨hN, ⟨by simp [newA], kZ, z1, comp, hk⟩, by simp [newA]⟩, ⟨_, kZ, hN, h1, z1, rfl, fun q => by rw [hk] at q; cases q⟩, st⟩
  show (T.heap.push _)[a]? = _
  exact (Array.getElem?_push_lt q).trans (Array.getElem?_eq_getElem q).symm
end Jvm.Pilot.@@N@@
namespace Jvm.Pilot.@@N@@
open Jvm Jvm.ClassFile Sem Op Lib Jvm.Free Jvm.Stand Jvm.LawKit Jvm.RoadKit Bundle Jvm.Pilot.@@N@@.Jvm.D
/-- from here the run comes to a state of which G holds -/
def OWay (p : Program) (e : Env) (below : List Frame) (G : State → Prop) (T : State) (g : JFrame) : Prop := ∃ t, Steps p.tables e below (T.setTop g) t ∧ G t
/-- how a body ends: it returned, with what Q says of its value, the heap and the places written -/
def OEnd (s : State) (below : List Frame) (Q : Option Value → Heap → List Loc → Prop) (cs sl : Nat) (t : State) : Prop := ∃ o, t.status = .running ∧ Ended t below o ∧ ∃ v L, o = .returned v ∧ Q v t.heap L ∧ FrameEnd s o t L cs sl
/-- a body's contract, as a call wants it -/
def OCon (l : Launch) (y : MethodName) (bytes : ByteArray) (maxL : Nat) (rt : Option FieldType) (ws : List Jvm.Cond) (rm : Room) (Z : State) (as' : Array Value) (h : Heap) (Q : Option Value → Heap → List Loc → Prop) : Prop :=
  MetFree l y (head1 (Jvm.Cond.code y bytes maxL rt :: ws) rm) (fun a U => a = as' ∧ Z.Warmed39 U.vm ∧ U.heap = h) (fun _ _ _ _ _ => True) (fun _ U o U' => ∃ v L, o = .returned v ∧ Q v U'.heap L ∧ FrameEnd U o U' L rm.cells rm.slots)
section Own
variable {p : Program} {l : Launch} {e : Env} {R : Room} {s : State} {m : MethodId} {args : Array Value} {below : List Frame} {meth : Method} {c : Code} {T T' : State} {locs : List Loc} {cells slots : Nat} {Z : State} {a0 : Array Value} {h : Heap} {G : State → Prop} {g g' : JFrame} {Q : Option Value → Heap → List Loc → Prop} {cs sl : Nat}
theorem ogo (q : ∀ t, Steps p.tables e below (T'.setTop g') t → Steps p.tables e below (T.setTop g) t) (w : OWay p e below G T' g') : OWay p e below G T g := by
  obtain ⟨t, h1, h2⟩ := w
  exact ⟨t, q t h1, h2⟩
theorem ogoS (q : Steps p.tables e below (T.setTop g) (T'.setTop g')) (w : OWay p e below G T' g') : OWay p e below G T g := ogo (fun _ k => q.trans k) w
theorem ogoE (q : g = g') (w : OWay p e below G T g') : OWay p e below G T g := q ▸ w
theorem ocon {y : MethodName} {bytes : ByteArray} {maxL : Nat} {rt : Option FieldType} {ws : List Jvm.Cond} {rm : Room} {as' : Array Value} (hp : plainFor y = true)
    (body : ∀ (p : Program) (e : Env) (s : State) (m : MethodId) (below : List Frame) (meth : Method) (c : Code) (s₁ : State), p.tables.exec = Jvm.exec → c.code = bytes → c.maxLocals = maxL → s.vm.findClass y.cls = some m.cls → meth.name = y.name → meth.sig.returnType = rt → meth.locks = false → Z.Warmed39 s.vm →
      Stand p l e rm s m as' below meth c s₁ [] 0 0 → s₁.heap = h → OWay p e below (OEnd s below Q rm.cells rm.slots) s₁ (entryFrame m as' maxL)) : OCon l y bytes maxL rt ws rm Z as' h Q := by
  refine MetFree.of_bodySF hp hisR ?_
  intro p e s m args below meth c s₁ Bd hml0 hP hK
  obtain ⟨rfl, hZ, hh⟩ := hP
  obtain ⟨t, h1, o, h2, h3, h4⟩ := body p e s m below meth c s₁ Bd.exec Bd.bytes hml0 (findClass_of_methodNamed Bd.named) (name_of_methodNamed Bd.named Bd.method).1 Bd.returns Bd.notSynchronized hZ (Stand.of_body Bd) (by rw [← hh, Bd.state]; rfl)
  exact ⟨t, o, h1, h2, h3, h4⟩
theorem wRetN (X : Stand p l e R s m args below meth c T locs cells slots) (hx : p.tables.exec = Jvm.exec) {pc : Nat} {Ls : Array Slot} {z : Int32} {t : FieldType} {rest : List Value} (hret : meth.sig.returnType = some t) (hlk : meth.locks = false) (ht : t = .boolean ∨ t = .byte ∨ t = .char ∨ t = .short)
    (hd : decode c.code pc = .ok (.ireturn, 1)) (hc : cells ≤ cs) (hs : slots ≤ sl) (eT : T.heap = h) (hq : Q (some (.int (nar t z))) h locs) : OWay p e below (OEnd s below Q cs sl) T (mkF m pc Ls (.int z :: rest)) := by
  obtain ⟨fs, hr, hrun, hended, hW, hsame⟩ := X.leave (v := some (.int (nar t z))) (fun q => by rw [hret] at q; cases q) hlk
  exact ⟨_, retN X hx hret ht hd hr, _, hrun, hended, _, _, rfl, by subst eT; exact hq, ⟨_, rfl⟩, hW, hsame.mono hc hs⟩
theorem wRet (X : Stand p l e R s m args below meth c T locs cells slots) (hx : p.tables.exec = Jvm.exec) {pc : Nat} {Ls : Array Slot} {w : Value} {t : FieldType} {i : Instr} {rest : List Value} (hret : meth.sig.returnType = some t) (hlk : meth.locks = false) (hn : narrow t w = w)
    (hi : (i = .ireturn ∧ (t = .int ∨ t = .boolean ∨ t = .byte ∨ t = .char ∨ t = .short) ∧ ∃ z, w = .int z) ∨ (i = .lreturn ∧ t = .long ∧ ∃ z, w = .long z) ∨ (i = .dreturn ∧ t = .double ∧ ∃ z, w = .double z) ∨ (i = .freturn ∧ t = .float ∧ ∃ z, w = .float z) ∨ (i = .areturn ∧ t.isReference = true ∧ w.isRef = true))
    (hd : decode c.code pc = .ok (i, 1)) (hc : cells ≤ cs) (hs : slots ≤ sl) (eT : T.heap = h) (hq : Q (some w) h locs) : OWay p e below (OEnd s below Q cs sl) T (mkF m pc Ls (w :: rest)) := by
  obtain ⟨fs, hr, hrun, hended, hW, hsame⟩ := X.leave (v := some w) (fun q => by rw [hret] at q; cases q) hlk
  exact ⟨_, retOut X hx hret hn hi hd hr, _, hrun, hended, _, _, rfl, by subst eT; exact hq, ⟨_, rfl⟩, hW, hsame.mono hc hs⟩
theorem wRetV (X : Stand p l e R s m args below meth c T locs cells slots) (hx : p.tables.exec = Jvm.exec) {pc : Nat} {Ls : Array Slot} (hret : meth.sig.returnType = none) (hlk : meth.locks = false)
    (hd : decode c.code pc = .ok (.return_, 1)) (hc : cells ≤ cs) (hs : slots ≤ sl) (eT : T.heap = h) (hq : Q none h locs) : OWay p e below (OEnd s below Q cs sl) T (mkF m pc Ls []) := by
  obtain ⟨fs, hr, hrun, hended, hW, hsame⟩ := X.leave (v := none) (fun _ => rfl) hlk
  exact ⟨_, X.returnOut hx hret hd hr, _, hrun, hended, _, _, rfl, by subst eT; exact hq, ⟨_, rfl⟩, hW, hsame.mono hc hs⟩
theorem wStatic (X : Stand p l e R s m args below meth c T locs cells slots) (hx : p.tables.exec = Jvm.exec) (hZ : Z.Warmed39 s.vm) {own : String} {index : Nat} {y : MethodName} {bytes : ByteArray} {maxL : Nat} {rt : Option FieldType} {rm : Room} {as' : Array Value} (hown : s.vm.findClass own = some m.cls)
    (w1 : (Jvm.Cond.methodLink own index y).before a0 Z = true) (w2 : (Jvm.Cond.static y).before a0 Z = true) (w3 : (Jvm.Cond.initialized y.cls).before a0 Z = true) (w4 : (Jvm.Cond.code y bytes maxL rt).before a0 Z = true) (hy : y.cls ≠ "java/lang/invoke/MethodHandle" ∧ y.cls ≠ "java/lang/invoke/VarHandle")
    (hM : OCon l y bytes maxL rt [] rm Z as' h Q) (W : Nat) (hf : rm.frames + 1 ≤ R.frames) (hl : W + (maxL + 11) + rm.locals ≤ R.locals) {g : JFrame} (hg : g.method = m) (hsize : g.locals.size = c.maxLocals) {argsL rest : List Value} (hlen : ∀ sig, parseMethodDescriptor y.desc = some sig → argsL.length = sig.parameters.length)
    (hstack : g.stack = argsL.reverse ++ rest) (hW : 2 * g.monitorRoom + (rest.map fun v => v.category).sum ≤ W) (hd : decode c.code g.pc = .ok (.invokestatic index, 3)) (has : argsL.toArray = as') (eT : T.heap = h) (hc : cells + rm.cells ≤ R.cells) (hs : slots + rm.slots ≤ R.slots) :
    ∃ (v : Option Value) (T' : State) (L : List Loc), Stand p l e R s m args below meth c T' (locs ++ L) (cells + rm.cells) (slots + rm.slots) ∧ Q v T'.heap L ∧ ∀ target, Steps p.tables e below (T'.setTop { g with pc := g.pc + 3, stack := v.toList ++ rest }) target → Steps p.tables e below (T.setTop g) target := by
  obtain ⟨v, _, ⟨T1, L1, k1, n1⟩, -, X1, ⟨Lc, hQ, l1, y1, z1⟩, st⟩ := Jvm.LawKit.callS X hx (y := y) hown (mvT hZ w1) (mvT hZ w2) (mvT hZ w3) (mvT hZ w4) hy (backOf (W := W) hM hZ w4 w3 hf hl) (g := g) hg hsize (argsL := argsL) (rest := rest) hlen hstack hW hd (fun _ _ => ⟨has, eT, hc, hs⟩)
  dsimp only [Pt.U, Pt.locs, Pt.cells, Pt.slots] at X1 l1 y1 z1 st hQ
  subst l1 y1 z1
  exact ⟨v, T1, Lc, X1, hQ, st⟩
theorem wInit (X : Stand p l e R s m args below meth c T locs cells slots) (hx : p.tables.exec = Jvm.exec) (hZ : Z.Warmed39 s.vm) {own : String} {index : Nat} {y : MethodName} {bytes : ByteArray} {maxL : Nat} {rm : Room} {as' : Array Value} (hy1 : y.name = "<init>") (hown : s.vm.findClass own = some m.cls)
    (w1 : (Jvm.Cond.methodLink own index y).before a0 Z = true) (w2 : (Jvm.Cond.instanceMethod y).before a0 Z = true) (w3 : (Jvm.Cond.initialized y.cls).before a0 Z = true) (w4 : (Jvm.Cond.code y bytes maxL none).before a0 Z = true) (hy : y.cls ≠ "java/lang/invoke/MethodHandle" ∧ y.cls ≠ "java/lang/invoke/VarHandle")
    (hM : OCon l y bytes maxL none [] rm Z as' h Q) (W : Nat) (hf : rm.frames + 1 ≤ R.frames) (hl : W + (maxL + 11) + rm.locals ≤ R.locals) {g : JFrame} (hg : g.method = m) (hsize : g.locals.size = c.maxLocals) {a : Addr} {argsL rest : List Value} (hlen : ∀ sig, parseMethodDescriptor y.desc = some sig → argsL.length = sig.parameters.length)
    (hstack : g.stack = argsL.reverse ++ .ref a :: rest) (hW : 2 * g.monitorRoom + (rest.map fun v => v.category).sum ≤ W) (hd : decode c.code g.pc = .ok (.invokespecial index, 3)) (has : (.ref a :: argsL).toArray = as') (eT : T.heap = h) (hc : cells + rm.cells ≤ R.cells) (hs : slots + rm.slots ≤ R.slots) :
    ∃ (v : Option Value) (T' : State) (L : List Loc), Stand p l e R s m args below meth c T' (locs ++ L) (cells + rm.cells) (slots + rm.slots) ∧ Q v T'.heap L ∧ Steps p.tables e below (T.setTop g) (T'.setTop { g with pc := g.pc + 3, stack := v.toList ++ rest }) := by
  obtain ⟨v, _, ⟨T1, L1, k1, n1⟩, -, X1, ⟨Lc, hQ, l1, y1, z1⟩, st⟩ := X.specialBack hx (y := y) hy1 hown (mvT hZ w1) (mvT hZ w2) (mvT hZ w4) hy (backOf (W := W) hM hZ w4 w3 hf hl) (g := g) hg hsize (Steps.refl _) (a := a) (argsL := argsL) (rest := rest) hlen hstack hW hd (fun _ _ => ⟨has, eT, hc, hs⟩)
  dsimp only [Pt.U, Pt.locs, Pt.cells, Pt.slots] at X1 l1 y1 z1 st hQ
  subst l1 y1 z1
  exact ⟨v, T1, Lc, X1, hQ, st⟩
theorem wVirtual (X : Stand p l e R s m args below meth c T locs cells slots) (hx : p.tables.exec = Jvm.exec) (hZ : Z.Warmed39 s.vm) {own C : String} {index : Nat} {y z : MethodName} {bytes : ByteArray} {maxL : Nat} {rt : Option FieldType} {rm : Room} {as' : Array Value} (hown : s.vm.findClass own = some m.cls)
    (w1 : (Jvm.Cond.methodLink own index y).before a0 Z = true) (w2 : (Jvm.Cond.declares y).before a0 Z = true) (nf : NotFace s y) (w5 : (Jvm.Cond.selects C y z).before a0 Z = true) (w6 : (Jvm.Cond.instanceMethod z).before a0 Z = true) (w3 : (Jvm.Cond.initialized z.cls).before a0 Z = true) (w4 : (Jvm.Cond.code z bytes maxL rt).before a0 Z = true)
    (hy : y.cls ≠ "java/lang/invoke/MethodHandle" ∧ y.cls ≠ "java/lang/invoke/VarHandle") (hM : OCon l z bytes maxL rt [] rm Z as' h Q) (W : Nat) (hf : rm.frames + 1 ≤ R.frames) (hl : W + (maxL + 11) + rm.locals ≤ R.locals) {b : Addr} (E : Exa Z h b C) {g : JFrame} (hg : g.method = m) (hsize : g.locals.size = c.maxLocals) {argsL rest : List Value} (hlen : ∀ sig, parseMethodDescriptor y.desc = some sig → argsL.length = sig.parameters.length)
    (hstack : g.stack = argsL.reverse ++ .ref b :: rest) (hW : 2 * g.monitorRoom + (rest.map fun v => v.category).sum ≤ W) (hd : decode c.code g.pc = .ok (.invokevirtual index, 3)) (has : (.ref b :: argsL).toArray = as') (eT : T.heap = h) (hc : cells + rm.cells ≤ R.cells) (hs : slots + rm.slots ≤ R.slots) :
    ∃ (v : Option Value) (T' : State) (L : List Loc), Stand p l e R s m args below meth c T' (locs ++ L) (cells + rm.cells) (slots + rm.slots) ∧ Q v T'.heap L ∧ Steps p.tables e below (T.setTop g) (T'.setTop { g with pc := g.pc + 3, stack := v.toList ++ rest }) := by
  obtain ⟨cq, kq, qa, qb, qc⟩ := isOf hZ eT E
  obtain ⟨v, _, ⟨T1, L1, k1, n1⟩, -, X1, ⟨Lc, hQ, l1, y1, z1⟩, st⟩ := X.virtualBack hx (y := y) (z := z) hown (mvT hZ w1) (mvT hZ w2) nf (mvT hZ w5) (mvT hZ w6) hy (backOf (W := W) hM hZ w4 w3 hf hl) qa qc (g := g) hg hsize (Steps.refl _) (argsL := argsL) (rest := rest) hlen hstack hW hd (fun _ _ => ⟨has, eT, hc, hs⟩)
  dsimp only [Pt.U, Pt.locs, Pt.cells, Pt.slots] at X1 l1 y1 z1 st hQ
  subst l1 y1 z1
  exact ⟨v, T1, Lc, X1, hQ, st⟩
end Own
end Jvm.Pilot.@@N@@
namespace Jvm.Pilot.@@N@@
open Jvm Jvm.ClassFile Sem Op Lib Jvm.Free Jvm.Stand Jvm.LawKit Jvm.RoadKit Bundle Jvm.Pilot.@@N@@.Jvm.D
theorem own_c (p v : Int32) (h : v = (p &&& (3 : Int32))) : v = (0 : Int32) ∨ v = (1 : Int32) ∨ v = (2 : Int32) ∨ v = (3 : Int32) := by
  have m := c_mask p 3 2 (by decide) (by decide)
  rw [← h] at m
  have e0 : (0 : Int32).toInt = 0 := by decide
  have e1 : (1 : Int32).toInt = 1 := by decide
  have e2 : (2 : Int32).toInt = 2 := by decide
  have e3 : (3 : Int32).toInt = 3 := by decide
  simp only [← Int32.toInt_inj, e0, e1, e2, e3]
  omega
theorem dy_2p20 : Dy 4697254411347427328 1 1120 := ⟨false, 2 ^ 52, 1068, by decide +kernel, by decide +kernel⟩
theorem own_nn (x : Int32) : Jvm.Free.Fl.NoNaN64 (FP.ddiv (FP.i2d x) (4697254411347427328 : UInt64)) := dy_nn (m := x.toInt) (b := 1080) (dy_div (dy_i2d x) dy_2p20 (by decide) (by omega) (by decide) (by have := x.le_toInt; have := x.toInt_lt; omega) (by decide) (by decide))
theorem pn_com_example_sito_sito_Slice : plainName "com/example/sito/sito/Slice" = true := by first | (simp [plainName, overriddenIn]; done) | decide +kernel
theorem d4_0 : decode prog_6_method_17_code 0 = .ok (.aload_n 0, 1) := by decide +kernel
theorem d4_1 : decode prog_6_method_17_code 1 = .ok (.getfield 11, 3) := by decide +kernel
theorem d4_4 : decode prog_6_method_17_code 4 = .ok (.lreturn, 1) := by decide +kernel
def get4_rm : Room := { frames := 0, cells := 0, slots := 0, locals := 0 }
def get4_Q (Z : State) (a0 : Addr) (w : Int64) (h0 : Heap) (n0 : Nat) (v : Option Value) (h : Heap) (L : List Loc) : Prop := (v = some (.long w)) ∧ (Fr n0 L) ∧ (h = h0)
theorem get4_ef (m : MethodId) (a0 : Addr) : entryFrame m #[(.ref a0)] 1 = mkF m 0 #[.val (.ref a0)] [] := by first | (simp [entryFrame, mkF, argsToLocals, Value.category]; done) | rfl
set_option maxRecDepth 65536 in
set_option maxHeartbeats 40000000 in
theorem get4_c (l : Launch) (Z : State) (az : Array Value) (hw : ∀ d ∈ tables_1, d.before az Z = true) (ws : List Jvm.Cond) (a0 : Addr) (w : Int64) (h0 : Heap) (n0 : Nat) (Z0 : n0 ≤ h0.size) (hp0 : Fld Z h0 a0 "com/example/sito/sito/Slice" "capacity" "J" (.long w)) :
    OCon l (⟨"com/example/sito/sito/Slice", "getCapacity", "()J"⟩ : MethodName) prog_6_method_17_code 1 (some .long) ws get4_rm Z #[(.ref a0)] h0 (get4_Q Z a0 w h0 n0) := by
  refine ocon (plainFor_of_name pn_com_example_sito_sito_Slice) ?_
  intro p e s m below meth c s₁ hx hby hml hown hnm hret hlk hZ X0 eh0
  have N0 := Fr.nil n0
  have K0 := Keep.refl h0 []
  refine ogoE (get4_ef m a0) ?_
  generalize hG : (OEnd s below (get4_Q Z a0 w h0 n0) get4_rm.cells get4_rm.slots) = G
  show OWay p e below G s₁ (mkF m 0 #[.val (.ref a0)] [])
  refine ogo (fun _ z_ => XS.aloadN X0.here hx rfl (hb hby d4_0) rfl rfl z_) ?_
  show OWay p e below G s₁ (mkF m 1 #[.val (.ref a0)] [(.ref a0)])
  obtain ⟨T1, X1, eT1, st1⟩ := getF X0 hx hZ hown (host := "") (Or.inl (hw _ (List.mem_of_getElem? (i := 12) rfl))) Via.refl eh0 hp0 (g := (mkF m 1 #[.val (.ref a0)] [(.ref a0)])) rfl rfl (hb hby d4_1)
  refine ogo st1 ?_
  show OWay p e below G T1 (mkF m 4 #[.val (.ref a0)] [(.long w)])
  subst hG
  refine wRet X1 hx hret hlk rfl (Or.inr (Or.inl ⟨rfl, rfl, _, rfl⟩)) (hb hby d4_4) (by decide) (by decide) eT1 ?_
  exact ⟨rfl, N0, rfl⟩
theorem d5_0 : decode prog_6_method_18_code 0 = .ok (.aload_n 0, 1) := by decide +kernel
theorem d5_1 : decode prog_6_method_18_code 1 = .ok (.getfield 15, 3) := by decide +kernel
theorem d5_4 : decode prog_6_method_18_code 4 = .ok (.dreturn, 1) := by decide +kernel
def get5_rm : Room := { frames := 0, cells := 0, slots := 0, locals := 0 }
def get5_Q (Z : State) (a0 : Addr) (w : UInt64) (h0 : Heap) (n0 : Nat) (v : Option Value) (h : Heap) (L : List Loc) : Prop := (v = some (.double w)) ∧ (Fr n0 L) ∧ (h = h0)
theorem get5_ef (m : MethodId) (a0 : Addr) : entryFrame m #[(.ref a0)] 1 = mkF m 0 #[.val (.ref a0)] [] := by first | (simp [entryFrame, mkF, argsToLocals, Value.category]; done) | rfl
set_option maxRecDepth 65536 in
set_option maxHeartbeats 40000000 in
theorem get5_c (l : Launch) (Z : State) (az : Array Value) (hw : ∀ d ∈ tables_1, d.before az Z = true) (ws : List Jvm.Cond) (a0 : Addr) (w : UInt64) (h0 : Heap) (n0 : Nat) (Z0 : n0 ≤ h0.size) (hp0 : Fld Z h0 a0 "com/example/sito/sito/Slice" "bound" "D" (.double w)) :
    OCon l (⟨"com/example/sito/sito/Slice", "getBound", "()D"⟩ : MethodName) prog_6_method_18_code 1 (some .double) ws get5_rm Z #[(.ref a0)] h0 (get5_Q Z a0 w h0 n0) := by
  refine ocon (plainFor_of_name pn_com_example_sito_sito_Slice) ?_
  intro p e s m below meth c s₁ hx hby hml hown hnm hret hlk hZ X0 eh0
  have N0 := Fr.nil n0
  have K0 := Keep.refl h0 []
  refine ogoE (get5_ef m a0) ?_
  generalize hG : (OEnd s below (get5_Q Z a0 w h0 n0) get5_rm.cells get5_rm.slots) = G
  show OWay p e below G s₁ (mkF m 0 #[.val (.ref a0)] [])
  refine ogo (fun _ z_ => XS.aloadN X0.here hx rfl (hb hby d5_0) rfl rfl z_) ?_
  show OWay p e below G s₁ (mkF m 1 #[.val (.ref a0)] [(.ref a0)])
  obtain ⟨T1, X1, eT1, st1⟩ := getF X0 hx hZ hown (host := "") (Or.inl (hw _ (List.mem_of_getElem? (i := 14) rfl))) Via.refl eh0 hp0 (g := (mkF m 1 #[.val (.ref a0)] [(.ref a0)])) rfl rfl (hb hby d5_1)
  refine ogo st1 ?_
  show OWay p e below G T1 (mkF m 4 #[.val (.ref a0)] [(.double w)])
  subst hG
  refine wRet X1 hx hret hlk rfl (Or.inr (Or.inr (Or.inl ⟨rfl, rfl, _, rfl⟩))) (hb hby d5_4) (by decide) (by decide) eT1 ?_
  exact ⟨rfl, N0, rfl⟩
theorem d6_0 : decode prog_6_method_19_code 0 = .ok (.aload_n 0, 1) := by decide +kernel
theorem d6_1 : decode prog_6_method_19_code 1 = .ok (.getfield 19, 3) := by decide +kernel
theorem d6_4 : decode prog_6_method_19_code 4 = .ok (.ireturn, 1) := by decide +kernel
def get6_rm : Room := { frames := 0, cells := 0, slots := 0, locals := 0 }
def get6_Q (Z : State) (a0 : Addr) (w : Int32) (h0 : Heap) (n0 : Nat) (v : Option Value) (h : Heap) (L : List Loc) : Prop := (v = some (.int w)) ∧ (Fr n0 L) ∧ (h = h0)
theorem get6_ef (m : MethodId) (a0 : Addr) : entryFrame m #[(.ref a0)] 1 = mkF m 0 #[.val (.ref a0)] [] := by first | (simp [entryFrame, mkF, argsToLocals, Value.category]; done) | rfl
set_option maxRecDepth 65536 in
set_option maxHeartbeats 40000000 in
theorem get6_c (l : Launch) (Z : State) (az : Array Value) (hw : ∀ d ∈ tables_1, d.before az Z = true) (ws : List Jvm.Cond) (a0 : Addr) (w : Int32) (h0 : Heap) (n0 : Nat) (Z0 : n0 ≤ h0.size) (hp0 : Fld Z h0 a0 "com/example/sito/sito/Slice" "hashCount" "I" (.int w)) :
    OCon l (⟨"com/example/sito/sito/Slice", "getHashCount", "()I"⟩ : MethodName) prog_6_method_19_code 1 (some .int) ws get6_rm Z #[(.ref a0)] h0 (get6_Q Z a0 w h0 n0) := by
  refine ocon (plainFor_of_name pn_com_example_sito_sito_Slice) ?_
  intro p e s m below meth c s₁ hx hby hml hown hnm hret hlk hZ X0 eh0
  have N0 := Fr.nil n0
  have K0 := Keep.refl h0 []
  refine ogoE (get6_ef m a0) ?_
  generalize hG : (OEnd s below (get6_Q Z a0 w h0 n0) get6_rm.cells get6_rm.slots) = G
  show OWay p e below G s₁ (mkF m 0 #[.val (.ref a0)] [])
  refine ogo (fun _ z_ => XS.aloadN X0.here hx rfl (hb hby d6_0) rfl rfl z_) ?_
  show OWay p e below G s₁ (mkF m 1 #[.val (.ref a0)] [(.ref a0)])
  obtain ⟨T1, X1, eT1, st1⟩ := getF X0 hx hZ hown (host := "") (Or.inl (hw _ (List.mem_of_getElem? (i := 16) rfl))) Via.refl eh0 hp0 (g := (mkF m 1 #[.val (.ref a0)] [(.ref a0)])) rfl rfl (hb hby d6_1)
  refine ogo st1 ?_
  show OWay p e below G T1 (mkF m 4 #[.val (.ref a0)] [(.int w)])
  subst hG
  refine wRet X1 hx hret hlk rfl (Or.inl ⟨rfl, Or.inl rfl, _, rfl⟩) (hb hby d6_4) (by decide) (by decide) eT1 ?_
  exact ⟨rfl, N0, rfl⟩
theorem d7_0 : decode prog_6_method_20_code 0 = .ok (.aload_n 0, 1) := by decide +kernel
theorem d7_1 : decode prog_6_method_20_code 1 = .ok (.getfield 25, 3) := by decide +kernel
theorem d7_4 : decode prog_6_method_20_code 4 = .ok (.lreturn, 1) := by decide +kernel
def get7_rm : Room := { frames := 0, cells := 0, slots := 0, locals := 0 }
def get7_Q (Z : State) (a0 : Addr) (w : Int64) (h0 : Heap) (n0 : Nat) (v : Option Value) (h : Heap) (L : List Loc) : Prop := (v = some (.long w)) ∧ (Fr n0 L) ∧ (h = h0)
theorem get7_ef (m : MethodId) (a0 : Addr) : entryFrame m #[(.ref a0)] 1 = mkF m 0 #[.val (.ref a0)] [] := by first | (simp [entryFrame, mkF, argsToLocals, Value.category]; done) | rfl
set_option maxRecDepth 65536 in
set_option maxHeartbeats 40000000 in
theorem get7_c (l : Launch) (Z : State) (az : Array Value) (hw : ∀ d ∈ tables_1, d.before az Z = true) (ws : List Jvm.Cond) (a0 : Addr) (w : Int64) (h0 : Heap) (n0 : Nat) (Z0 : n0 ≤ h0.size) (hp0 : Fld Z h0 a0 "com/example/sito/sito/Slice" "bitCount" "J" (.long w)) :
    OCon l (⟨"com/example/sito/sito/Slice", "getBitCount", "()J"⟩ : MethodName) prog_6_method_20_code 1 (some .long) ws get7_rm Z #[(.ref a0)] h0 (get7_Q Z a0 w h0 n0) := by
  refine ocon (plainFor_of_name pn_com_example_sito_sito_Slice) ?_
  intro p e s m below meth c s₁ hx hby hml hown hnm hret hlk hZ X0 eh0
  have N0 := Fr.nil n0
  have K0 := Keep.refl h0 []
  refine ogoE (get7_ef m a0) ?_
  generalize hG : (OEnd s below (get7_Q Z a0 w h0 n0) get7_rm.cells get7_rm.slots) = G
  show OWay p e below G s₁ (mkF m 0 #[.val (.ref a0)] [])
  refine ogo (fun _ z_ => XS.aloadN X0.here hx rfl (hb hby d7_0) rfl rfl z_) ?_
  show OWay p e below G s₁ (mkF m 1 #[.val (.ref a0)] [(.ref a0)])
  obtain ⟨T1, X1, eT1, st1⟩ := getF X0 hx hZ hown (host := "") (Or.inl (hw _ (List.mem_of_getElem? (i := 19) rfl))) Via.refl eh0 hp0 (g := (mkF m 1 #[.val (.ref a0)] [(.ref a0)])) rfl rfl (hb hby d7_1)
  refine ogo st1 ?_
  show OWay p e below G T1 (mkF m 4 #[.val (.ref a0)] [(.long w)])
  subst hG
  refine wRet X1 hx hret hlk rfl (Or.inr (Or.inl ⟨rfl, rfl, _, rfl⟩)) (hb hby d7_4) (by decide) (by decide) eT1 ?_
  exact ⟨rfl, N0, rfl⟩
theorem d9_0 : decode prog_6_method_22_code 0 = .ok (.aload_n 0, 1) := by decide +kernel
theorem d9_1 : decode prog_6_method_22_code 1 = .ok (.getfield 28, 3) := by decide +kernel
theorem d9_4 : decode prog_6_method_22_code 4 = .ok (.areturn, 1) := by decide +kernel
def get9_rm : Room := { frames := 0, cells := 0, slots := 0, locals := 0 }
def get9_Q (Z : State) (a0 : Addr) (w : Addr) (h0 : Heap) (n0 : Nat) (v : Option Value) (h : Heap) (L : List Loc) : Prop := (v = some (.ref w)) ∧ (Fr n0 L) ∧ (h = h0)
theorem get9_ef (m : MethodId) (a0 : Addr) : entryFrame m #[(.ref a0)] 1 = mkF m 0 #[.val (.ref a0)] [] := by first | (simp [entryFrame, mkF, argsToLocals, Value.category]; done) | rfl
set_option maxRecDepth 65536 in
set_option maxHeartbeats 40000000 in
theorem get9_c (l : Launch) (Z : State) (az : Array Value) (hw : ∀ d ∈ tables_1, d.before az Z = true) (ws : List Jvm.Cond) (a0 : Addr) (w : Addr) (h0 : Heap) (n0 : Nat) (Z0 : n0 ≤ h0.size) (hp0 : Fld Z h0 a0 "com/example/sito/sito/Slice" "words" "[J" (.ref w)) :
    OCon l (⟨"com/example/sito/sito/Slice", "getWords", "()[J"⟩ : MethodName) prog_6_method_22_code 1 (some (.array .long)) ws get9_rm Z #[(.ref a0)] h0 (get9_Q Z a0 w h0 n0) := by
  refine ocon (plainFor_of_name pn_com_example_sito_sito_Slice) ?_
  intro p e s m below meth c s₁ hx hby hml hown hnm hret hlk hZ X0 eh0
  have N0 := Fr.nil n0
  have K0 := Keep.refl h0 []
  refine ogoE (get9_ef m a0) ?_
  generalize hG : (OEnd s below (get9_Q Z a0 w h0 n0) get9_rm.cells get9_rm.slots) = G
  show OWay p e below G s₁ (mkF m 0 #[.val (.ref a0)] [])
  refine ogo (fun _ z_ => XS.aloadN X0.here hx rfl (hb hby d9_0) rfl rfl z_) ?_
  show OWay p e below G s₁ (mkF m 1 #[.val (.ref a0)] [(.ref a0)])
  obtain ⟨T1, X1, eT1, st1⟩ := getF X0 hx hZ hown (host := "") (Or.inl (hw _ (List.mem_of_getElem? (i := 21) rfl))) Via.refl eh0 hp0 (g := (mkF m 1 #[.val (.ref a0)] [(.ref a0)])) rfl rfl (hb hby d9_1)
  refine ogo st1 ?_
  show OWay p e below G T1 (mkF m 4 #[.val (.ref a0)] [(.ref w)])
  subst hG
  refine wRet X1 hx hret hlk rfl (Or.inr (Or.inr (Or.inr (Or.inr ⟨rfl, rfl, rfl⟩)))) (hb hby d9_4) (by decide) (by decide) eT1 ?_
  exact ⟨rfl, N0, rfl⟩
theorem d8_0 : decode prog_6_method_21_code 0 = .ok (.aload_n 0, 1) := by decide +kernel
theorem d8_1 : decode prog_6_method_21_code 1 = .ok (.getfield 32, 3) := by decide +kernel
theorem d8_4 : decode prog_6_method_21_code 4 = .ok (.lreturn, 1) := by decide +kernel
def get8_rm : Room := { frames := 0, cells := 0, slots := 0, locals := 0 }
def get8_Q (Z : State) (a0 : Addr) (w : Int64) (h0 : Heap) (n0 : Nat) (v : Option Value) (h : Heap) (L : List Loc) : Prop := (v = some (.long w)) ∧ (Fr n0 L) ∧ (h = h0)
theorem get8_ef (m : MethodId) (a0 : Addr) : entryFrame m #[(.ref a0)] 1 = mkF m 0 #[.val (.ref a0)] [] := by first | (simp [entryFrame, mkF, argsToLocals, Value.category]; done) | rfl
set_option maxRecDepth 65536 in
set_option maxHeartbeats 40000000 in
theorem get8_c (l : Launch) (Z : State) (az : Array Value) (hw : ∀ d ∈ tables_1, d.before az Z = true) (ws : List Jvm.Cond) (a0 : Addr) (w : Int64) (h0 : Heap) (n0 : Nat) (Z0 : n0 ≤ h0.size) (hp0 : Fld Z h0 a0 "com/example/sito/sito/Slice" "items" "J" (.long w)) :
    OCon l (⟨"com/example/sito/sito/Slice", "getItems", "()J"⟩ : MethodName) prog_6_method_21_code 1 (some .long) ws get8_rm Z #[(.ref a0)] h0 (get8_Q Z a0 w h0 n0) := by
  refine ocon (plainFor_of_name pn_com_example_sito_sito_Slice) ?_
  intro p e s m below meth c s₁ hx hby hml hown hnm hret hlk hZ X0 eh0
  have N0 := Fr.nil n0
  have K0 := Keep.refl h0 []
  refine ogoE (get8_ef m a0) ?_
  generalize hG : (OEnd s below (get8_Q Z a0 w h0 n0) get8_rm.cells get8_rm.slots) = G
  show OWay p e below G s₁ (mkF m 0 #[.val (.ref a0)] [])
  refine ogo (fun _ z_ => XS.aloadN X0.here hx rfl (hb hby d8_0) rfl rfl z_) ?_
  show OWay p e below G s₁ (mkF m 1 #[.val (.ref a0)] [(.ref a0)])
  obtain ⟨T1, X1, eT1, st1⟩ := getF X0 hx hZ hown (host := "") (Or.inl (hw _ (List.mem_of_getElem? (i := 23) rfl))) Via.refl eh0 hp0 (g := (mkF m 1 #[.val (.ref a0)] [(.ref a0)])) rfl rfl (hb hby d8_1)
  refine ogo st1 ?_
  show OWay p e below G T1 (mkF m 4 #[.val (.ref a0)] [(.long w)])
  subst hG
  refine wRet X1 hx hret hlk rfl (Or.inr (Or.inl ⟨rfl, rfl, _, rfl⟩)) (hb hby d8_4) (by decide) (by decide) eT1 ?_
  exact ⟨rfl, N0, rfl⟩
theorem pn_com_example_sito_sito_SliceCopyPinLaw : plainName "com/example/sito/sito/SliceCopyPinLaw" = true := by first | (simp [plainName, overriddenIn]; done) | decide +kernel
theorem d10_0 : decode method_2_code 0 = .ok (.iload_n 0, 1) := by decide +kernel
theorem d10_1 : decode method_2_code 1 = .ok (.ifCond .ne 5, 3) := by decide +kernel
theorem d10_4 : decode method_2_code 4 = .ok (.lload_n 1, 1) := by decide +kernel
theorem d10_5 : decode method_2_code 5 = .ok (.lreturn, 1) := by decide +kernel
def exp0_rm : Room := { frames := 0, cells := 0, slots := 0, locals := 0 }
def exp0_Q (Z : State) (q1 : Int64) (q2 : Int64) (h0 : Heap) (n0 : Nat) (v : Option Value) (h : Heap) (L : List Loc) : Prop := (v = some (.long q1)) ∧ (Fr n0 L) ∧ (h = h0)
theorem exp0_ef (m : MethodId) (q1 : Int64) (q2 : Int64) : entryFrame m #[(.int (0 : Int32)), (.long q1), (.long q2)] 5 = mkF m 0 #[.val (.int (0 : Int32)), .val (.long q1), .second, .val (.long q2), .second] [] := by first | (simp [entryFrame, mkF, argsToLocals, Value.category]; done) | rfl
set_option maxRecDepth 65536 in
set_option maxHeartbeats 40000000 in
theorem exp0_c (l : Launch) (Z : State) (az : Array Value) (hw : ∀ d ∈ tables_1, d.before az Z = true) (ws : List Jvm.Cond) (q1 : Int64) (q2 : Int64) (h0 : Heap) (n0 : Nat) (Z0 : n0 ≤ h0.size) :
    OCon l (⟨"com/example/sito/sito/SliceCopyPinLaw", "expected", "(IJJ)J"⟩ : MethodName) method_2_code 5 (some .long) ws exp0_rm Z #[(.int (0 : Int32)), (.long q1), (.long q2)] h0 (exp0_Q Z q1 q2 h0 n0) := by
  refine ocon (plainFor_of_name pn_com_example_sito_sito_SliceCopyPinLaw) ?_
  intro p e s m below meth c s₁ hx hby hml hown hnm hret hlk hZ X0 eh0
  have N0 := Fr.nil n0
  have K0 := Keep.refl h0 []
  refine ogoE (exp0_ef m q1 q2) ?_
  generalize hG : (OEnd s below (exp0_Q Z q1 q2 h0 n0) exp0_rm.cells exp0_rm.slots) = G
  show OWay p e below G s₁ (mkF m 0 #[.val (.int (0 : Int32)), .val (.long q1), .second, .val (.long q2), .second] [])
  refine ogo (fun _ z_ => XS.iloadN X0.here hx rfl (hb hby d10_0) rfl z_) ?_
  show OWay p e below G s₁ (mkF m 1 #[.val (.int (0 : Int32)), .val (.long q1), .second, .val (.long q2), .second] [(.int (0 : Int32))])
  refine ogo (fun _ z_ => XS.ifNo X0.here hx rfl (hb hby d10_1) rfl ((if0 _ _).trans (teq rfl).2) z_) ?_
  show OWay p e below G s₁ (mkF m 4 #[.val (.int (0 : Int32)), .val (.long q1), .second, .val (.long q2), .second] [])
  refine ogo (fun _ z_ => XS.lloadN X0.here hx rfl (hb hby d10_4) rfl z_) ?_
  show OWay p e below G s₁ (mkF m 5 #[.val (.int (0 : Int32)), .val (.long q1), .second, .val (.long q2), .second] [(.long q1)])
  subst hG
  refine wRet X0 hx hret hlk rfl (Or.inr (Or.inl ⟨rfl, rfl, _, rfl⟩)) (hb hby d10_5) (by decide) (by decide) eh0 ?_
  exact ⟨rfl, N0, rfl⟩
theorem d10_6 : decode method_2_code 6 = .ok (.iload_n 0, 1) := by decide +kernel
theorem d10_7 : decode method_2_code 7 = .ok (.iconst 1, 1) := by decide +kernel
theorem d10_8 : decode method_2_code 8 = .ok (.if_icmp .ne 5, 3) := by decide +kernel
theorem d10_11 : decode method_2_code 11 = .ok (.lload_n 3, 1) := by decide +kernel
theorem d10_12 : decode method_2_code 12 = .ok (.lreturn, 1) := by decide +kernel
def exp1_rm : Room := { frames := 0, cells := 0, slots := 0, locals := 0 }
def exp1_Q (Z : State) (q1 : Int64) (q2 : Int64) (h0 : Heap) (n0 : Nat) (v : Option Value) (h : Heap) (L : List Loc) : Prop := (v = some (.long q2)) ∧ (Fr n0 L) ∧ (h = h0)
theorem exp1_ef (m : MethodId) (q1 : Int64) (q2 : Int64) : entryFrame m #[(.int (1 : Int32)), (.long q1), (.long q2)] 5 = mkF m 0 #[.val (.int (1 : Int32)), .val (.long q1), .second, .val (.long q2), .second] [] := by first | (simp [entryFrame, mkF, argsToLocals, Value.category]; done) | rfl
set_option maxRecDepth 65536 in
set_option maxHeartbeats 40000000 in
theorem exp1_c (l : Launch) (Z : State) (az : Array Value) (hw : ∀ d ∈ tables_1, d.before az Z = true) (ws : List Jvm.Cond) (q1 : Int64) (q2 : Int64) (h0 : Heap) (n0 : Nat) (Z0 : n0 ≤ h0.size) :
    OCon l (⟨"com/example/sito/sito/SliceCopyPinLaw", "expected", "(IJJ)J"⟩ : MethodName) method_2_code 5 (some .long) ws exp1_rm Z #[(.int (1 : Int32)), (.long q1), (.long q2)] h0 (exp1_Q Z q1 q2 h0 n0) := by
  refine ocon (plainFor_of_name pn_com_example_sito_sito_SliceCopyPinLaw) ?_
  intro p e s m below meth c s₁ hx hby hml hown hnm hret hlk hZ X0 eh0
  have N0 := Fr.nil n0
  have K0 := Keep.refl h0 []
  refine ogoE (exp1_ef m q1 q2) ?_
  generalize hG : (OEnd s below (exp1_Q Z q1 q2 h0 n0) exp1_rm.cells exp1_rm.slots) = G
  show OWay p e below G s₁ (mkF m 0 #[.val (.int (1 : Int32)), .val (.long q1), .second, .val (.long q2), .second] [])
  refine ogo (fun _ z_ => XS.iloadN X0.here hx rfl (hb hby d10_0) rfl z_) ?_
  show OWay p e below G s₁ (mkF m 1 #[.val (.int (1 : Int32)), .val (.long q1), .second, .val (.long q2), .second] [(.int (1 : Int32))])
  refine ogo (fun _ z_ => XS.ifYes X0.here hx rfl (pc0 := 1) (pc' := 6) rfl (hb hby d10_1) rfl ((if0 _ _).trans (feq (by decide)).2) (by decide) (by decide) z_) ?_
  show OWay p e below G s₁ (mkF m 6 #[.val (.int (1 : Int32)), .val (.long q1), .second, .val (.long q2), .second] [])
  refine ogo (fun _ z_ => XS.iloadN X0.here hx rfl (hb hby d10_6) rfl z_) ?_
  show OWay p e below G s₁ (mkF m 7 #[.val (.int (1 : Int32)), .val (.long q1), .second, .val (.long q2), .second] [(.int (1 : Int32))])
  refine ogo (fun _ z_ => XS.iconst X0.here hx rfl (hb hby d10_7) z_) ?_
  show OWay p e below G s₁ (mkF m 8 #[.val (.int (1 : Int32)), .val (.long q1), .second, .val (.long q2), .second] [(.int (1 : Int32)), (.int (1 : Int32))])
  refine ogo (fun _ z_ => XS.icmpNo X0.here hx rfl (hb hby d10_8) rfl (teq rfl).2 z_) ?_
  show OWay p e below G s₁ (mkF m 11 #[.val (.int (1 : Int32)), .val (.long q1), .second, .val (.long q2), .second] [])
  refine ogo (fun _ z_ => XS.lloadN X0.here hx rfl (hb hby d10_11) rfl z_) ?_
  show OWay p e below G s₁ (mkF m 12 #[.val (.int (1 : Int32)), .val (.long q1), .second, .val (.long q2), .second] [(.long q2)])
  subst hG
  refine wRet X0 hx hret hlk rfl (Or.inr (Or.inl ⟨rfl, rfl, _, rfl⟩)) (hb hby d10_12) (by decide) (by decide) eh0 ?_
  exact ⟨rfl, N0, rfl⟩
theorem d10_13 : decode method_2_code 13 = .ok (.lload_n 1, 1) := by decide +kernel
theorem d10_14 : decode method_2_code 14 = .ok (.lload_n 3, 1) := by decide +kernel
theorem d10_15 : decode method_2_code 15 = .ok (.ldc2_w 7, 3) := by decide +kernel
theorem d10_18 : decode method_2_code 18 = .ok (.lxor, 1) := by decide +kernel
theorem d10_19 : decode method_2_code 19 = .ok (.lxor, 1) := by decide +kernel
theorem d10_20 : decode method_2_code 20 = .ok (.lreturn, 1) := by decide +kernel
def exp2_rm : Room := { frames := 0, cells := 0, slots := 0, locals := 0 }
def exp2_Q (Z : State) (q1 : Int64) (q2 : Int64) (h0 : Heap) (n0 : Nat) (v : Option Value) (h : Heap) (L : List Loc) : Prop := (v = some (.long (q1 ^^^ (q2 ^^^ (-1 : Int64))))) ∧ (Fr n0 L) ∧ (h = h0)
theorem exp2_ef (m : MethodId) (q1 : Int64) (q2 : Int64) : entryFrame m #[(.int (2 : Int32)), (.long q1), (.long q2)] 5 = mkF m 0 #[.val (.int (2 : Int32)), .val (.long q1), .second, .val (.long q2), .second] [] := by first | (simp [entryFrame, mkF, argsToLocals, Value.category]; done) | rfl
set_option maxRecDepth 65536 in
set_option maxHeartbeats 40000000 in
theorem exp2_c (l : Launch) (Z : State) (az : Array Value) (hw : ∀ d ∈ tables_1, d.before az Z = true) (ws : List Jvm.Cond) (q1 : Int64) (q2 : Int64) (h0 : Heap) (n0 : Nat) (Z0 : n0 ≤ h0.size) :
    OCon l (⟨"com/example/sito/sito/SliceCopyPinLaw", "expected", "(IJJ)J"⟩ : MethodName) method_2_code 5 (some .long) ws exp2_rm Z #[(.int (2 : Int32)), (.long q1), (.long q2)] h0 (exp2_Q Z q1 q2 h0 n0) := by
  refine ocon (plainFor_of_name pn_com_example_sito_sito_SliceCopyPinLaw) ?_
  intro p e s m below meth c s₁ hx hby hml hown hnm hret hlk hZ X0 eh0
  have N0 := Fr.nil n0
  have K0 := Keep.refl h0 []
  refine ogoE (exp2_ef m q1 q2) ?_
  generalize hG : (OEnd s below (exp2_Q Z q1 q2 h0 n0) exp2_rm.cells exp2_rm.slots) = G
  show OWay p e below G s₁ (mkF m 0 #[.val (.int (2 : Int32)), .val (.long q1), .second, .val (.long q2), .second] [])
  refine ogo (fun _ z_ => XS.iloadN X0.here hx rfl (hb hby d10_0) rfl z_) ?_
  show OWay p e below G s₁ (mkF m 1 #[.val (.int (2 : Int32)), .val (.long q1), .second, .val (.long q2), .second] [(.int (2 : Int32))])
  refine ogo (fun _ z_ => XS.ifYes X0.here hx rfl (pc0 := 1) (pc' := 6) rfl (hb hby d10_1) rfl ((if0 _ _).trans (feq (by decide)).2) (by decide) (by decide) z_) ?_
  show OWay p e below G s₁ (mkF m 6 #[.val (.int (2 : Int32)), .val (.long q1), .second, .val (.long q2), .second] [])
  refine ogo (fun _ z_ => XS.iloadN X0.here hx rfl (hb hby d10_6) rfl z_) ?_
  show OWay p e below G s₁ (mkF m 7 #[.val (.int (2 : Int32)), .val (.long q1), .second, .val (.long q2), .second] [(.int (2 : Int32))])
  refine ogo (fun _ z_ => XS.iconst X0.here hx rfl (hb hby d10_7) z_) ?_
  show OWay p e below G s₁ (mkF m 8 #[.val (.int (2 : Int32)), .val (.long q1), .second, .val (.long q2), .second] [(.int (1 : Int32)), (.int (2 : Int32))])
  refine ogo (fun _ z_ => XS.icmpYes X0.here hx rfl (pc0 := 8) (pc' := 13) rfl (hb hby d10_8) rfl (feq (by decide)).2 (by decide) (by decide) z_) ?_
  show OWay p e below G s₁ (mkF m 13 #[.val (.int (2 : Int32)), .val (.long q1), .second, .val (.long q2), .second] [])
  refine ogo (fun _ z_ => XS.lloadN X0.here hx rfl (hb hby d10_13) rfl z_) ?_
  show OWay p e below G s₁ (mkF m 14 #[.val (.int (2 : Int32)), .val (.long q1), .second, .val (.long q2), .second] [(.long q1)])
  refine ogo (fun _ z_ => XS.lloadN X0.here hx rfl (hb hby d10_14) rfl z_) ?_
  show OWay p e below G s₁ (mkF m 15 #[.val (.int (2 : Int32)), .val (.long q1), .second, .val (.long q2), .second] [(.long q2), (.long q1)])
  refine ogo (fun _ z_ => X0.ldc2Long hx hown (mvT hZ (hw _ (List.mem_of_getElem? (i := 76) rfl))) (g := (mkF m 15 #[.val (.int (2 : Int32)), .val (.long q1), .second, .val (.long q2), .second] [(.long q2), (.long q1)])) rfl (hb hby d10_15) _ z_) ?_
  show OWay p e below G s₁ (mkF m 18 #[.val (.int (2 : Int32)), .val (.long q1), .second, .val (.long q2), .second] [(.long (-1 : Int64)), (.long q2), (.long q1)])
  refine ogo (fun _ z_ => XS.lxor X0.here hx rfl (hb hby d10_18) rfl z_) ?_
  show OWay p e below G s₁ (mkF m 19 #[.val (.int (2 : Int32)), .val (.long q1), .second, .val (.long q2), .second] [(.long (q2 ^^^ (-1 : Int64))), (.long q1)])
  refine ogo (fun _ z_ => XS.lxor X0.here hx rfl (hb hby d10_19) rfl z_) ?_
  show OWay p e below G s₁ (mkF m 20 #[.val (.int (2 : Int32)), .val (.long q1), .second, .val (.long q2), .second] [(.long (q1 ^^^ (q2 ^^^ (-1 : Int64))))])
  subst hG
  refine wRet X0 hx hret hlk rfl (Or.inr (Or.inl ⟨rfl, rfl, _, rfl⟩)) (hb hby d10_20) (by decide) (by decide) eh0 ?_
  exact ⟨rfl, N0, rfl⟩
theorem d1_0 : decode prog_6_method_1_code 0 = .ok (.aload_n 0, 1) := by decide +kernel
theorem d1_1 : decode prog_6_method_1_code 1 = .ok (.invokespecial 5, 3) := by decide +kernel
theorem d1_4 : decode prog_6_method_1_code 4 = .ok (.aload_n 0, 1) := by decide +kernel
theorem d1_5 : decode prog_6_method_1_code 5 = .ok (.lload_n 1, 1) := by decide +kernel
theorem d1_6 : decode prog_6_method_1_code 6 = .ok (.putfield 11, 3) := by decide +kernel
theorem d1_9 : decode prog_6_method_1_code 9 = .ok (.aload_n 0, 1) := by decide +kernel
theorem d1_10 : decode prog_6_method_1_code 10 = .ok (.dload_n 3, 1) := by decide +kernel
theorem d1_11 : decode prog_6_method_1_code 11 = .ok (.putfield 15, 3) := by decide +kernel
theorem d1_14 : decode prog_6_method_1_code 14 = .ok (.aload_n 0, 1) := by decide +kernel
theorem d1_15 : decode prog_6_method_1_code 15 = .ok (.iload 5, 2) := by decide +kernel
theorem d1_17 : decode prog_6_method_1_code 17 = .ok (.putfield 19, 3) := by decide +kernel
theorem d1_20 : decode prog_6_method_1_code 20 = .ok (.aload_n 0, 1) := by decide +kernel
theorem d1_21 : decode prog_6_method_1_code 21 = .ok (.ldc2_w 23, 3) := by decide +kernel
theorem d1_24 : decode prog_6_method_1_code 24 = .ok (.aload 6, 2) := by decide +kernel
theorem d1_26 : decode prog_6_method_1_code 26 = .ok (.arraylength, 1) := by decide +kernel
theorem d1_27 : decode prog_6_method_1_code 27 = .ok (.i2l, 1) := by decide +kernel
theorem d1_28 : decode prog_6_method_1_code 28 = .ok (.lmul, 1) := by decide +kernel
theorem d1_29 : decode prog_6_method_1_code 29 = .ok (.putfield 25, 3) := by decide +kernel
theorem d1_32 : decode prog_6_method_1_code 32 = .ok (.aload_n 0, 1) := by decide +kernel
theorem d1_33 : decode prog_6_method_1_code 33 = .ok (.aload 6, 2) := by decide +kernel
theorem d1_35 : decode prog_6_method_1_code 35 = .ok (.putfield 28, 3) := by decide +kernel
theorem d1_38 : decode prog_6_method_1_code 38 = .ok (.aload_n 0, 1) := by decide +kernel
theorem d1_39 : decode prog_6_method_1_code 39 = .ok (.lload 7, 2) := by decide +kernel
theorem d1_41 : decode prog_6_method_1_code 41 = .ok (.putfield 32, 3) := by decide +kernel
theorem d1_44 : decode prog_6_method_1_code 44 = .ok (.return_, 1) := by decide +kernel
def ctor_0_rm : Room := { frames := 1, cells := 0, slots := 0, locals := 12 }
def ctor_0_Q (Z : State) (a0 : Addr) (q1 : Int64) (d2 : UInt64) (p3 : Int32) (a4 : Addr) (q5 : Int64) (kk : ClassId) (h0 : Heap) (n0 : Nat) (v : Option Value) (h : Heap) (L : List Loc) : Prop := (v = none) ∧ (Fr n0 L) ∧ (Keep h0 h [a0]) ∧ (Fld Z h a0 "com/example/sito/sito/Slice" "capacity" "J" (.long q1)) ∧ (Fld Z h a0 "com/example/sito/sito/Slice" "bound" "D" (.double d2)) ∧ (Fld Z h a0 "com/example/sito/sito/Slice" "hashCount" "I" (.int p3)) ∧ (Fld Z h a0 "com/example/sito/sito/Slice" "bitCount" "J" (.long (0 : Int64))) ∧ (Fld Z h a0 "com/example/sito/sito/Slice" "words" "[J" (.ref a4)) ∧ (Fld Z h a0 "com/example/sito/sito/Slice" "items" "J" (.long q5))
theorem ctor_0_ef (m : MethodId) (a0 : Addr) (q1 : Int64) (d2 : UInt64) (p3 : Int32) (a4 : Addr) (q5 : Int64) : entryFrame m #[(.ref a0), (.long q1), (.double d2), (.int p3), (.ref a4), (.long q5)] 9 = mkF m 0 #[.val (.ref a0), .val (.long q1), .second, .val (.double d2), .second, .val (.int p3), .val (.ref a4), .val (.long q5), .second] [] := by first | (simp [entryFrame, mkF, argsToLocals, Value.category]; done) | rfl
set_option maxRecDepth 65536 in
set_option maxHeartbeats 40000000 in
theorem ctor_0_c (l : Launch) (Z : State) (az : Array Value) (hw : ∀ d ∈ tables_1, d.before az Z = true) (ws : List Jvm.Cond) (a0 : Addr) (q1 : Int64) (d2 : UInt64) (p3 : Int32) (a4 : Addr) (q5 : Int64) (kk : ClassId) (h0 : Heap) (n0 : Nat) (Z0 : n0 ≤ h0.size) (hp0 : Arv Z h0 a4 kk .long (0 : Int32) [] (.long (0 : Int64))) (hp1 : a4 ≠ a0) (hp2 : Exa Z h0 a0 "com/example/sito/sito/Slice") (hp3 : n0 ≤ a0) (hp4 : Fld Z h0 a0 "com/example/sito/sito/Slice" "capacity" "J" (.long (0 : Int64))) (hp5 : Fld Z h0 a0 "com/example/sito/sito/Slice" "bound" "D" (.double (0 : UInt64))) (hp6 : Fld Z h0 a0 "com/example/sito/sito/Slice" "hashCount" "I" (.int (0 : Int32))) (hp7 : Fld Z h0 a0 "com/example/sito/sito/Slice" "bitCount" "J" (.long (0 : Int64))) (hp8 : Fld Z h0 a0 "com/example/sito/sito/Slice" "words" "[J" .null) (hp9 : Fld Z h0 a0 "com/example/sito/sito/Slice" "items" "J" (.long (0 : Int64))) :
    OCon l (⟨"com/example/sito/sito/Slice", "<init>", "(JDI[JJ)V"⟩ : MethodName) prog_6_method_1_code 9 none ws ctor_0_rm Z #[(.ref a0), (.long q1), (.double d2), (.int p3), (.ref a4), (.long q5)] h0 (ctor_0_Q Z a0 q1 d2 p3 a4 q5 kk h0 n0) := by
  refine ocon (plainFor_of_name pn_com_example_sito_sito_Slice) ?_
  intro p e s m below meth c s₁ hx hby hml hown hnm hret hlk hZ X0 eh0
  have N0 := Fr.nil n0
  have K0 := Keep.refl h0 [a0]
  refine ogoE (ctor_0_ef m a0 q1 d2 p3 a4 q5) ?_
  have g_a0 := hp3
  generalize hG : (OEnd s below (ctor_0_Q Z a0 q1 d2 p3 a4 q5 kk h0 n0) ctor_0_rm.cells ctor_0_rm.slots) = G
  show OWay p e below G s₁ (mkF m 0 #[.val (.ref a0), .val (.long q1), .second, .val (.double d2), .second, .val (.int p3), .val (.ref a4), .val (.long q5), .second] [])
  refine ogo (fun _ z_ => XS.aloadN X0.here hx rfl (hb hby d1_0) rfl rfl z_) ?_
  show OWay p e below G s₁ (mkF m 1 #[.val (.ref a0), .val (.long q1), .second, .val (.double d2), .second, .val (.int p3), .val (.ref a4), .val (.long q5), .second] [(.ref a0)])
  obtain ⟨T1, X1, eT1, st1⟩ := initO X0 hx hZ hown (hw _ (List.mem_of_getElem? (i := 9) rfl)) (hw _ (List.mem_of_getElem? (i := 10) rfl)) (hw _ (List.mem_of_getElem? (i := 11) rfl)) eh0 (g := (mkF m 1 #[.val (.ref a0), .val (.long q1), .second, .val (.double d2), .second, .val (.int p3), .val (.ref a4), .val (.long q5), .second] [(.ref a0)])) rfl (by rw [hml]; rfl) rfl (hb hby d1_1) (by decide) (W := 0) (by show 2 * 0 + _ ≤ _; exact Nat.le_of_eq rfl) (by decide)
  refine ogo st1 ?_
  show OWay p e below G T1 (mkF m 4 #[.val (.ref a0), .val (.long q1), .second, .val (.double d2), .second, .val (.int p3), .val (.ref a4), .val (.long q5), .second] [])
  refine ogo (fun _ z_ => XS.aloadN X1.here hx rfl (hb hby d1_4) rfl rfl z_) ?_
  show OWay p e below G T1 (mkF m 5 #[.val (.ref a0), .val (.long q1), .second, .val (.double d2), .second, .val (.int p3), .val (.ref a4), .val (.long q5), .second] [(.ref a0)])
  refine ogo (fun _ z_ => XS.lloadN X1.here hx rfl (hb hby d1_5) rfl z_) ?_
  show OWay p e below G T1 (mkF m 6 #[.val (.ref a0), .val (.long q1), .second, .val (.double d2), .second, .val (.int p3), .val (.ref a4), .val (.long q5), .second] [(.long q1), (.ref a0)])
  obtain ⟨T2, h2, X2, eT2, W2, st2⟩ := putF X1 hx hZ hown (host := "") (Or.inl (hw _ (List.mem_of_getElem? (i := 12) rfl))) Via.refl eT1 hp4 hp2 (Or.inr ⟨(hw _ (List.mem_of_getElem? (i := 13) rfl)), rfl, hnm⟩) (hw _ (List.mem_of_getElem? (i := 4) rfl)) (ty := .long) (by decide) rfl rfl (g := (mkF m 6 #[.val (.ref a0), .val (.long q1), .second, .val (.double d2), .second, .val (.int p3), .val (.ref a4), .val (.long q5), .second] [(.long q1), (.ref a0)])) rfl rfl (hb hby d1_6)
  have K3 : Keep h0 h2 [a0] := K0.wr W2 (Or.inl (List.mem_of_getElem? (i := 0) rfl))
  have Fw2 : Fld Z h2 a0 "com/example/sito/sito/Slice" "capacity" "J" (.long q1) := hp4.same W2
  have N2 := Fr.snoc X2 N0 g_a0
  refine ogo st2 ?_
  show OWay p e below G T2 (mkF m 9 #[.val (.ref a0), .val (.long q1), .second, .val (.double d2), .second, .val (.int p3), .val (.ref a4), .val (.long q5), .second] [])
  refine ogo (fun _ z_ => XS.aloadN X2.here hx rfl (hb hby d1_9) rfl rfl z_) ?_
  show OWay p e below G T2 (mkF m 10 #[.val (.ref a0), .val (.long q1), .second, .val (.double d2), .second, .val (.int p3), .val (.ref a4), .val (.long q5), .second] [(.ref a0)])
  refine ogo (fun _ z_ => XS.dloadN X2.here hx rfl (hb hby d1_10) rfl z_) ?_
  show OWay p e below G T2 (mkF m 11 #[.val (.ref a0), .val (.long q1), .second, .val (.double d2), .second, .val (.int p3), .val (.ref a4), .val (.long q5), .second] [(.double d2), (.ref a0)])
  have F4 : Exa Z h2 a0 "com/example/sito/sito/Slice" := (hp2.wr W2)
  have F5 : Fld Z h2 a0 "com/example/sito/sito/Slice" "bound" "D" (.double (0 : UInt64)) := (hp5.other W2 (Or.inr (slot_ne (Or.inr (hw _ (List.mem_of_getElem? (i := 15) rfl))) (Or.inr (hw _ (List.mem_of_getElem? (i := 13) rfl))) (by decide) (t := .double) (t' := .long) (by decide) (by decide))))
  obtain ⟨T6, h6, X6, eT6, W6, st6⟩ := putF X2 hx hZ hown (host := "") (Or.inl (hw _ (List.mem_of_getElem? (i := 14) rfl))) Via.refl eT2 F5 F4 (Or.inr ⟨(hw _ (List.mem_of_getElem? (i := 15) rfl)), rfl, hnm⟩) (hw _ (List.mem_of_getElem? (i := 4) rfl)) (ty := .double) (by decide) rfl rfl (g := (mkF m 11 #[.val (.ref a0), .val (.long q1), .second, .val (.double d2), .second, .val (.int p3), .val (.ref a4), .val (.long q5), .second] [(.double d2), (.ref a0)])) rfl rfl (hb hby d1_11)
  have K7 : Keep h0 h6 [a0] := K3.wr W6 (Or.inl (List.mem_of_getElem? (i := 0) rfl))
  have Fw6 : Fld Z h6 a0 "com/example/sito/sito/Slice" "bound" "D" (.double d2) := F5.same W6
  have N6 := Fr.snoc X6 N2 g_a0
  refine ogo st6 ?_
  show OWay p e below G T6 (mkF m 14 #[.val (.ref a0), .val (.long q1), .second, .val (.double d2), .second, .val (.int p3), .val (.ref a4), .val (.long q5), .second] [])
  refine ogo (fun _ z_ => XS.aloadN X6.here hx rfl (hb hby d1_14) rfl rfl z_) ?_
  show OWay p e below G T6 (mkF m 15 #[.val (.ref a0), .val (.long q1), .second, .val (.double d2), .second, .val (.int p3), .val (.ref a4), .val (.long q5), .second] [(.ref a0)])
  refine ogo (fun _ z_ => XS.iload X6.here hx rfl (hb hby d1_15) rfl z_) ?_
  show OWay p e below G T6 (mkF m 17 #[.val (.ref a0), .val (.long q1), .second, .val (.double d2), .second, .val (.int p3), .val (.ref a4), .val (.long q5), .second] [(.int p3), (.ref a0)])
  have F8 : Exa Z h6 a0 "com/example/sito/sito/Slice" := (F4.wr W6)
  have F9 : Fld Z h6 a0 "com/example/sito/sito/Slice" "hashCount" "I" (.int (0 : Int32)) := ((hp6.other W2 (Or.inr (slot_ne (Or.inr (hw _ (List.mem_of_getElem? (i := 17) rfl))) (Or.inr (hw _ (List.mem_of_getElem? (i := 13) rfl))) (by decide) (t := .int) (t' := .long) (by decide) (by decide)))).other W6 (Or.inr (slot_ne (Or.inr (hw _ (List.mem_of_getElem? (i := 17) rfl))) (Or.inr (hw _ (List.mem_of_getElem? (i := 15) rfl))) (by decide) (t := .int) (t' := .double) (by decide) (by decide))))
  obtain ⟨T10, h10, X10, eT10, W10, st10⟩ := putF X6 hx hZ hown (host := "") (Or.inl (hw _ (List.mem_of_getElem? (i := 16) rfl))) Via.refl eT6 F9 F8 (Or.inr ⟨(hw _ (List.mem_of_getElem? (i := 17) rfl)), rfl, hnm⟩) (hw _ (List.mem_of_getElem? (i := 4) rfl)) (ty := .int) (by decide) rfl rfl (g := (mkF m 17 #[.val (.ref a0), .val (.long q1), .second, .val (.double d2), .second, .val (.int p3), .val (.ref a4), .val (.long q5), .second] [(.int p3), (.ref a0)])) rfl rfl (hb hby d1_17)
  have K11 : Keep h0 h10 [a0] := K7.wr W10 (Or.inl (List.mem_of_getElem? (i := 0) rfl))
  have Fw10 : Fld Z h10 a0 "com/example/sito/sito/Slice" "hashCount" "I" (.int p3) := F9.same W10
  have N10 := Fr.snoc X10 N6 g_a0
  refine ogo st10 ?_
  show OWay p e below G T10 (mkF m 20 #[.val (.ref a0), .val (.long q1), .second, .val (.double d2), .second, .val (.int p3), .val (.ref a4), .val (.long q5), .second] [])
  refine ogo (fun _ z_ => XS.aloadN X10.here hx rfl (hb hby d1_20) rfl rfl z_) ?_
  show OWay p e below G T10 (mkF m 21 #[.val (.ref a0), .val (.long q1), .second, .val (.double d2), .second, .val (.int p3), .val (.ref a4), .val (.long q5), .second] [(.ref a0)])
  refine ogo (fun _ z_ => X10.ldc2Long hx hown (mvT hZ (hw _ (List.mem_of_getElem? (i := 18) rfl))) (g := (mkF m 21 #[.val (.ref a0), .val (.long q1), .second, .val (.double d2), .second, .val (.int p3), .val (.ref a4), .val (.long q5), .second] [(.ref a0)])) rfl (hb hby d1_21) _ z_) ?_
  show OWay p e below G T10 (mkF m 24 #[.val (.ref a0), .val (.long q1), .second, .val (.double d2), .second, .val (.int p3), .val (.ref a4), .val (.long q5), .second] [(.long (64 : Int64)), (.ref a0)])
  refine ogo (fun _ z_ => XS.aload X10.here hx rfl (hb hby d1_24) rfl rfl z_) ?_
  show OWay p e below G T10 (mkF m 26 #[.val (.ref a0), .val (.long q1), .second, .val (.double d2), .second, .val (.int p3), .val (.ref a4), .val (.long q5), .second] [(.ref a4), (.long (64 : Int64)), (.ref a0)])
  have F12 : Arv Z h10 a4 kk .long (0 : Int32) [] (.long (0 : Int64)) := (((hp0.other W2 hp1).other W6 hp1).other W10 hp1)
  obtain ⟨cl_o13, Ar_o13, -, S_o13, N_o13, -, -⟩ := id F12
  refine ogo (fun _ z_ => X10.arraylength hx (by rw [eT10]; exact Ar_o13.1) (State.isArrayOf_alike hZ.alike Ar_o13.2.1) (g := (mkF m 26 #[.val (.ref a0), .val (.long q1), .second, .val (.double d2), .second, .val (.int p3), .val (.ref a4), .val (.long q5), .second] [(.ref a4), (.long (64 : Int64)), (.ref a0)])) rfl rfl (hb hby d1_26) _ z_) ?_
  rw [len_of S_o13 N_o13]
  show OWay p e below G T10 (mkF m 27 #[.val (.ref a0), .val (.long q1), .second, .val (.double d2), .second, .val (.int p3), .val (.ref a4), .val (.long q5), .second] [(.int (0 : Int32)), (.long (64 : Int64)), (.ref a0)])
  refine ogo (fun _ z_ => XS.i2l X10.here hx rfl (hb hby d1_27) rfl z_) ?_
  show OWay p e below G T10 (mkF m 28 #[.val (.ref a0), .val (.long q1), .second, .val (.double d2), .second, .val (.int p3), .val (.ref a4), .val (.long q5), .second] [(.long ((0 : Int32).toInt64)), (.long (64 : Int64)), (.ref a0)])
  refine ogoE (g' := (mkF m 28 #[.val (.ref a0), .val (.long q1), .second, .val (.double d2), .second, .val (.int p3), .val (.ref a4), .val (.long q5), .second] [(.long (0 : Int64)), (.long (64 : Int64)), (.ref a0)])) (by rw [show ((0 : Int32).toInt64) = (0 : Int64) from by decide]) ?_
  refine ogo (fun _ z_ => XS.lmul X10.here hx rfl (hb hby d1_28) rfl z_) ?_
  show OWay p e below G T10 (mkF m 29 #[.val (.ref a0), .val (.long q1), .second, .val (.double d2), .second, .val (.int p3), .val (.ref a4), .val (.long q5), .second] [(.long ((64 : Int64) * (0 : Int64))), (.ref a0)])
  refine ogoE (g' := (mkF m 29 #[.val (.ref a0), .val (.long q1), .second, .val (.double d2), .second, .val (.int p3), .val (.ref a4), .val (.long q5), .second] [(.long (0 : Int64)), (.ref a0)])) (by rw [show ((64 : Int64) * (0 : Int64)) = (0 : Int64) from by decide]) ?_
  have F14 : Exa Z h10 a0 "com/example/sito/sito/Slice" := (F8.wr W10)
  have F15 : Fld Z h10 a0 "com/example/sito/sito/Slice" "bitCount" "J" (.long (0 : Int64)) := (((hp7.other W2 (Or.inr (slot_ne (Or.inr (hw _ (List.mem_of_getElem? (i := 20) rfl))) (Or.inr (hw _ (List.mem_of_getElem? (i := 13) rfl))) (by decide) (t := .long) (t' := .long) (by decide) (by decide)))).other W6 (Or.inr (slot_ne (Or.inr (hw _ (List.mem_of_getElem? (i := 20) rfl))) (Or.inr (hw _ (List.mem_of_getElem? (i := 15) rfl))) (by decide) (t := .long) (t' := .double) (by decide) (by decide)))).other W10 (Or.inr (slot_ne (Or.inr (hw _ (List.mem_of_getElem? (i := 20) rfl))) (Or.inr (hw _ (List.mem_of_getElem? (i := 17) rfl))) (by decide) (t := .long) (t' := .int) (by decide) (by decide))))
  obtain ⟨T16, h16, X16, eT16, W16, st16⟩ := putF X10 hx hZ hown (host := "") (Or.inl (hw _ (List.mem_of_getElem? (i := 19) rfl))) Via.refl eT10 F15 F14 (Or.inr ⟨(hw _ (List.mem_of_getElem? (i := 20) rfl)), rfl, hnm⟩) (hw _ (List.mem_of_getElem? (i := 4) rfl)) (ty := .long) (by decide) rfl rfl (g := (mkF m 29 #[.val (.ref a0), .val (.long q1), .second, .val (.double d2), .second, .val (.int p3), .val (.ref a4), .val (.long q5), .second] [(.long (0 : Int64)), (.ref a0)])) rfl rfl (hb hby d1_29)
  have K17 : Keep h0 h16 [a0] := K11.wr W16 (Or.inl (List.mem_of_getElem? (i := 0) rfl))
  have Fw16 : Fld Z h16 a0 "com/example/sito/sito/Slice" "bitCount" "J" (.long (0 : Int64)) := F15.same W16
  have N16 := Fr.snoc X16 N10 g_a0
  refine ogo st16 ?_
  show OWay p e below G T16 (mkF m 32 #[.val (.ref a0), .val (.long q1), .second, .val (.double d2), .second, .val (.int p3), .val (.ref a4), .val (.long q5), .second] [])
  refine ogo (fun _ z_ => XS.aloadN X16.here hx rfl (hb hby d1_32) rfl rfl z_) ?_
  show OWay p e below G T16 (mkF m 33 #[.val (.ref a0), .val (.long q1), .second, .val (.double d2), .second, .val (.int p3), .val (.ref a4), .val (.long q5), .second] [(.ref a0)])
  refine ogo (fun _ z_ => XS.aload X16.here hx rfl (hb hby d1_33) rfl rfl z_) ?_
  show OWay p e below G T16 (mkF m 35 #[.val (.ref a0), .val (.long q1), .second, .val (.double d2), .second, .val (.int p3), .val (.ref a4), .val (.long q5), .second] [(.ref a4), (.ref a0)])
  have F18 : Exa Z h16 a0 "com/example/sito/sito/Slice" := (F14.wr W16)
  have F19 : Fld Z h16 a0 "com/example/sito/sito/Slice" "words" "[J" .null := ((((hp8.other W2 (Or.inr (slot_ne (Or.inr (hw _ (List.mem_of_getElem? (i := 22) rfl))) (Or.inr (hw _ (List.mem_of_getElem? (i := 13) rfl))) (by decide) (t := (.array .long)) (t' := .long) (by decide) (by decide)))).other W6 (Or.inr (slot_ne (Or.inr (hw _ (List.mem_of_getElem? (i := 22) rfl))) (Or.inr (hw _ (List.mem_of_getElem? (i := 15) rfl))) (by decide) (t := (.array .long)) (t' := .double) (by decide) (by decide)))).other W10 (Or.inr (slot_ne (Or.inr (hw _ (List.mem_of_getElem? (i := 22) rfl))) (Or.inr (hw _ (List.mem_of_getElem? (i := 17) rfl))) (by decide) (t := (.array .long)) (t' := .int) (by decide) (by decide)))).other W16 (Or.inr (slot_ne (Or.inr (hw _ (List.mem_of_getElem? (i := 22) rfl))) (Or.inr (hw _ (List.mem_of_getElem? (i := 20) rfl))) (by decide) (t := (.array .long)) (t' := .long) (by decide) (by decide))))
  obtain ⟨T20, h20, X20, eT20, W20, st20⟩ := putF X16 hx hZ hown (host := "") (Or.inl (hw _ (List.mem_of_getElem? (i := 21) rfl))) Via.refl eT16 F19 F18 (Or.inr ⟨(hw _ (List.mem_of_getElem? (i := 22) rfl)), rfl, hnm⟩) (hw _ (List.mem_of_getElem? (i := 4) rfl)) (ty := (.array .long)) (by decide) rfl rfl (g := (mkF m 35 #[.val (.ref a0), .val (.long q1), .second, .val (.double d2), .second, .val (.int p3), .val (.ref a4), .val (.long q5), .second] [(.ref a4), (.ref a0)])) rfl rfl (hb hby d1_35)
  have K21 : Keep h0 h20 [a0] := K17.wr W20 (Or.inl (List.mem_of_getElem? (i := 0) rfl))
  have Fw20 : Fld Z h20 a0 "com/example/sito/sito/Slice" "words" "[J" (.ref a4) := F19.same W20
  have N20 := Fr.snoc X20 N16 g_a0
  refine ogo st20 ?_
  show OWay p e below G T20 (mkF m 38 #[.val (.ref a0), .val (.long q1), .second, .val (.double d2), .second, .val (.int p3), .val (.ref a4), .val (.long q5), .second] [])
  refine ogo (fun _ z_ => XS.aloadN X20.here hx rfl (hb hby d1_38) rfl rfl z_) ?_
  show OWay p e below G T20 (mkF m 39 #[.val (.ref a0), .val (.long q1), .second, .val (.double d2), .second, .val (.int p3), .val (.ref a4), .val (.long q5), .second] [(.ref a0)])
  refine ogo (fun _ z_ => XS.lload X20.here hx rfl (hb hby d1_39) rfl z_) ?_
  show OWay p e below G T20 (mkF m 41 #[.val (.ref a0), .val (.long q1), .second, .val (.double d2), .second, .val (.int p3), .val (.ref a4), .val (.long q5), .second] [(.long q5), (.ref a0)])
  have F22 : Exa Z h20 a0 "com/example/sito/sito/Slice" := (F18.wr W20)
  have F23 : Fld Z h20 a0 "com/example/sito/sito/Slice" "items" "J" (.long (0 : Int64)) := (((((hp9.other W2 (Or.inr (slot_ne (Or.inl (hw _ (List.mem_of_getElem? (i := 24) rfl))) (Or.inr (hw _ (List.mem_of_getElem? (i := 13) rfl))) (by decide) (t := .long) (t' := .long) (by decide) (by decide)))).other W6 (Or.inr (slot_ne (Or.inl (hw _ (List.mem_of_getElem? (i := 24) rfl))) (Or.inr (hw _ (List.mem_of_getElem? (i := 15) rfl))) (by decide) (t := .long) (t' := .double) (by decide) (by decide)))).other W10 (Or.inr (slot_ne (Or.inl (hw _ (List.mem_of_getElem? (i := 24) rfl))) (Or.inr (hw _ (List.mem_of_getElem? (i := 17) rfl))) (by decide) (t := .long) (t' := .int) (by decide) (by decide)))).other W16 (Or.inr (slot_ne (Or.inl (hw _ (List.mem_of_getElem? (i := 24) rfl))) (Or.inr (hw _ (List.mem_of_getElem? (i := 20) rfl))) (by decide) (t := .long) (t' := .long) (by decide) (by decide)))).other W20 (Or.inr (slot_ne (Or.inl (hw _ (List.mem_of_getElem? (i := 24) rfl))) (Or.inr (hw _ (List.mem_of_getElem? (i := 22) rfl))) (by decide) (t := .long) (t' := (.array .long)) (by decide) (by decide))))
  obtain ⟨T24, h24, X24, eT24, W24, st24⟩ := putF X20 hx hZ hown (host := "") (Or.inl (hw _ (List.mem_of_getElem? (i := 23) rfl))) Via.refl eT20 F23 F22 (Or.inl (hw _ (List.mem_of_getElem? (i := 24) rfl))) (hw _ (List.mem_of_getElem? (i := 4) rfl)) (ty := .long) (by decide) rfl rfl (g := (mkF m 41 #[.val (.ref a0), .val (.long q1), .second, .val (.double d2), .second, .val (.int p3), .val (.ref a4), .val (.long q5), .second] [(.long q5), (.ref a0)])) rfl rfl (hb hby d1_41)
  have K25 : Keep h0 h24 [a0] := K21.wr W24 (Or.inl (List.mem_of_getElem? (i := 0) rfl))
  have Fw24 : Fld Z h24 a0 "com/example/sito/sito/Slice" "items" "J" (.long q5) := F23.same W24
  have N24 := Fr.snoc X24 N20 g_a0
  refine ogo st24 ?_
  show OWay p e below G T24 (mkF m 44 #[.val (.ref a0), .val (.long q1), .second, .val (.double d2), .second, .val (.int p3), .val (.ref a4), .val (.long q5), .second] [])
  subst hG
  refine wRetV X24 hx hret hlk (hb hby d1_44) (by decide) (by decide) eT24 ?_
  exact ⟨rfl, N24, K25, (((((Fw2.other W6 (Or.inr (slot_ne (Or.inr (hw _ (List.mem_of_getElem? (i := 13) rfl))) (Or.inr (hw _ (List.mem_of_getElem? (i := 15) rfl))) (by decide) (t := .long) (t' := .double) (by decide) (by decide)))).other W10 (Or.inr (slot_ne (Or.inr (hw _ (List.mem_of_getElem? (i := 13) rfl))) (Or.inr (hw _ (List.mem_of_getElem? (i := 17) rfl))) (by decide) (t := .long) (t' := .int) (by decide) (by decide)))).other W16 (Or.inr (slot_ne (Or.inr (hw _ (List.mem_of_getElem? (i := 13) rfl))) (Or.inr (hw _ (List.mem_of_getElem? (i := 20) rfl))) (by decide) (t := .long) (t' := .long) (by decide) (by decide)))).other W20 (Or.inr (slot_ne (Or.inr (hw _ (List.mem_of_getElem? (i := 13) rfl))) (Or.inr (hw _ (List.mem_of_getElem? (i := 22) rfl))) (by decide) (t := .long) (t' := (.array .long)) (by decide) (by decide)))).other W24 (Or.inr (slot_ne (Or.inr (hw _ (List.mem_of_getElem? (i := 13) rfl))) (Or.inl (hw _ (List.mem_of_getElem? (i := 24) rfl))) (by decide) (t := .long) (t' := .long) (by decide) (by decide)))), ((((Fw6.other W10 (Or.inr (slot_ne (Or.inr (hw _ (List.mem_of_getElem? (i := 15) rfl))) (Or.inr (hw _ (List.mem_of_getElem? (i := 17) rfl))) (by decide) (t := .double) (t' := .int) (by decide) (by decide)))).other W16 (Or.inr (slot_ne (Or.inr (hw _ (List.mem_of_getElem? (i := 15) rfl))) (Or.inr (hw _ (List.mem_of_getElem? (i := 20) rfl))) (by decide) (t := .double) (t' := .long) (by decide) (by decide)))).other W20 (Or.inr (slot_ne (Or.inr (hw _ (List.mem_of_getElem? (i := 15) rfl))) (Or.inr (hw _ (List.mem_of_getElem? (i := 22) rfl))) (by decide) (t := .double) (t' := (.array .long)) (by decide) (by decide)))).other W24 (Or.inr (slot_ne (Or.inr (hw _ (List.mem_of_getElem? (i := 15) rfl))) (Or.inl (hw _ (List.mem_of_getElem? (i := 24) rfl))) (by decide) (t := .double) (t' := .long) (by decide) (by decide)))), (((Fw10.other W16 (Or.inr (slot_ne (Or.inr (hw _ (List.mem_of_getElem? (i := 17) rfl))) (Or.inr (hw _ (List.mem_of_getElem? (i := 20) rfl))) (by decide) (t := .int) (t' := .long) (by decide) (by decide)))).other W20 (Or.inr (slot_ne (Or.inr (hw _ (List.mem_of_getElem? (i := 17) rfl))) (Or.inr (hw _ (List.mem_of_getElem? (i := 22) rfl))) (by decide) (t := .int) (t' := (.array .long)) (by decide) (by decide)))).other W24 (Or.inr (slot_ne (Or.inr (hw _ (List.mem_of_getElem? (i := 17) rfl))) (Or.inl (hw _ (List.mem_of_getElem? (i := 24) rfl))) (by decide) (t := .int) (t' := .long) (by decide) (by decide)))), ((Fw16.other W20 (Or.inr (slot_ne (Or.inr (hw _ (List.mem_of_getElem? (i := 20) rfl))) (Or.inr (hw _ (List.mem_of_getElem? (i := 22) rfl))) (by decide) (t := .long) (t' := (.array .long)) (by decide) (by decide)))).other W24 (Or.inr (slot_ne (Or.inr (hw _ (List.mem_of_getElem? (i := 20) rfl))) (Or.inl (hw _ (List.mem_of_getElem? (i := 24) rfl))) (by decide) (t := .long) (t' := .long) (by decide) (by decide)))), (Fw20.other W24 (Or.inr (slot_ne (Or.inr (hw _ (List.mem_of_getElem? (i := 22) rfl))) (Or.inl (hw _ (List.mem_of_getElem? (i := 24) rfl))) (by decide) (t := (.array .long)) (t' := .long) (by decide) (by decide)))), Fw24⟩
theorem d3_0 : decode prog_6_method_3_code 0 = .ok (.new 3, 3) := by decide +kernel
theorem d3_3 : decode prog_6_method_3_code 3 = .ok (.dup, 1) := by decide +kernel
theorem d3_4 : decode prog_6_method_3_code 4 = .ok (.aload_n 0, 1) := by decide +kernel
theorem d3_5 : decode prog_6_method_3_code 5 = .ok (.getfield 11, 3) := by decide +kernel
theorem d3_8 : decode prog_6_method_3_code 8 = .ok (.aload_n 0, 1) := by decide +kernel
theorem d3_9 : decode prog_6_method_3_code 9 = .ok (.getfield 15, 3) := by decide +kernel
theorem d3_12 : decode prog_6_method_3_code 12 = .ok (.aload_n 0, 1) := by decide +kernel
theorem d3_13 : decode prog_6_method_3_code 13 = .ok (.getfield 19, 3) := by decide +kernel
theorem d3_16 : decode prog_6_method_3_code 16 = .ok (.aload_n 0, 1) := by decide +kernel
theorem d3_17 : decode prog_6_method_3_code 17 = .ok (.getfield 28, 3) := by decide +kernel
theorem d3_20 : decode prog_6_method_3_code 20 = .ok (.invokevirtual 57, 3) := by decide +kernel
theorem d3_23 : decode prog_6_method_3_code 23 = .ok (.checkcast 58, 3) := by decide +kernel
theorem d3_26 : decode prog_6_method_3_code 26 = .ok (.aload_n 0, 1) := by decide +kernel
theorem d3_27 : decode prog_6_method_3_code 27 = .ok (.getfield 32, 3) := by decide +kernel
theorem d3_30 : decode prog_6_method_3_code 30 = .ok (.invokespecial 54, 3) := by decide +kernel
theorem pd__JDI_JJ_V : parseMethodDescriptor "(JDI[JJ)V" = some ⟨[.long, .double, .int, (.array .long), .long], none⟩ := by decide +kernel
theorem d3_33 : decode prog_6_method_3_code 33 = .ok (.areturn, 1) := by decide +kernel
def copy0_rm : Room := { frames := 2, cells := 2, slots := 6, locals := 33 }
def copy0_Q (Z : State) (a0 : Addr) (w0 : Int64) (w1 : UInt64) (w2 : Int32) (w4 : Addr) (w5 : Int64) (kk : ClassId) (h0 : Heap) (n0 : Nat) (v : Option Value) (h : Heap) (L : List Loc) : Prop := ∃ b : Addr, ∃ c : Addr, ∃ kc : ClassId, (v = some (.ref b)) ∧ (Fr n0 L) ∧ (Keep h0 h []) ∧ (n0 ≤ b) ∧ (h0.size ≤ b) ∧ (n0 ≤ c) ∧ (h0.size ≤ c) ∧ (c ≠ b) ∧ (Exa Z h b "com/example/sito/sito/Slice") ∧ (Fld Z h b "com/example/sito/sito/Slice" "capacity" "J" (.long w0)) ∧ (Fld Z h b "com/example/sito/sito/Slice" "bound" "D" (.double w1)) ∧ (Fld Z h b "com/example/sito/sito/Slice" "hashCount" "I" (.int w2)) ∧ (Fld Z h b "com/example/sito/sito/Slice" "bitCount" "J" (.long (0 : Int64))) ∧ (Fld Z h b "com/example/sito/sito/Slice" "words" "[J" (.ref c)) ∧ (Fld Z h b "com/example/sito/sito/Slice" "items" "J" (.long w5)) ∧ (Arv Z h c kc .long (0 : Int32) [] (.long (0 : Int64)))
theorem copy0_ef (m : MethodId) (a0 : Addr) : entryFrame m #[(.ref a0)] 1 = mkF m 0 #[.val (.ref a0)] [] := by first | (simp [entryFrame, mkF, argsToLocals, Value.category]; done) | rfl
set_option maxRecDepth 65536 in
set_option maxHeartbeats 40000000 in
theorem copy0_c (l : Launch) (Z : State) (az : Array Value) (hw : ∀ d ∈ tables_1, d.before az Z = true) (ws : List Jvm.Cond) (a0 : Addr) (w0 : Int64) (w1 : UInt64) (w2 : Int32) (w4 : Addr) (w5 : Int64) (kk : ClassId) (h0 : Heap) (n0 : Nat) (Z0 : n0 ≤ h0.size) (hp0 : Fld Z h0 a0 "com/example/sito/sito/Slice" "capacity" "J" (.long w0)) (hp1 : Fld Z h0 a0 "com/example/sito/sito/Slice" "bound" "D" (.double w1)) (hp2 : Fld Z h0 a0 "com/example/sito/sito/Slice" "hashCount" "I" (.int w2)) (hp3 : Fld Z h0 a0 "com/example/sito/sito/Slice" "words" "[J" (.ref w4)) (hp4 : Fld Z h0 a0 "com/example/sito/sito/Slice" "items" "J" (.long w5)) (hp5 : Arv Z h0 w4 kk .long (0 : Int32) [] (.long (0 : Int64))) (hp6 : Exa Z h0 w4 "[J") :
    OCon l (⟨"com/example/sito/sito/Slice", "copy", "()Lcom/example/sito/sito/Slice;"⟩ : MethodName) prog_6_method_3_code 1 (some (.object "com/example/sito/sito/Slice")) ws copy0_rm Z #[(.ref a0)] h0 (copy0_Q Z a0 w0 w1 w2 w4 w5 kk h0 n0) := by
  refine ocon (plainFor_of_name pn_com_example_sito_sito_Slice) ?_
  intro p e s m below meth c s₁ hx hby hml hown hnm hret hlk hZ X0 eh0
  have N0 := Fr.nil n0
  have K0 := Keep.refl h0 []
  refine ogoE (copy0_ef m a0) ?_
  generalize hG : (OEnd s below (copy0_Q Z a0 w0 w1 w2 w4 w5 kk h0 n0) copy0_rm.cells copy0_rm.slots) = G
  show OWay p e below G s₁ (mkF m 0 #[.val (.ref a0)] [])
  obtain ⟨T1, h1, X1, eT1, E1, A1, D1, -, st1⟩ := newO X0 hx hZ hown (hw _ (List.mem_of_getElem? (i := 30) rfl)) (hw _ (List.mem_of_getElem? (i := 4) rfl)) (hw _ (List.mem_of_getElem? (i := 5) rfl)) eh0 (g := (mkF m 0 #[.val (.ref a0)] [])) rfl (hb hby d3_0) (by decide) (by decide)
  obtain ⟨b1, g1⟩ : ∃ z, z = h0.size := ⟨_, rfl⟩
  rw [← g1] at A1 D1 st1
  have g_b1 : n0 ≤ b1 := Nat.le_trans Z0 (Nat.le_of_eq g1.symm)
  have sz_b1 : h0.size ≤ b1 := Nat.le_trans K0.1 (Nat.le_of_eq g1.symm)
  have K2 : Keep h0 h1 [] := K0.ext E1
  have F_capacity_b1 : Fld Z h1 b1 "com/example/sito/sito/Slice" "capacity" "J" (.long (0 : Int64)) := D1 (Or.inr (hw _ (List.mem_of_getElem? (i := 13) rfl))) (ty := .long) (by decide)
  have F_bound_b1 : Fld Z h1 b1 "com/example/sito/sito/Slice" "bound" "D" (.double (0 : UInt64)) := D1 (Or.inr (hw _ (List.mem_of_getElem? (i := 15) rfl))) (ty := .double) (by decide)
  have F_hashCount_b1 : Fld Z h1 b1 "com/example/sito/sito/Slice" "hashCount" "I" (.int (0 : Int32)) := D1 (Or.inr (hw _ (List.mem_of_getElem? (i := 17) rfl))) (ty := .int) (by decide)
  have F_bitCount_b1 : Fld Z h1 b1 "com/example/sito/sito/Slice" "bitCount" "J" (.long (0 : Int64)) := D1 (Or.inr (hw _ (List.mem_of_getElem? (i := 20) rfl))) (ty := .long) (by decide)
  have F_words_b1 : Fld Z h1 b1 "com/example/sito/sito/Slice" "words" "[J" .null := D1 (Or.inr (hw _ (List.mem_of_getElem? (i := 22) rfl))) (ty := (.array .long)) (by decide)
  have F_items_b1 : Fld Z h1 b1 "com/example/sito/sito/Slice" "items" "J" (.long (0 : Int64)) := D1 (Or.inl (hw _ (List.mem_of_getElem? (i := 24) rfl))) (ty := .long) (by decide)
  refine ogo st1 ?_
  show OWay p e below G T1 (mkF m 3 #[.val (.ref a0)] [(.ref b1)])
  refine ogo (fun _ z_ => XS.dup X1.here hx rfl (hb hby d3_3) rfl rfl z_) ?_
  show OWay p e below G T1 (mkF m 4 #[.val (.ref a0)] [(.ref b1), (.ref b1)])
  refine ogo (fun _ z_ => XS.aloadN X1.here hx rfl (hb hby d3_4) rfl rfl z_) ?_
  show OWay p e below G T1 (mkF m 5 #[.val (.ref a0)] [(.ref a0), (.ref b1), (.ref b1)])
  have F3 : Fld Z h1 a0 "com/example/sito/sito/Slice" "capacity" "J" (.long w0) := (hp0.ext E1)
  obtain ⟨T4, X4, eT4, st4⟩ := getF X1 hx hZ hown (host := "") (Or.inl (hw _ (List.mem_of_getElem? (i := 12) rfl))) Via.refl eT1 F3 (g := (mkF m 5 #[.val (.ref a0)] [(.ref a0), (.ref b1), (.ref b1)])) rfl rfl (hb hby d3_5)
  refine ogo st4 ?_
  show OWay p e below G T4 (mkF m 8 #[.val (.ref a0)] [(.long w0), (.ref b1), (.ref b1)])
  refine ogo (fun _ z_ => XS.aloadN X4.here hx rfl (hb hby d3_8) rfl rfl z_) ?_
  show OWay p e below G T4 (mkF m 9 #[.val (.ref a0)] [(.ref a0), (.long w0), (.ref b1), (.ref b1)])
  have F5 : Fld Z h1 a0 "com/example/sito/sito/Slice" "bound" "D" (.double w1) := (hp1.ext E1)
  obtain ⟨T6, X6, eT6, st6⟩ := getF X4 hx hZ hown (host := "") (Or.inl (hw _ (List.mem_of_getElem? (i := 14) rfl))) Via.refl eT4 F5 (g := (mkF m 9 #[.val (.ref a0)] [(.ref a0), (.long w0), (.ref b1), (.ref b1)])) rfl rfl (hb hby d3_9)
  refine ogo st6 ?_
  show OWay p e below G T6 (mkF m 12 #[.val (.ref a0)] [(.double w1), (.long w0), (.ref b1), (.ref b1)])
  refine ogo (fun _ z_ => XS.aloadN X6.here hx rfl (hb hby d3_12) rfl rfl z_) ?_
  show OWay p e below G T6 (mkF m 13 #[.val (.ref a0)] [(.ref a0), (.double w1), (.long w0), (.ref b1), (.ref b1)])
  have F7 : Fld Z h1 a0 "com/example/sito/sito/Slice" "hashCount" "I" (.int w2) := (hp2.ext E1)
  obtain ⟨T8, X8, eT8, st8⟩ := getF X6 hx hZ hown (host := "") (Or.inl (hw _ (List.mem_of_getElem? (i := 16) rfl))) Via.refl eT6 F7 (g := (mkF m 13 #[.val (.ref a0)] [(.ref a0), (.double w1), (.long w0), (.ref b1), (.ref b1)])) rfl rfl (hb hby d3_13)
  refine ogo st8 ?_
  show OWay p e below G T8 (mkF m 16 #[.val (.ref a0)] [(.int w2), (.double w1), (.long w0), (.ref b1), (.ref b1)])
  refine ogo (fun _ z_ => XS.aloadN X8.here hx rfl (hb hby d3_16) rfl rfl z_) ?_
  show OWay p e below G T8 (mkF m 17 #[.val (.ref a0)] [(.ref a0), (.int w2), (.double w1), (.long w0), (.ref b1), (.ref b1)])
  have F9 : Fld Z h1 a0 "com/example/sito/sito/Slice" "words" "[J" (.ref w4) := (hp3.ext E1)
  obtain ⟨T10, X10, eT10, st10⟩ := getF X8 hx hZ hown (host := "") (Or.inl (hw _ (List.mem_of_getElem? (i := 21) rfl))) Via.refl eT8 F9 (g := (mkF m 17 #[.val (.ref a0)] [(.ref a0), (.int w2), (.double w1), (.long w0), (.ref b1), (.ref b1)])) rfl rfl (hb hby d3_17)
  refine ogo st10 ?_
  show OWay p e below G T10 (mkF m 20 #[.val (.ref a0)] [(.ref w4), (.int w2), (.double w1), (.long w0), (.ref b1), (.ref b1)])
  have F12 : Arv Z h1 w4 kk .long (0 : Int32) [] (.long (0 : Int64)) := (hp5.ext E1)
  have F13 : Exa Z h1 w4 "[J" := (hp6.ext E1)
  obtain ⟨cl11, Ar11, q11, Sz11, Nn11, Hh11, Gg11⟩ := F12
  obtain ⟨T11, h11, X11, eT11, E11, A11, D11, st11⟩ := cloneA X10 hx hZ hown (hw _ (List.mem_of_getElem? (i := 31) rfl)) (hw _ (List.mem_of_getElem? (i := 32) rfl)) (hw _ (List.mem_of_getElem? (i := 36) rfl)) (hw _ (List.mem_of_getElem? (i := 34) rfl)) (hw _ (List.mem_of_getElem? (i := 35) rfl)) (hw _ (List.mem_of_getElem? (i := 37) rfl)) eT10 Ar11 F13 (own_fitC Ar11 Hh11 Gg11) (g := (mkF m 20 #[.val (.ref a0)] [(.ref w4), (.int w2), (.double w1), (.long w0), (.ref b1), (.ref b1)])) rfl (by rw [hml]; rfl) rfl (hb hby d3_20) (by decide) (W := 7) (cap := 0) (by show 2 * 0 + _ ≤ _; exact Nat.le_of_eq rfl) (by decide) (by rw [Sz11]; decide) (by decide) (by decide)
  obtain ⟨b11, g11⟩ : ∃ z, z = h1.size := ⟨_, rfl⟩
  rw [← g11] at A11 D11 st11
  have g_b11 : n0 ≤ b11 := Nat.le_trans (Nat.le_trans Z0 E1.1) (Nat.le_of_eq g11.symm)
  have sz_b11 : h0.size ≤ b11 := Nat.le_trans K2.1 (Nat.le_of_eq g11.symm)
  have K14 : Keep h0 h11 [] := K2.ext E11
  have V_b11 : Arv Z h11 b11 cl11.cls .long (0 : Int32) [] (.long (0 : Int64)) := own_clone A11 Sz11 Nn11 Hh11 Gg11
  refine ogo st11 ?_
  show OWay p e below G T11 (mkF m 23 #[.val (.ref a0)] [(.ref b11), (.int w2), (.double w1), (.long w0), (.ref b1), (.ref b1)])
  obtain ⟨T15, X15, eT15, st15⟩ := castY X11 hx hZ hown (hw _ (List.mem_of_getElem? (i := 38) rfl)) eT11 (Ins.self D11) (g := (mkF m 23 #[.val (.ref a0)] [(.ref b11), (.int w2), (.double w1), (.long w0), (.ref b1), (.ref b1)])) rfl rfl (hb hby d3_23)
  refine ogo st15 ?_
  show OWay p e below G T15 (mkF m 26 #[.val (.ref a0)] [(.ref b11), (.int w2), (.double w1), (.long w0), (.ref b1), (.ref b1)])
  refine ogo (fun _ z_ => XS.aloadN X15.here hx rfl (hb hby d3_26) rfl rfl z_) ?_
  show OWay p e below G T15 (mkF m 27 #[.val (.ref a0)] [(.ref a0), (.ref b11), (.int w2), (.double w1), (.long w0), (.ref b1), (.ref b1)])
  have F16 : Fld Z h11 a0 "com/example/sito/sito/Slice" "items" "J" (.long w5) := ((hp4.ext E1).ext E11)
  obtain ⟨T17, X17, eT17, st17⟩ := getF X15 hx hZ hown (host := "") (Or.inl (hw _ (List.mem_of_getElem? (i := 23) rfl))) Via.refl eT15 F16 (g := (mkF m 27 #[.val (.ref a0)] [(.ref a0), (.ref b11), (.int w2), (.double w1), (.long w0), (.ref b1), (.ref b1)])) rfl rfl (hb hby d3_27)
  refine ogo st17 ?_
  show OWay p e below G T17 (mkF m 30 #[.val (.ref a0)] [(.long w5), (.ref b11), (.int w2), (.double w1), (.long w0), (.ref b1), (.ref b1)])
  have F18 : Exa Z h11 b1 "com/example/sito/sito/Slice" := (A1.ext E11)
  have F19 : Fld Z h11 b1 "com/example/sito/sito/Slice" "capacity" "J" (.long (0 : Int64)) := (F_capacity_b1.ext E11)
  have F20 : Fld Z h11 b1 "com/example/sito/sito/Slice" "bound" "D" (.double (0 : UInt64)) := (F_bound_b1.ext E11)
  have F21 : Fld Z h11 b1 "com/example/sito/sito/Slice" "hashCount" "I" (.int (0 : Int32)) := (F_hashCount_b1.ext E11)
  have F22 : Fld Z h11 b1 "com/example/sito/sito/Slice" "bitCount" "J" (.long (0 : Int64)) := (F_bitCount_b1.ext E11)
  have F23 : Fld Z h11 b1 "com/example/sito/sito/Slice" "words" "[J" .null := (F_words_b1.ext E11)
  have F24 : Fld Z h11 b1 "com/example/sito/sito/Slice" "items" "J" (.long (0 : Int64)) := (F_items_b1.ext E11)
  obtain ⟨_, T25, L25, X25, hQ25, st25⟩ := wInit X17 hx hZ (y := (⟨"com/example/sito/sito/Slice", "<init>", "(JDI[JJ)V"⟩ : MethodName)) rfl hown (hw _ (List.mem_of_getElem? (i := 40) rfl)) (hw _ (List.mem_of_getElem? (i := 7) rfl)) (hw _ (List.mem_of_getElem? (i := 5) rfl)) (hw _ (List.mem_of_getElem? (i := 8) rfl)) (by decide) (ctor_0_c l Z az hw [] b1 w0 w1 w2 b11 w5 cl11.cls h11 n0 (Nat.le_trans (Nat.le_trans Z0 E1.1) E11.1) V_b11 (Ne.symm (Nat.ne_of_lt (Nat.lt_of_lt_of_le A1.lt (Nat.le_of_eq g11.symm)))) F18 g_b1 F19 F20 F21 F22 F23 F24) 1 (by decide) (by decide) (g := (mkF m 30 #[.val (.ref a0)] [(.long w5), (.ref b11), (.int w2), (.double w1), (.long w0), (.ref b1), (.ref b1)])) rfl (by rw [hml]; rfl) (a := b1) (argsL := [(.long w0), (.double w1), (.int w2), (.ref b11), (.long w5)]) (rest := [(.ref b1)]) (lenOf pd__JDI_JJ_V rfl) rfl (by show 2 * 0 + _ ≤ _; exact Nat.le_of_eq rfl) (hb hby d3_30) rfl eT17 (by decide) (by decide)
  obtain ⟨rfl, N25q, Kq25, P26, P27, P28, P29, P30, P31⟩ := hQ25
  have N25 := Fr.app N0 N25q
  have K32 : Keep h0 T25.heap [] := K14.trans Kq25 (allS (Or.inr sz_b1) all0)
  refine ogoS st25 ?_
  show OWay p e below G T25 (mkF m 33 #[.val (.ref a0)] [(.ref b1)])
  subst hG
  refine wRet X25 hx hret hlk rfl (Or.inr (Or.inr (Or.inr (Or.inr ⟨rfl, rfl, rfl⟩)))) (hb hby d3_33) (by decide) (by decide) rfl ?_
  exact ⟨b1, b11, cl11.cls, rfl, N25, K32, g_b1, sz_b1, g_b11, sz_b11, (Ne.symm (Nat.ne_of_lt (Nat.lt_of_lt_of_le A1.lt (Nat.le_of_eq g11.symm)))), (F18.keep Kq25), P26, P27, P28, P29, P30, P31, (V_b11.keep Kq25 (ninS (Ne.symm (Nat.ne_of_lt (Nat.lt_of_lt_of_le A1.lt (Nat.le_of_eq g11.symm)))) nin0))⟩
def ctor_1_rm : Room := { frames := 1, cells := 0, slots := 0, locals := 12 }
def ctor_1_Q (Z : State) (a0 : Addr) (q1 : Int64) (d2 : UInt64) (p3 : Int32) (a4 : Addr) (q5 : Int64) (kk : ClassId) (x0 : Value) (h0 : Heap) (n0 : Nat) (v : Option Value) (h : Heap) (L : List Loc) : Prop := (v = none) ∧ (Fr n0 L) ∧ (Keep h0 h [a0]) ∧ (Fld Z h a0 "com/example/sito/sito/Slice" "capacity" "J" (.long q1)) ∧ (Fld Z h a0 "com/example/sito/sito/Slice" "bound" "D" (.double d2)) ∧ (Fld Z h a0 "com/example/sito/sito/Slice" "hashCount" "I" (.int p3)) ∧ (Fld Z h a0 "com/example/sito/sito/Slice" "bitCount" "J" (.long (64 : Int64))) ∧ (Fld Z h a0 "com/example/sito/sito/Slice" "words" "[J" (.ref a4)) ∧ (Fld Z h a0 "com/example/sito/sito/Slice" "items" "J" (.long q5))
theorem ctor_1_ef (m : MethodId) (a0 : Addr) (q1 : Int64) (d2 : UInt64) (p3 : Int32) (a4 : Addr) (q5 : Int64) : entryFrame m #[(.ref a0), (.long q1), (.double d2), (.int p3), (.ref a4), (.long q5)] 9 = mkF m 0 #[.val (.ref a0), .val (.long q1), .second, .val (.double d2), .second, .val (.int p3), .val (.ref a4), .val (.long q5), .second] [] := by first | (simp [entryFrame, mkF, argsToLocals, Value.category]; done) | rfl
set_option maxRecDepth 65536 in
set_option maxHeartbeats 40000000 in
theorem ctor_1_c (l : Launch) (Z : State) (az : Array Value) (hw : ∀ d ∈ tables_1, d.before az Z = true) (ws : List Jvm.Cond) (a0 : Addr) (q1 : Int64) (d2 : UInt64) (p3 : Int32) (a4 : Addr) (q5 : Int64) (kk : ClassId) (x0 : Value) (h0 : Heap) (n0 : Nat) (Z0 : n0 ≤ h0.size) (hp0 : Arv Z h0 a4 kk .long (1 : Int32) [x0] (.long (0 : Int64))) (hp1 : a4 ≠ a0) (hp2 : Exa Z h0 a0 "com/example/sito/sito/Slice") (hp3 : n0 ≤ a0) (hp4 : Fld Z h0 a0 "com/example/sito/sito/Slice" "capacity" "J" (.long (0 : Int64))) (hp5 : Fld Z h0 a0 "com/example/sito/sito/Slice" "bound" "D" (.double (0 : UInt64))) (hp6 : Fld Z h0 a0 "com/example/sito/sito/Slice" "hashCount" "I" (.int (0 : Int32))) (hp7 : Fld Z h0 a0 "com/example/sito/sito/Slice" "bitCount" "J" (.long (0 : Int64))) (hp8 : Fld Z h0 a0 "com/example/sito/sito/Slice" "words" "[J" .null) (hp9 : Fld Z h0 a0 "com/example/sito/sito/Slice" "items" "J" (.long (0 : Int64))) :
    OCon l (⟨"com/example/sito/sito/Slice", "<init>", "(JDI[JJ)V"⟩ : MethodName) prog_6_method_1_code 9 none ws ctor_1_rm Z #[(.ref a0), (.long q1), (.double d2), (.int p3), (.ref a4), (.long q5)] h0 (ctor_1_Q Z a0 q1 d2 p3 a4 q5 kk x0 h0 n0) := by
  refine ocon (plainFor_of_name pn_com_example_sito_sito_Slice) ?_
  intro p e s m below meth c s₁ hx hby hml hown hnm hret hlk hZ X0 eh0
  have N0 := Fr.nil n0
  have K0 := Keep.refl h0 [a0]
  refine ogoE (ctor_1_ef m a0 q1 d2 p3 a4 q5) ?_
  have g_a0 := hp3
  generalize hG : (OEnd s below (ctor_1_Q Z a0 q1 d2 p3 a4 q5 kk x0 h0 n0) ctor_1_rm.cells ctor_1_rm.slots) = G
  show OWay p e below G s₁ (mkF m 0 #[.val (.ref a0), .val (.long q1), .second, .val (.double d2), .second, .val (.int p3), .val (.ref a4), .val (.long q5), .second] [])
  refine ogo (fun _ z_ => XS.aloadN X0.here hx rfl (hb hby d1_0) rfl rfl z_) ?_
  show OWay p e below G s₁ (mkF m 1 #[.val (.ref a0), .val (.long q1), .second, .val (.double d2), .second, .val (.int p3), .val (.ref a4), .val (.long q5), .second] [(.ref a0)])
  obtain ⟨T1, X1, eT1, st1⟩ := initO X0 hx hZ hown (hw _ (List.mem_of_getElem? (i := 9) rfl)) (hw _ (List.mem_of_getElem? (i := 10) rfl)) (hw _ (List.mem_of_getElem? (i := 11) rfl)) eh0 (g := (mkF m 1 #[.val (.ref a0), .val (.long q1), .second, .val (.double d2), .second, .val (.int p3), .val (.ref a4), .val (.long q5), .second] [(.ref a0)])) rfl (by rw [hml]; rfl) rfl (hb hby d1_1) (by decide) (W := 0) (by show 2 * 0 + _ ≤ _; exact Nat.le_of_eq rfl) (by decide)
  refine ogo st1 ?_
  show OWay p e below G T1 (mkF m 4 #[.val (.ref a0), .val (.long q1), .second, .val (.double d2), .second, .val (.int p3), .val (.ref a4), .val (.long q5), .second] [])
  refine ogo (fun _ z_ => XS.aloadN X1.here hx rfl (hb hby d1_4) rfl rfl z_) ?_
  show OWay p e below G T1 (mkF m 5 #[.val (.ref a0), .val (.long q1), .second, .val (.double d2), .second, .val (.int p3), .val (.ref a4), .val (.long q5), .second] [(.ref a0)])
  refine ogo (fun _ z_ => XS.lloadN X1.here hx rfl (hb hby d1_5) rfl z_) ?_
  show OWay p e below G T1 (mkF m 6 #[.val (.ref a0), .val (.long q1), .second, .val (.double d2), .second, .val (.int p3), .val (.ref a4), .val (.long q5), .second] [(.long q1), (.ref a0)])
  obtain ⟨T2, h2, X2, eT2, W2, st2⟩ := putF X1 hx hZ hown (host := "") (Or.inl (hw _ (List.mem_of_getElem? (i := 12) rfl))) Via.refl eT1 hp4 hp2 (Or.inr ⟨(hw _ (List.mem_of_getElem? (i := 13) rfl)), rfl, hnm⟩) (hw _ (List.mem_of_getElem? (i := 4) rfl)) (ty := .long) (by decide) rfl rfl (g := (mkF m 6 #[.val (.ref a0), .val (.long q1), .second, .val (.double d2), .second, .val (.int p3), .val (.ref a4), .val (.long q5), .second] [(.long q1), (.ref a0)])) rfl rfl (hb hby d1_6)
  have K3 : Keep h0 h2 [a0] := K0.wr W2 (Or.inl (List.mem_of_getElem? (i := 0) rfl))
  have Fw2 : Fld Z h2 a0 "com/example/sito/sito/Slice" "capacity" "J" (.long q1) := hp4.same W2
  have N2 := Fr.snoc X2 N0 g_a0
  refine ogo st2 ?_
  show OWay p e below G T2 (mkF m 9 #[.val (.ref a0), .val (.long q1), .second, .val (.double d2), .second, .val (.int p3), .val (.ref a4), .val (.long q5), .second] [])
  refine ogo (fun _ z_ => XS.aloadN X2.here hx rfl (hb hby d1_9) rfl rfl z_) ?_
  show OWay p e below G T2 (mkF m 10 #[.val (.ref a0), .val (.long q1), .second, .val (.double d2), .second, .val (.int p3), .val (.ref a4), .val (.long q5), .second] [(.ref a0)])
  refine ogo (fun _ z_ => XS.dloadN X2.here hx rfl (hb hby d1_10) rfl z_) ?_
  show OWay p e below G T2 (mkF m 11 #[.val (.ref a0), .val (.long q1), .second, .val (.double d2), .second, .val (.int p3), .val (.ref a4), .val (.long q5), .second] [(.double d2), (.ref a0)])
  have F4 : Exa Z h2 a0 "com/example/sito/sito/Slice" := (hp2.wr W2)
  have F5 : Fld Z h2 a0 "com/example/sito/sito/Slice" "bound" "D" (.double (0 : UInt64)) := (hp5.other W2 (Or.inr (slot_ne (Or.inr (hw _ (List.mem_of_getElem? (i := 15) rfl))) (Or.inr (hw _ (List.mem_of_getElem? (i := 13) rfl))) (by decide) (t := .double) (t' := .long) (by decide) (by decide))))
  obtain ⟨T6, h6, X6, eT6, W6, st6⟩ := putF X2 hx hZ hown (host := "") (Or.inl (hw _ (List.mem_of_getElem? (i := 14) rfl))) Via.refl eT2 F5 F4 (Or.inr ⟨(hw _ (List.mem_of_getElem? (i := 15) rfl)), rfl, hnm⟩) (hw _ (List.mem_of_getElem? (i := 4) rfl)) (ty := .double) (by decide) rfl rfl (g := (mkF m 11 #[.val (.ref a0), .val (.long q1), .second, .val (.double d2), .second, .val (.int p3), .val (.ref a4), .val (.long q5), .second] [(.double d2), (.ref a0)])) rfl rfl (hb hby d1_11)
  have K7 : Keep h0 h6 [a0] := K3.wr W6 (Or.inl (List.mem_of_getElem? (i := 0) rfl))
  have Fw6 : Fld Z h6 a0 "com/example/sito/sito/Slice" "bound" "D" (.double d2) := F5.same W6
  have N6 := Fr.snoc X6 N2 g_a0
  refine ogo st6 ?_
  show OWay p e below G T6 (mkF m 14 #[.val (.ref a0), .val (.long q1), .second, .val (.double d2), .second, .val (.int p3), .val (.ref a4), .val (.long q5), .second] [])
  refine ogo (fun _ z_ => XS.aloadN X6.here hx rfl (hb hby d1_14) rfl rfl z_) ?_
  show OWay p e below G T6 (mkF m 15 #[.val (.ref a0), .val (.long q1), .second, .val (.double d2), .second, .val (.int p3), .val (.ref a4), .val (.long q5), .second] [(.ref a0)])
  refine ogo (fun _ z_ => XS.iload X6.here hx rfl (hb hby d1_15) rfl z_) ?_
  show OWay p e below G T6 (mkF m 17 #[.val (.ref a0), .val (.long q1), .second, .val (.double d2), .second, .val (.int p3), .val (.ref a4), .val (.long q5), .second] [(.int p3), (.ref a0)])
  have F8 : Exa Z h6 a0 "com/example/sito/sito/Slice" := (F4.wr W6)
  have F9 : Fld Z h6 a0 "com/example/sito/sito/Slice" "hashCount" "I" (.int (0 : Int32)) := ((hp6.other W2 (Or.inr (slot_ne (Or.inr (hw _ (List.mem_of_getElem? (i := 17) rfl))) (Or.inr (hw _ (List.mem_of_getElem? (i := 13) rfl))) (by decide) (t := .int) (t' := .long) (by decide) (by decide)))).other W6 (Or.inr (slot_ne (Or.inr (hw _ (List.mem_of_getElem? (i := 17) rfl))) (Or.inr (hw _ (List.mem_of_getElem? (i := 15) rfl))) (by decide) (t := .int) (t' := .double) (by decide) (by decide))))
  obtain ⟨T10, h10, X10, eT10, W10, st10⟩ := putF X6 hx hZ hown (host := "") (Or.inl (hw _ (List.mem_of_getElem? (i := 16) rfl))) Via.refl eT6 F9 F8 (Or.inr ⟨(hw _ (List.mem_of_getElem? (i := 17) rfl)), rfl, hnm⟩) (hw _ (List.mem_of_getElem? (i := 4) rfl)) (ty := .int) (by decide) rfl rfl (g := (mkF m 17 #[.val (.ref a0), .val (.long q1), .second, .val (.double d2), .second, .val (.int p3), .val (.ref a4), .val (.long q5), .second] [(.int p3), (.ref a0)])) rfl rfl (hb hby d1_17)
  have K11 : Keep h0 h10 [a0] := K7.wr W10 (Or.inl (List.mem_of_getElem? (i := 0) rfl))
  have Fw10 : Fld Z h10 a0 "com/example/sito/sito/Slice" "hashCount" "I" (.int p3) := F9.same W10
  have N10 := Fr.snoc X10 N6 g_a0
  refine ogo st10 ?_
  show OWay p e below G T10 (mkF m 20 #[.val (.ref a0), .val (.long q1), .second, .val (.double d2), .second, .val (.int p3), .val (.ref a4), .val (.long q5), .second] [])
  refine ogo (fun _ z_ => XS.aloadN X10.here hx rfl (hb hby d1_20) rfl rfl z_) ?_
  show OWay p e below G T10 (mkF m 21 #[.val (.ref a0), .val (.long q1), .second, .val (.double d2), .second, .val (.int p3), .val (.ref a4), .val (.long q5), .second] [(.ref a0)])
  refine ogo (fun _ z_ => X10.ldc2Long hx hown (mvT hZ (hw _ (List.mem_of_getElem? (i := 18) rfl))) (g := (mkF m 21 #[.val (.ref a0), .val (.long q1), .second, .val (.double d2), .second, .val (.int p3), .val (.ref a4), .val (.long q5), .second] [(.ref a0)])) rfl (hb hby d1_21) _ z_) ?_
  show OWay p e below G T10 (mkF m 24 #[.val (.ref a0), .val (.long q1), .second, .val (.double d2), .second, .val (.int p3), .val (.ref a4), .val (.long q5), .second] [(.long (64 : Int64)), (.ref a0)])
  refine ogo (fun _ z_ => XS.aload X10.here hx rfl (hb hby d1_24) rfl rfl z_) ?_
  show OWay p e below G T10 (mkF m 26 #[.val (.ref a0), .val (.long q1), .second, .val (.double d2), .second, .val (.int p3), .val (.ref a4), .val (.long q5), .second] [(.ref a4), (.long (64 : Int64)), (.ref a0)])
  have F12 : Arv Z h10 a4 kk .long (1 : Int32) [x0] (.long (0 : Int64)) := (((hp0.other W2 hp1).other W6 hp1).other W10 hp1)
  obtain ⟨cl_o13, Ar_o13, -, S_o13, N_o13, -, -⟩ := id F12
  refine ogo (fun _ z_ => X10.arraylength hx (by rw [eT10]; exact Ar_o13.1) (State.isArrayOf_alike hZ.alike Ar_o13.2.1) (g := (mkF m 26 #[.val (.ref a0), .val (.long q1), .second, .val (.double d2), .second, .val (.int p3), .val (.ref a4), .val (.long q5), .second] [(.ref a4), (.long (64 : Int64)), (.ref a0)])) rfl rfl (hb hby d1_26) _ z_) ?_
  rw [len_of S_o13 N_o13]
  show OWay p e below G T10 (mkF m 27 #[.val (.ref a0), .val (.long q1), .second, .val (.double d2), .second, .val (.int p3), .val (.ref a4), .val (.long q5), .second] [(.int (1 : Int32)), (.long (64 : Int64)), (.ref a0)])
  refine ogo (fun _ z_ => XS.i2l X10.here hx rfl (hb hby d1_27) rfl z_) ?_
  show OWay p e below G T10 (mkF m 28 #[.val (.ref a0), .val (.long q1), .second, .val (.double d2), .second, .val (.int p3), .val (.ref a4), .val (.long q5), .second] [(.long ((1 : Int32).toInt64)), (.long (64 : Int64)), (.ref a0)])
  refine ogoE (g' := (mkF m 28 #[.val (.ref a0), .val (.long q1), .second, .val (.double d2), .second, .val (.int p3), .val (.ref a4), .val (.long q5), .second] [(.long (1 : Int64)), (.long (64 : Int64)), (.ref a0)])) (by rw [show ((1 : Int32).toInt64) = (1 : Int64) from by decide]) ?_
  refine ogo (fun _ z_ => XS.lmul X10.here hx rfl (hb hby d1_28) rfl z_) ?_
  show OWay p e below G T10 (mkF m 29 #[.val (.ref a0), .val (.long q1), .second, .val (.double d2), .second, .val (.int p3), .val (.ref a4), .val (.long q5), .second] [(.long ((64 : Int64) * (1 : Int64))), (.ref a0)])
  refine ogoE (g' := (mkF m 29 #[.val (.ref a0), .val (.long q1), .second, .val (.double d2), .second, .val (.int p3), .val (.ref a4), .val (.long q5), .second] [(.long (64 : Int64)), (.ref a0)])) (by rw [show ((64 : Int64) * (1 : Int64)) = (64 : Int64) from by decide]) ?_
  have F14 : Exa Z h10 a0 "com/example/sito/sito/Slice" := (F8.wr W10)
  have F15 : Fld Z h10 a0 "com/example/sito/sito/Slice" "bitCount" "J" (.long (0 : Int64)) := (((hp7.other W2 (Or.inr (slot_ne (Or.inr (hw _ (List.mem_of_getElem? (i := 20) rfl))) (Or.inr (hw _ (List.mem_of_getElem? (i := 13) rfl))) (by decide) (t := .long) (t' := .long) (by decide) (by decide)))).other W6 (Or.inr (slot_ne (Or.inr (hw _ (List.mem_of_getElem? (i := 20) rfl))) (Or.inr (hw _ (List.mem_of_getElem? (i := 15) rfl))) (by decide) (t := .long) (t' := .double) (by decide) (by decide)))).other W10 (Or.inr (slot_ne (Or.inr (hw _ (List.mem_of_getElem? (i := 20) rfl))) (Or.inr (hw _ (List.mem_of_getElem? (i := 17) rfl))) (by decide) (t := .long) (t' := .int) (by decide) (by decide))))
  obtain ⟨T16, h16, X16, eT16, W16, st16⟩ := putF X10 hx hZ hown (host := "") (Or.inl (hw _ (List.mem_of_getElem? (i := 19) rfl))) Via.refl eT10 F15 F14 (Or.inr ⟨(hw _ (List.mem_of_getElem? (i := 20) rfl)), rfl, hnm⟩) (hw _ (List.mem_of_getElem? (i := 4) rfl)) (ty := .long) (by decide) rfl rfl (g := (mkF m 29 #[.val (.ref a0), .val (.long q1), .second, .val (.double d2), .second, .val (.int p3), .val (.ref a4), .val (.long q5), .second] [(.long (64 : Int64)), (.ref a0)])) rfl rfl (hb hby d1_29)
  have K17 : Keep h0 h16 [a0] := K11.wr W16 (Or.inl (List.mem_of_getElem? (i := 0) rfl))
  have Fw16 : Fld Z h16 a0 "com/example/sito/sito/Slice" "bitCount" "J" (.long (64 : Int64)) := F15.same W16
  have N16 := Fr.snoc X16 N10 g_a0
  refine ogo st16 ?_
  show OWay p e below G T16 (mkF m 32 #[.val (.ref a0), .val (.long q1), .second, .val (.double d2), .second, .val (.int p3), .val (.ref a4), .val (.long q5), .second] [])
  refine ogo (fun _ z_ => XS.aloadN X16.here hx rfl (hb hby d1_32) rfl rfl z_) ?_
  show OWay p e below G T16 (mkF m 33 #[.val (.ref a0), .val (.long q1), .second, .val (.double d2), .second, .val (.int p3), .val (.ref a4), .val (.long q5), .second] [(.ref a0)])
  refine ogo (fun _ z_ => XS.aload X16.here hx rfl (hb hby d1_33) rfl rfl z_) ?_
  show OWay p e below G T16 (mkF m 35 #[.val (.ref a0), .val (.long q1), .second, .val (.double d2), .second, .val (.int p3), .val (.ref a4), .val (.long q5), .second] [(.ref a4), (.ref a0)])
  have F18 : Exa Z h16 a0 "com/example/sito/sito/Slice" := (F14.wr W16)
  have F19 : Fld Z h16 a0 "com/example/sito/sito/Slice" "words" "[J" .null := ((((hp8.other W2 (Or.inr (slot_ne (Or.inr (hw _ (List.mem_of_getElem? (i := 22) rfl))) (Or.inr (hw _ (List.mem_of_getElem? (i := 13) rfl))) (by decide) (t := (.array .long)) (t' := .long) (by decide) (by decide)))).other W6 (Or.inr (slot_ne (Or.inr (hw _ (List.mem_of_getElem? (i := 22) rfl))) (Or.inr (hw _ (List.mem_of_getElem? (i := 15) rfl))) (by decide) (t := (.array .long)) (t' := .double) (by decide) (by decide)))).other W10 (Or.inr (slot_ne (Or.inr (hw _ (List.mem_of_getElem? (i := 22) rfl))) (Or.inr (hw _ (List.mem_of_getElem? (i := 17) rfl))) (by decide) (t := (.array .long)) (t' := .int) (by decide) (by decide)))).other W16 (Or.inr (slot_ne (Or.inr (hw _ (List.mem_of_getElem? (i := 22) rfl))) (Or.inr (hw _ (List.mem_of_getElem? (i := 20) rfl))) (by decide) (t := (.array .long)) (t' := .long) (by decide) (by decide))))
  obtain ⟨T20, h20, X20, eT20, W20, st20⟩ := putF X16 hx hZ hown (host := "") (Or.inl (hw _ (List.mem_of_getElem? (i := 21) rfl))) Via.refl eT16 F19 F18 (Or.inr ⟨(hw _ (List.mem_of_getElem? (i := 22) rfl)), rfl, hnm⟩) (hw _ (List.mem_of_getElem? (i := 4) rfl)) (ty := (.array .long)) (by decide) rfl rfl (g := (mkF m 35 #[.val (.ref a0), .val (.long q1), .second, .val (.double d2), .second, .val (.int p3), .val (.ref a4), .val (.long q5), .second] [(.ref a4), (.ref a0)])) rfl rfl (hb hby d1_35)
  have K21 : Keep h0 h20 [a0] := K17.wr W20 (Or.inl (List.mem_of_getElem? (i := 0) rfl))
  have Fw20 : Fld Z h20 a0 "com/example/sito/sito/Slice" "words" "[J" (.ref a4) := F19.same W20
  have N20 := Fr.snoc X20 N16 g_a0
  refine ogo st20 ?_
  show OWay p e below G T20 (mkF m 38 #[.val (.ref a0), .val (.long q1), .second, .val (.double d2), .second, .val (.int p3), .val (.ref a4), .val (.long q5), .second] [])
  refine ogo (fun _ z_ => XS.aloadN X20.here hx rfl (hb hby d1_38) rfl rfl z_) ?_
  show OWay p e below G T20 (mkF m 39 #[.val (.ref a0), .val (.long q1), .second, .val (.double d2), .second, .val (.int p3), .val (.ref a4), .val (.long q5), .second] [(.ref a0)])
  refine ogo (fun _ z_ => XS.lload X20.here hx rfl (hb hby d1_39) rfl z_) ?_
  show OWay p e below G T20 (mkF m 41 #[.val (.ref a0), .val (.long q1), .second, .val (.double d2), .second, .val (.int p3), .val (.ref a4), .val (.long q5), .second] [(.long q5), (.ref a0)])
  have F22 : Exa Z h20 a0 "com/example/sito/sito/Slice" := (F18.wr W20)
  have F23 : Fld Z h20 a0 "com/example/sito/sito/Slice" "items" "J" (.long (0 : Int64)) := (((((hp9.other W2 (Or.inr (slot_ne (Or.inl (hw _ (List.mem_of_getElem? (i := 24) rfl))) (Or.inr (hw _ (List.mem_of_getElem? (i := 13) rfl))) (by decide) (t := .long) (t' := .long) (by decide) (by decide)))).other W6 (Or.inr (slot_ne (Or.inl (hw _ (List.mem_of_getElem? (i := 24) rfl))) (Or.inr (hw _ (List.mem_of_getElem? (i := 15) rfl))) (by decide) (t := .long) (t' := .double) (by decide) (by decide)))).other W10 (Or.inr (slot_ne (Or.inl (hw _ (List.mem_of_getElem? (i := 24) rfl))) (Or.inr (hw _ (List.mem_of_getElem? (i := 17) rfl))) (by decide) (t := .long) (t' := .int) (by decide) (by decide)))).other W16 (Or.inr (slot_ne (Or.inl (hw _ (List.mem_of_getElem? (i := 24) rfl))) (Or.inr (hw _ (List.mem_of_getElem? (i := 20) rfl))) (by decide) (t := .long) (t' := .long) (by decide) (by decide)))).other W20 (Or.inr (slot_ne (Or.inl (hw _ (List.mem_of_getElem? (i := 24) rfl))) (Or.inr (hw _ (List.mem_of_getElem? (i := 22) rfl))) (by decide) (t := .long) (t' := (.array .long)) (by decide) (by decide))))
  obtain ⟨T24, h24, X24, eT24, W24, st24⟩ := putF X20 hx hZ hown (host := "") (Or.inl (hw _ (List.mem_of_getElem? (i := 23) rfl))) Via.refl eT20 F23 F22 (Or.inl (hw _ (List.mem_of_getElem? (i := 24) rfl))) (hw _ (List.mem_of_getElem? (i := 4) rfl)) (ty := .long) (by decide) rfl rfl (g := (mkF m 41 #[.val (.ref a0), .val (.long q1), .second, .val (.double d2), .second, .val (.int p3), .val (.ref a4), .val (.long q5), .second] [(.long q5), (.ref a0)])) rfl rfl (hb hby d1_41)
  have K25 : Keep h0 h24 [a0] := K21.wr W24 (Or.inl (List.mem_of_getElem? (i := 0) rfl))
  have Fw24 : Fld Z h24 a0 "com/example/sito/sito/Slice" "items" "J" (.long q5) := F23.same W24
  have N24 := Fr.snoc X24 N20 g_a0
  refine ogo st24 ?_
  show OWay p e below G T24 (mkF m 44 #[.val (.ref a0), .val (.long q1), .second, .val (.double d2), .second, .val (.int p3), .val (.ref a4), .val (.long q5), .second] [])
  subst hG
  refine wRetV X24 hx hret hlk (hb hby d1_44) (by decide) (by decide) eT24 ?_
  exact ⟨rfl, N24, K25, (((((Fw2.other W6 (Or.inr (slot_ne (Or.inr (hw _ (List.mem_of_getElem? (i := 13) rfl))) (Or.inr (hw _ (List.mem_of_getElem? (i := 15) rfl))) (by decide) (t := .long) (t' := .double) (by decide) (by decide)))).other W10 (Or.inr (slot_ne (Or.inr (hw _ (List.mem_of_getElem? (i := 13) rfl))) (Or.inr (hw _ (List.mem_of_getElem? (i := 17) rfl))) (by decide) (t := .long) (t' := .int) (by decide) (by decide)))).other W16 (Or.inr (slot_ne (Or.inr (hw _ (List.mem_of_getElem? (i := 13) rfl))) (Or.inr (hw _ (List.mem_of_getElem? (i := 20) rfl))) (by decide) (t := .long) (t' := .long) (by decide) (by decide)))).other W20 (Or.inr (slot_ne (Or.inr (hw _ (List.mem_of_getElem? (i := 13) rfl))) (Or.inr (hw _ (List.mem_of_getElem? (i := 22) rfl))) (by decide) (t := .long) (t' := (.array .long)) (by decide) (by decide)))).other W24 (Or.inr (slot_ne (Or.inr (hw _ (List.mem_of_getElem? (i := 13) rfl))) (Or.inl (hw _ (List.mem_of_getElem? (i := 24) rfl))) (by decide) (t := .long) (t' := .long) (by decide) (by decide)))), ((((Fw6.other W10 (Or.inr (slot_ne (Or.inr (hw _ (List.mem_of_getElem? (i := 15) rfl))) (Or.inr (hw _ (List.mem_of_getElem? (i := 17) rfl))) (by decide) (t := .double) (t' := .int) (by decide) (by decide)))).other W16 (Or.inr (slot_ne (Or.inr (hw _ (List.mem_of_getElem? (i := 15) rfl))) (Or.inr (hw _ (List.mem_of_getElem? (i := 20) rfl))) (by decide) (t := .double) (t' := .long) (by decide) (by decide)))).other W20 (Or.inr (slot_ne (Or.inr (hw _ (List.mem_of_getElem? (i := 15) rfl))) (Or.inr (hw _ (List.mem_of_getElem? (i := 22) rfl))) (by decide) (t := .double) (t' := (.array .long)) (by decide) (by decide)))).other W24 (Or.inr (slot_ne (Or.inr (hw _ (List.mem_of_getElem? (i := 15) rfl))) (Or.inl (hw _ (List.mem_of_getElem? (i := 24) rfl))) (by decide) (t := .double) (t' := .long) (by decide) (by decide)))), (((Fw10.other W16 (Or.inr (slot_ne (Or.inr (hw _ (List.mem_of_getElem? (i := 17) rfl))) (Or.inr (hw _ (List.mem_of_getElem? (i := 20) rfl))) (by decide) (t := .int) (t' := .long) (by decide) (by decide)))).other W20 (Or.inr (slot_ne (Or.inr (hw _ (List.mem_of_getElem? (i := 17) rfl))) (Or.inr (hw _ (List.mem_of_getElem? (i := 22) rfl))) (by decide) (t := .int) (t' := (.array .long)) (by decide) (by decide)))).other W24 (Or.inr (slot_ne (Or.inr (hw _ (List.mem_of_getElem? (i := 17) rfl))) (Or.inl (hw _ (List.mem_of_getElem? (i := 24) rfl))) (by decide) (t := .int) (t' := .long) (by decide) (by decide)))), ((Fw16.other W20 (Or.inr (slot_ne (Or.inr (hw _ (List.mem_of_getElem? (i := 20) rfl))) (Or.inr (hw _ (List.mem_of_getElem? (i := 22) rfl))) (by decide) (t := .long) (t' := (.array .long)) (by decide) (by decide)))).other W24 (Or.inr (slot_ne (Or.inr (hw _ (List.mem_of_getElem? (i := 20) rfl))) (Or.inl (hw _ (List.mem_of_getElem? (i := 24) rfl))) (by decide) (t := .long) (t' := .long) (by decide) (by decide)))), (Fw20.other W24 (Or.inr (slot_ne (Or.inr (hw _ (List.mem_of_getElem? (i := 22) rfl))) (Or.inl (hw _ (List.mem_of_getElem? (i := 24) rfl))) (by decide) (t := (.array .long)) (t' := .long) (by decide) (by decide)))), Fw24⟩
def copy1_rm : Room := { frames := 2, cells := 2, slots := 7, locals := 33 }
def copy1_Q (Z : State) (a0 : Addr) (w0 : Int64) (w1 : UInt64) (w2 : Int32) (w4 : Addr) (w5 : Int64) (kk : ClassId) (y0 : Int64) (h0 : Heap) (n0 : Nat) (v : Option Value) (h : Heap) (L : List Loc) : Prop := ∃ b : Addr, ∃ c : Addr, ∃ kc : ClassId, (v = some (.ref b)) ∧ (Fr n0 L) ∧ (Keep h0 h []) ∧ (n0 ≤ b) ∧ (h0.size ≤ b) ∧ (n0 ≤ c) ∧ (h0.size ≤ c) ∧ (c ≠ b) ∧ (Exa Z h b "com/example/sito/sito/Slice") ∧ (Fld Z h b "com/example/sito/sito/Slice" "capacity" "J" (.long w0)) ∧ (Fld Z h b "com/example/sito/sito/Slice" "bound" "D" (.double w1)) ∧ (Fld Z h b "com/example/sito/sito/Slice" "hashCount" "I" (.int w2)) ∧ (Fld Z h b "com/example/sito/sito/Slice" "bitCount" "J" (.long (64 : Int64))) ∧ (Fld Z h b "com/example/sito/sito/Slice" "words" "[J" (.ref c)) ∧ (Fld Z h b "com/example/sito/sito/Slice" "items" "J" (.long w5)) ∧ (Arv Z h c kc .long (1 : Int32) [(.long y0)] (.long (0 : Int64)))
theorem copy1_ef (m : MethodId) (a0 : Addr) : entryFrame m #[(.ref a0)] 1 = mkF m 0 #[.val (.ref a0)] [] := by first | (simp [entryFrame, mkF, argsToLocals, Value.category]; done) | rfl
set_option maxRecDepth 65536 in
set_option maxHeartbeats 40000000 in
theorem copy1_c (l : Launch) (Z : State) (az : Array Value) (hw : ∀ d ∈ tables_1, d.before az Z = true) (ws : List Jvm.Cond) (a0 : Addr) (w0 : Int64) (w1 : UInt64) (w2 : Int32) (w4 : Addr) (w5 : Int64) (kk : ClassId) (y0 : Int64) (h0 : Heap) (n0 : Nat) (Z0 : n0 ≤ h0.size) (hp0 : Fld Z h0 a0 "com/example/sito/sito/Slice" "capacity" "J" (.long w0)) (hp1 : Fld Z h0 a0 "com/example/sito/sito/Slice" "bound" "D" (.double w1)) (hp2 : Fld Z h0 a0 "com/example/sito/sito/Slice" "hashCount" "I" (.int w2)) (hp3 : Fld Z h0 a0 "com/example/sito/sito/Slice" "words" "[J" (.ref w4)) (hp4 : Fld Z h0 a0 "com/example/sito/sito/Slice" "items" "J" (.long w5)) (hp5 : Arv Z h0 w4 kk .long (1 : Int32) [(.long y0)] (.long (0 : Int64))) (hp6 : Exa Z h0 w4 "[J") :
    OCon l (⟨"com/example/sito/sito/Slice", "copy", "()Lcom/example/sito/sito/Slice;"⟩ : MethodName) prog_6_method_3_code 1 (some (.object "com/example/sito/sito/Slice")) ws copy1_rm Z #[(.ref a0)] h0 (copy1_Q Z a0 w0 w1 w2 w4 w5 kk y0 h0 n0) := by
  refine ocon (plainFor_of_name pn_com_example_sito_sito_Slice) ?_
  intro p e s m below meth c s₁ hx hby hml hown hnm hret hlk hZ X0 eh0
  have N0 := Fr.nil n0
  have K0 := Keep.refl h0 []
  refine ogoE (copy1_ef m a0) ?_
  generalize hG : (OEnd s below (copy1_Q Z a0 w0 w1 w2 w4 w5 kk y0 h0 n0) copy1_rm.cells copy1_rm.slots) = G
  show OWay p e below G s₁ (mkF m 0 #[.val (.ref a0)] [])
  obtain ⟨T1, h1, X1, eT1, E1, A1, D1, -, st1⟩ := newO X0 hx hZ hown (hw _ (List.mem_of_getElem? (i := 30) rfl)) (hw _ (List.mem_of_getElem? (i := 4) rfl)) (hw _ (List.mem_of_getElem? (i := 5) rfl)) eh0 (g := (mkF m 0 #[.val (.ref a0)] [])) rfl (hb hby d3_0) (by decide) (by decide)
  obtain ⟨b1, g1⟩ : ∃ z, z = h0.size := ⟨_, rfl⟩
  rw [← g1] at A1 D1 st1
  have g_b1 : n0 ≤ b1 := Nat.le_trans Z0 (Nat.le_of_eq g1.symm)
  have sz_b1 : h0.size ≤ b1 := Nat.le_trans K0.1 (Nat.le_of_eq g1.symm)
  have K2 : Keep h0 h1 [] := K0.ext E1
  have F_capacity_b1 : Fld Z h1 b1 "com/example/sito/sito/Slice" "capacity" "J" (.long (0 : Int64)) := D1 (Or.inr (hw _ (List.mem_of_getElem? (i := 13) rfl))) (ty := .long) (by decide)
  have F_bound_b1 : Fld Z h1 b1 "com/example/sito/sito/Slice" "bound" "D" (.double (0 : UInt64)) := D1 (Or.inr (hw _ (List.mem_of_getElem? (i := 15) rfl))) (ty := .double) (by decide)
  have F_hashCount_b1 : Fld Z h1 b1 "com/example/sito/sito/Slice" "hashCount" "I" (.int (0 : Int32)) := D1 (Or.inr (hw _ (List.mem_of_getElem? (i := 17) rfl))) (ty := .int) (by decide)
  have F_bitCount_b1 : Fld Z h1 b1 "com/example/sito/sito/Slice" "bitCount" "J" (.long (0 : Int64)) := D1 (Or.inr (hw _ (List.mem_of_getElem? (i := 20) rfl))) (ty := .long) (by decide)
  have F_words_b1 : Fld Z h1 b1 "com/example/sito/sito/Slice" "words" "[J" .null := D1 (Or.inr (hw _ (List.mem_of_getElem? (i := 22) rfl))) (ty := (.array .long)) (by decide)
  have F_items_b1 : Fld Z h1 b1 "com/example/sito/sito/Slice" "items" "J" (.long (0 : Int64)) := D1 (Or.inl (hw _ (List.mem_of_getElem? (i := 24) rfl))) (ty := .long) (by decide)
  refine ogo st1 ?_
  show OWay p e below G T1 (mkF m 3 #[.val (.ref a0)] [(.ref b1)])
  refine ogo (fun _ z_ => XS.dup X1.here hx rfl (hb hby d3_3) rfl rfl z_) ?_
  show OWay p e below G T1 (mkF m 4 #[.val (.ref a0)] [(.ref b1), (.ref b1)])
  refine ogo (fun _ z_ => XS.aloadN X1.here hx rfl (hb hby d3_4) rfl rfl z_) ?_
  show OWay p e below G T1 (mkF m 5 #[.val (.ref a0)] [(.ref a0), (.ref b1), (.ref b1)])
  have F3 : Fld Z h1 a0 "com/example/sito/sito/Slice" "capacity" "J" (.long w0) := (hp0.ext E1)
  obtain ⟨T4, X4, eT4, st4⟩ := getF X1 hx hZ hown (host := "") (Or.inl (hw _ (List.mem_of_getElem? (i := 12) rfl))) Via.refl eT1 F3 (g := (mkF m 5 #[.val (.ref a0)] [(.ref a0), (.ref b1), (.ref b1)])) rfl rfl (hb hby d3_5)
  refine ogo st4 ?_
  show OWay p e below G T4 (mkF m 8 #[.val (.ref a0)] [(.long w0), (.ref b1), (.ref b1)])
  refine ogo (fun _ z_ => XS.aloadN X4.here hx rfl (hb hby d3_8) rfl rfl z_) ?_
  show OWay p e below G T4 (mkF m 9 #[.val (.ref a0)] [(.ref a0), (.long w0), (.ref b1), (.ref b1)])
  have F5 : Fld Z h1 a0 "com/example/sito/sito/Slice" "bound" "D" (.double w1) := (hp1.ext E1)
  obtain ⟨T6, X6, eT6, st6⟩ := getF X4 hx hZ hown (host := "") (Or.inl (hw _ (List.mem_of_getElem? (i := 14) rfl))) Via.refl eT4 F5 (g := (mkF m 9 #[.val (.ref a0)] [(.ref a0), (.long w0), (.ref b1), (.ref b1)])) rfl rfl (hb hby d3_9)
  refine ogo st6 ?_
  show OWay p e below G T6 (mkF m 12 #[.val (.ref a0)] [(.double w1), (.long w0), (.ref b1), (.ref b1)])
  refine ogo (fun _ z_ => XS.aloadN X6.here hx rfl (hb hby d3_12) rfl rfl z_) ?_
  show OWay p e below G T6 (mkF m 13 #[.val (.ref a0)] [(.ref a0), (.double w1), (.long w0), (.ref b1), (.ref b1)])
  have F7 : Fld Z h1 a0 "com/example/sito/sito/Slice" "hashCount" "I" (.int w2) := (hp2.ext E1)
  obtain ⟨T8, X8, eT8, st8⟩ := getF X6 hx hZ hown (host := "") (Or.inl (hw _ (List.mem_of_getElem? (i := 16) rfl))) Via.refl eT6 F7 (g := (mkF m 13 #[.val (.ref a0)] [(.ref a0), (.double w1), (.long w0), (.ref b1), (.ref b1)])) rfl rfl (hb hby d3_13)
  refine ogo st8 ?_
  show OWay p e below G T8 (mkF m 16 #[.val (.ref a0)] [(.int w2), (.double w1), (.long w0), (.ref b1), (.ref b1)])
  refine ogo (fun _ z_ => XS.aloadN X8.here hx rfl (hb hby d3_16) rfl rfl z_) ?_
  show OWay p e below G T8 (mkF m 17 #[.val (.ref a0)] [(.ref a0), (.int w2), (.double w1), (.long w0), (.ref b1), (.ref b1)])
  have F9 : Fld Z h1 a0 "com/example/sito/sito/Slice" "words" "[J" (.ref w4) := (hp3.ext E1)
  obtain ⟨T10, X10, eT10, st10⟩ := getF X8 hx hZ hown (host := "") (Or.inl (hw _ (List.mem_of_getElem? (i := 21) rfl))) Via.refl eT8 F9 (g := (mkF m 17 #[.val (.ref a0)] [(.ref a0), (.int w2), (.double w1), (.long w0), (.ref b1), (.ref b1)])) rfl rfl (hb hby d3_17)
  refine ogo st10 ?_
  show OWay p e below G T10 (mkF m 20 #[.val (.ref a0)] [(.ref w4), (.int w2), (.double w1), (.long w0), (.ref b1), (.ref b1)])
  have F12 : Arv Z h1 w4 kk .long (1 : Int32) [(.long y0)] (.long (0 : Int64)) := (hp5.ext E1)
  have F13 : Exa Z h1 w4 "[J" := (hp6.ext E1)
  obtain ⟨cl11, Ar11, q11, Sz11, Nn11, Hh11, Gg11⟩ := F12
  obtain ⟨T11, h11, X11, eT11, E11, A11, D11, st11⟩ := cloneA X10 hx hZ hown (hw _ (List.mem_of_getElem? (i := 31) rfl)) (hw _ (List.mem_of_getElem? (i := 32) rfl)) (hw _ (List.mem_of_getElem? (i := 36) rfl)) (hw _ (List.mem_of_getElem? (i := 34) rfl)) (hw _ (List.mem_of_getElem? (i := 35) rfl)) (hw _ (List.mem_of_getElem? (i := 37) rfl)) eT10 Ar11 F13 (own_fitC Ar11 Hh11 Gg11) (g := (mkF m 20 #[.val (.ref a0)] [(.ref w4), (.int w2), (.double w1), (.long w0), (.ref b1), (.ref b1)])) rfl (by rw [hml]; rfl) rfl (hb hby d3_20) (by decide) (W := 7) (cap := 1) (by show 2 * 0 + _ ≤ _; exact Nat.le_of_eq rfl) (by decide) (by rw [Sz11]; decide) (by decide) (by decide)
  obtain ⟨b11, g11⟩ : ∃ z, z = h1.size := ⟨_, rfl⟩
  rw [← g11] at A11 D11 st11
  have g_b11 : n0 ≤ b11 := Nat.le_trans (Nat.le_trans Z0 E1.1) (Nat.le_of_eq g11.symm)
  have sz_b11 : h0.size ≤ b11 := Nat.le_trans K2.1 (Nat.le_of_eq g11.symm)
  have K14 : Keep h0 h11 [] := K2.ext E11
  have V_b11 : Arv Z h11 b11 cl11.cls .long (1 : Int32) [(.long y0)] (.long (0 : Int64)) := own_clone A11 Sz11 Nn11 Hh11 Gg11
  refine ogo st11 ?_
  show OWay p e below G T11 (mkF m 23 #[.val (.ref a0)] [(.ref b11), (.int w2), (.double w1), (.long w0), (.ref b1), (.ref b1)])
  obtain ⟨T15, X15, eT15, st15⟩ := castY X11 hx hZ hown (hw _ (List.mem_of_getElem? (i := 38) rfl)) eT11 (Ins.self D11) (g := (mkF m 23 #[.val (.ref a0)] [(.ref b11), (.int w2), (.double w1), (.long w0), (.ref b1), (.ref b1)])) rfl rfl (hb hby d3_23)
  refine ogo st15 ?_
  show OWay p e below G T15 (mkF m 26 #[.val (.ref a0)] [(.ref b11), (.int w2), (.double w1), (.long w0), (.ref b1), (.ref b1)])
  refine ogo (fun _ z_ => XS.aloadN X15.here hx rfl (hb hby d3_26) rfl rfl z_) ?_
  show OWay p e below G T15 (mkF m 27 #[.val (.ref a0)] [(.ref a0), (.ref b11), (.int w2), (.double w1), (.long w0), (.ref b1), (.ref b1)])
  have F16 : Fld Z h11 a0 "com/example/sito/sito/Slice" "items" "J" (.long w5) := ((hp4.ext E1).ext E11)
  obtain ⟨T17, X17, eT17, st17⟩ := getF X15 hx hZ hown (host := "") (Or.inl (hw _ (List.mem_of_getElem? (i := 23) rfl))) Via.refl eT15 F16 (g := (mkF m 27 #[.val (.ref a0)] [(.ref a0), (.ref b11), (.int w2), (.double w1), (.long w0), (.ref b1), (.ref b1)])) rfl rfl (hb hby d3_27)
  refine ogo st17 ?_
  show OWay p e below G T17 (mkF m 30 #[.val (.ref a0)] [(.long w5), (.ref b11), (.int w2), (.double w1), (.long w0), (.ref b1), (.ref b1)])
  have F18 : Exa Z h11 b1 "com/example/sito/sito/Slice" := (A1.ext E11)
  have F19 : Fld Z h11 b1 "com/example/sito/sito/Slice" "capacity" "J" (.long (0 : Int64)) := (F_capacity_b1.ext E11)
  have F20 : Fld Z h11 b1 "com/example/sito/sito/Slice" "bound" "D" (.double (0 : UInt64)) := (F_bound_b1.ext E11)
  have F21 : Fld Z h11 b1 "com/example/sito/sito/Slice" "hashCount" "I" (.int (0 : Int32)) := (F_hashCount_b1.ext E11)
  have F22 : Fld Z h11 b1 "com/example/sito/sito/Slice" "bitCount" "J" (.long (0 : Int64)) := (F_bitCount_b1.ext E11)
  have F23 : Fld Z h11 b1 "com/example/sito/sito/Slice" "words" "[J" .null := (F_words_b1.ext E11)
  have F24 : Fld Z h11 b1 "com/example/sito/sito/Slice" "items" "J" (.long (0 : Int64)) := (F_items_b1.ext E11)
  obtain ⟨_, T25, L25, X25, hQ25, st25⟩ := wInit X17 hx hZ (y := (⟨"com/example/sito/sito/Slice", "<init>", "(JDI[JJ)V"⟩ : MethodName)) rfl hown (hw _ (List.mem_of_getElem? (i := 40) rfl)) (hw _ (List.mem_of_getElem? (i := 7) rfl)) (hw _ (List.mem_of_getElem? (i := 5) rfl)) (hw _ (List.mem_of_getElem? (i := 8) rfl)) (by decide) (ctor_1_c l Z az hw [] b1 w0 w1 w2 b11 w5 cl11.cls (.long y0) h11 n0 (Nat.le_trans (Nat.le_trans Z0 E1.1) E11.1) V_b11 (Ne.symm (Nat.ne_of_lt (Nat.lt_of_lt_of_le A1.lt (Nat.le_of_eq g11.symm)))) F18 g_b1 F19 F20 F21 F22 F23 F24) 1 (by decide) (by decide) (g := (mkF m 30 #[.val (.ref a0)] [(.long w5), (.ref b11), (.int w2), (.double w1), (.long w0), (.ref b1), (.ref b1)])) rfl (by rw [hml]; rfl) (a := b1) (argsL := [(.long w0), (.double w1), (.int w2), (.ref b11), (.long w5)]) (rest := [(.ref b1)]) (lenOf pd__JDI_JJ_V rfl) rfl (by show 2 * 0 + _ ≤ _; exact Nat.le_of_eq rfl) (hb hby d3_30) rfl eT17 (by decide) (by decide)
  obtain ⟨rfl, N25q, Kq25, P26, P27, P28, P29, P30, P31⟩ := hQ25
  have N25 := Fr.app N0 N25q
  have K32 : Keep h0 T25.heap [] := K14.trans Kq25 (allS (Or.inr sz_b1) all0)
  refine ogoS st25 ?_
  show OWay p e below G T25 (mkF m 33 #[.val (.ref a0)] [(.ref b1)])
  subst hG
  refine wRet X25 hx hret hlk rfl (Or.inr (Or.inr (Or.inr (Or.inr ⟨rfl, rfl, rfl⟩)))) (hb hby d3_33) (by decide) (by decide) rfl ?_
  exact ⟨b1, b11, cl11.cls, rfl, N25, K32, g_b1, sz_b1, g_b11, sz_b11, (Ne.symm (Nat.ne_of_lt (Nat.lt_of_lt_of_le A1.lt (Nat.le_of_eq g11.symm)))), (F18.keep Kq25), P26, P27, P28, P29, P30, P31, (V_b11.keep Kq25 (ninS (Ne.symm (Nat.ne_of_lt (Nat.lt_of_lt_of_le A1.lt (Nat.le_of_eq g11.symm)))) nin0))⟩
def ctor_2_rm : Room := { frames := 1, cells := 0, slots := 0, locals := 12 }
def ctor_2_Q (Z : State) (a0 : Addr) (q1 : Int64) (d2 : UInt64) (p3 : Int32) (a4 : Addr) (q5 : Int64) (kk : ClassId) (x0 : Value) (x1 : Value) (h0 : Heap) (n0 : Nat) (v : Option Value) (h : Heap) (L : List Loc) : Prop := (v = none) ∧ (Fr n0 L) ∧ (Keep h0 h [a0]) ∧ (Fld Z h a0 "com/example/sito/sito/Slice" "capacity" "J" (.long q1)) ∧ (Fld Z h a0 "com/example/sito/sito/Slice" "bound" "D" (.double d2)) ∧ (Fld Z h a0 "com/example/sito/sito/Slice" "hashCount" "I" (.int p3)) ∧ (Fld Z h a0 "com/example/sito/sito/Slice" "bitCount" "J" (.long (128 : Int64))) ∧ (Fld Z h a0 "com/example/sito/sito/Slice" "words" "[J" (.ref a4)) ∧ (Fld Z h a0 "com/example/sito/sito/Slice" "items" "J" (.long q5))
theorem ctor_2_ef (m : MethodId) (a0 : Addr) (q1 : Int64) (d2 : UInt64) (p3 : Int32) (a4 : Addr) (q5 : Int64) : entryFrame m #[(.ref a0), (.long q1), (.double d2), (.int p3), (.ref a4), (.long q5)] 9 = mkF m 0 #[.val (.ref a0), .val (.long q1), .second, .val (.double d2), .second, .val (.int p3), .val (.ref a4), .val (.long q5), .second] [] := by first | (simp [entryFrame, mkF, argsToLocals, Value.category]; done) | rfl
set_option maxRecDepth 65536 in
set_option maxHeartbeats 40000000 in
theorem ctor_2_c (l : Launch) (Z : State) (az : Array Value) (hw : ∀ d ∈ tables_1, d.before az Z = true) (ws : List Jvm.Cond) (a0 : Addr) (q1 : Int64) (d2 : UInt64) (p3 : Int32) (a4 : Addr) (q5 : Int64) (kk : ClassId) (x0 : Value) (x1 : Value) (h0 : Heap) (n0 : Nat) (Z0 : n0 ≤ h0.size) (hp0 : Arv Z h0 a4 kk .long (2 : Int32) [x0, x1] (.long (0 : Int64))) (hp1 : a4 ≠ a0) (hp2 : Exa Z h0 a0 "com/example/sito/sito/Slice") (hp3 : n0 ≤ a0) (hp4 : Fld Z h0 a0 "com/example/sito/sito/Slice" "capacity" "J" (.long (0 : Int64))) (hp5 : Fld Z h0 a0 "com/example/sito/sito/Slice" "bound" "D" (.double (0 : UInt64))) (hp6 : Fld Z h0 a0 "com/example/sito/sito/Slice" "hashCount" "I" (.int (0 : Int32))) (hp7 : Fld Z h0 a0 "com/example/sito/sito/Slice" "bitCount" "J" (.long (0 : Int64))) (hp8 : Fld Z h0 a0 "com/example/sito/sito/Slice" "words" "[J" .null) (hp9 : Fld Z h0 a0 "com/example/sito/sito/Slice" "items" "J" (.long (0 : Int64))) :
    OCon l (⟨"com/example/sito/sito/Slice", "<init>", "(JDI[JJ)V"⟩ : MethodName) prog_6_method_1_code 9 none ws ctor_2_rm Z #[(.ref a0), (.long q1), (.double d2), (.int p3), (.ref a4), (.long q5)] h0 (ctor_2_Q Z a0 q1 d2 p3 a4 q5 kk x0 x1 h0 n0) := by
  refine ocon (plainFor_of_name pn_com_example_sito_sito_Slice) ?_
  intro p e s m below meth c s₁ hx hby hml hown hnm hret hlk hZ X0 eh0
  have N0 := Fr.nil n0
  have K0 := Keep.refl h0 [a0]
  refine ogoE (ctor_2_ef m a0 q1 d2 p3 a4 q5) ?_
  have g_a0 := hp3
  generalize hG : (OEnd s below (ctor_2_Q Z a0 q1 d2 p3 a4 q5 kk x0 x1 h0 n0) ctor_2_rm.cells ctor_2_rm.slots) = G
  show OWay p e below G s₁ (mkF m 0 #[.val (.ref a0), .val (.long q1), .second, .val (.double d2), .second, .val (.int p3), .val (.ref a4), .val (.long q5), .second] [])
  refine ogo (fun _ z_ => XS.aloadN X0.here hx rfl (hb hby d1_0) rfl rfl z_) ?_
  show OWay p e below G s₁ (mkF m 1 #[.val (.ref a0), .val (.long q1), .second, .val (.double d2), .second, .val (.int p3), .val (.ref a4), .val (.long q5), .second] [(.ref a0)])
  obtain ⟨T1, X1, eT1, st1⟩ := initO X0 hx hZ hown (hw _ (List.mem_of_getElem? (i := 9) rfl)) (hw _ (List.mem_of_getElem? (i := 10) rfl)) (hw _ (List.mem_of_getElem? (i := 11) rfl)) eh0 (g := (mkF m 1 #[.val (.ref a0), .val (.long q1), .second, .val (.double d2), .second, .val (.int p3), .val (.ref a4), .val (.long q5), .second] [(.ref a0)])) rfl (by rw [hml]; rfl) rfl (hb hby d1_1) (by decide) (W := 0) (by show 2 * 0 + _ ≤ _; exact Nat.le_of_eq rfl) (by decide)
  refine ogo st1 ?_
  show OWay p e below G T1 (mkF m 4 #[.val (.ref a0), .val (.long q1), .second, .val (.double d2), .second, .val (.int p3), .val (.ref a4), .val (.long q5), .second] [])
  refine ogo (fun _ z_ => XS.aloadN X1.here hx rfl (hb hby d1_4) rfl rfl z_) ?_
  show OWay p e below G T1 (mkF m 5 #[.val (.ref a0), .val (.long q1), .second, .val (.double d2), .second, .val (.int p3), .val (.ref a4), .val (.long q5), .second] [(.ref a0)])
  refine ogo (fun _ z_ => XS.lloadN X1.here hx rfl (hb hby d1_5) rfl z_) ?_
  show OWay p e below G T1 (mkF m 6 #[.val (.ref a0), .val (.long q1), .second, .val (.double d2), .second, .val (.int p3), .val (.ref a4), .val (.long q5), .second] [(.long q1), (.ref a0)])
  obtain ⟨T2, h2, X2, eT2, W2, st2⟩ := putF X1 hx hZ hown (host := "") (Or.inl (hw _ (List.mem_of_getElem? (i := 12) rfl))) Via.refl eT1 hp4 hp2 (Or.inr ⟨(hw _ (List.mem_of_getElem? (i := 13) rfl)), rfl, hnm⟩) (hw _ (List.mem_of_getElem? (i := 4) rfl)) (ty := .long) (by decide) rfl rfl (g := (mkF m 6 #[.val (.ref a0), .val (.long q1), .second, .val (.double d2), .second, .val (.int p3), .val (.ref a4), .val (.long q5), .second] [(.long q1), (.ref a0)])) rfl rfl (hb hby d1_6)
  have K3 : Keep h0 h2 [a0] := K0.wr W2 (Or.inl (List.mem_of_getElem? (i := 0) rfl))
  have Fw2 : Fld Z h2 a0 "com/example/sito/sito/Slice" "capacity" "J" (.long q1) := hp4.same W2
  have N2 := Fr.snoc X2 N0 g_a0
  refine ogo st2 ?_
  show OWay p e below G T2 (mkF m 9 #[.val (.ref a0), .val (.long q1), .second, .val (.double d2), .second, .val (.int p3), .val (.ref a4), .val (.long q5), .second] [])
  refine ogo (fun _ z_ => XS.aloadN X2.here hx rfl (hb hby d1_9) rfl rfl z_) ?_
  show OWay p e below G T2 (mkF m 10 #[.val (.ref a0), .val (.long q1), .second, .val (.double d2), .second, .val (.int p3), .val (.ref a4), .val (.long q5), .second] [(.ref a0)])
  refine ogo (fun _ z_ => XS.dloadN X2.here hx rfl (hb hby d1_10) rfl z_) ?_
  show OWay p e below G T2 (mkF m 11 #[.val (.ref a0), .val (.long q1), .second, .val (.double d2), .second, .val (.int p3), .val (.ref a4), .val (.long q5), .second] [(.double d2), (.ref a0)])
  have F4 : Exa Z h2 a0 "com/example/sito/sito/Slice" := (hp2.wr W2)
  have F5 : Fld Z h2 a0 "com/example/sito/sito/Slice" "bound" "D" (.double (0 : UInt64)) := (hp5.other W2 (Or.inr (slot_ne (Or.inr (hw _ (List.mem_of_getElem? (i := 15) rfl))) (Or.inr (hw _ (List.mem_of_getElem? (i := 13) rfl))) (by decide) (t := .double) (t' := .long) (by decide) (by decide))))
  obtain ⟨T6, h6, X6, eT6, W6, st6⟩ := putF X2 hx hZ hown (host := "") (Or.inl (hw _ (List.mem_of_getElem? (i := 14) rfl))) Via.refl eT2 F5 F4 (Or.inr ⟨(hw _ (List.mem_of_getElem? (i := 15) rfl)), rfl, hnm⟩) (hw _ (List.mem_of_getElem? (i := 4) rfl)) (ty := .double) (by decide) rfl rfl (g := (mkF m 11 #[.val (.ref a0), .val (.long q1), .second, .val (.double d2), .second, .val (.int p3), .val (.ref a4), .val (.long q5), .second] [(.double d2), (.ref a0)])) rfl rfl (hb hby d1_11)
  have K7 : Keep h0 h6 [a0] := K3.wr W6 (Or.inl (List.mem_of_getElem? (i := 0) rfl))
  have Fw6 : Fld Z h6 a0 "com/example/sito/sito/Slice" "bound" "D" (.double d2) := F5.same W6
  have N6 := Fr.snoc X6 N2 g_a0
  refine ogo st6 ?_
  show OWay p e below G T6 (mkF m 14 #[.val (.ref a0), .val (.long q1), .second, .val (.double d2), .second, .val (.int p3), .val (.ref a4), .val (.long q5), .second] [])
  refine ogo (fun _ z_ => XS.aloadN X6.here hx rfl (hb hby d1_14) rfl rfl z_) ?_
  show OWay p e below G T6 (mkF m 15 #[.val (.ref a0), .val (.long q1), .second, .val (.double d2), .second, .val (.int p3), .val (.ref a4), .val (.long q5), .second] [(.ref a0)])
  refine ogo (fun _ z_ => XS.iload X6.here hx rfl (hb hby d1_15) rfl z_) ?_
  show OWay p e below G T6 (mkF m 17 #[.val (.ref a0), .val (.long q1), .second, .val (.double d2), .second, .val (.int p3), .val (.ref a4), .val (.long q5), .second] [(.int p3), (.ref a0)])
  have F8 : Exa Z h6 a0 "com/example/sito/sito/Slice" := (F4.wr W6)
  have F9 : Fld Z h6 a0 "com/example/sito/sito/Slice" "hashCount" "I" (.int (0 : Int32)) := ((hp6.other W2 (Or.inr (slot_ne (Or.inr (hw _ (List.mem_of_getElem? (i := 17) rfl))) (Or.inr (hw _ (List.mem_of_getElem? (i := 13) rfl))) (by decide) (t := .int) (t' := .long) (by decide) (by decide)))).other W6 (Or.inr (slot_ne (Or.inr (hw _ (List.mem_of_getElem? (i := 17) rfl))) (Or.inr (hw _ (List.mem_of_getElem? (i := 15) rfl))) (by decide) (t := .int) (t' := .double) (by decide) (by decide))))
  obtain ⟨T10, h10, X10, eT10, W10, st10⟩ := putF X6 hx hZ hown (host := "") (Or.inl (hw _ (List.mem_of_getElem? (i := 16) rfl))) Via.refl eT6 F9 F8 (Or.inr ⟨(hw _ (List.mem_of_getElem? (i := 17) rfl)), rfl, hnm⟩) (hw _ (List.mem_of_getElem? (i := 4) rfl)) (ty := .int) (by decide) rfl rfl (g := (mkF m 17 #[.val (.ref a0), .val (.long q1), .second, .val (.double d2), .second, .val (.int p3), .val (.ref a4), .val (.long q5), .second] [(.int p3), (.ref a0)])) rfl rfl (hb hby d1_17)
  have K11 : Keep h0 h10 [a0] := K7.wr W10 (Or.inl (List.mem_of_getElem? (i := 0) rfl))
  have Fw10 : Fld Z h10 a0 "com/example/sito/sito/Slice" "hashCount" "I" (.int p3) := F9.same W10
  have N10 := Fr.snoc X10 N6 g_a0
  refine ogo st10 ?_
  show OWay p e below G T10 (mkF m 20 #[.val (.ref a0), .val (.long q1), .second, .val (.double d2), .second, .val (.int p3), .val (.ref a4), .val (.long q5), .second] [])
  refine ogo (fun _ z_ => XS.aloadN X10.here hx rfl (hb hby d1_20) rfl rfl z_) ?_
  show OWay p e below G T10 (mkF m 21 #[.val (.ref a0), .val (.long q1), .second, .val (.double d2), .second, .val (.int p3), .val (.ref a4), .val (.long q5), .second] [(.ref a0)])
  refine ogo (fun _ z_ => X10.ldc2Long hx hown (mvT hZ (hw _ (List.mem_of_getElem? (i := 18) rfl))) (g := (mkF m 21 #[.val (.ref a0), .val (.long q1), .second, .val (.double d2), .second, .val (.int p3), .val (.ref a4), .val (.long q5), .second] [(.ref a0)])) rfl (hb hby d1_21) _ z_) ?_
  show OWay p e below G T10 (mkF m 24 #[.val (.ref a0), .val (.long q1), .second, .val (.double d2), .second, .val (.int p3), .val (.ref a4), .val (.long q5), .second] [(.long (64 : Int64)), (.ref a0)])
  refine ogo (fun _ z_ => XS.aload X10.here hx rfl (hb hby d1_24) rfl rfl z_) ?_
  show OWay p e below G T10 (mkF m 26 #[.val (.ref a0), .val (.long q1), .second, .val (.double d2), .second, .val (.int p3), .val (.ref a4), .val (.long q5), .second] [(.ref a4), (.long (64 : Int64)), (.ref a0)])
  have F12 : Arv Z h10 a4 kk .long (2 : Int32) [x0, x1] (.long (0 : Int64)) := (((hp0.other W2 hp1).other W6 hp1).other W10 hp1)
  obtain ⟨cl_o13, Ar_o13, -, S_o13, N_o13, -, -⟩ := id F12
  refine ogo (fun _ z_ => X10.arraylength hx (by rw [eT10]; exact Ar_o13.1) (State.isArrayOf_alike hZ.alike Ar_o13.2.1) (g := (mkF m 26 #[.val (.ref a0), .val (.long q1), .second, .val (.double d2), .second, .val (.int p3), .val (.ref a4), .val (.long q5), .second] [(.ref a4), (.long (64 : Int64)), (.ref a0)])) rfl rfl (hb hby d1_26) _ z_) ?_
  rw [len_of S_o13 N_o13]
  show OWay p e below G T10 (mkF m 27 #[.val (.ref a0), .val (.long q1), .second, .val (.double d2), .second, .val (.int p3), .val (.ref a4), .val (.long q5), .second] [(.int (2 : Int32)), (.long (64 : Int64)), (.ref a0)])
  refine ogo (fun _ z_ => XS.i2l X10.here hx rfl (hb hby d1_27) rfl z_) ?_
  show OWay p e below G T10 (mkF m 28 #[.val (.ref a0), .val (.long q1), .second, .val (.double d2), .second, .val (.int p3), .val (.ref a4), .val (.long q5), .second] [(.long ((2 : Int32).toInt64)), (.long (64 : Int64)), (.ref a0)])
  refine ogoE (g' := (mkF m 28 #[.val (.ref a0), .val (.long q1), .second, .val (.double d2), .second, .val (.int p3), .val (.ref a4), .val (.long q5), .second] [(.long (2 : Int64)), (.long (64 : Int64)), (.ref a0)])) (by rw [show ((2 : Int32).toInt64) = (2 : Int64) from by decide]) ?_
  refine ogo (fun _ z_ => XS.lmul X10.here hx rfl (hb hby d1_28) rfl z_) ?_
  show OWay p e below G T10 (mkF m 29 #[.val (.ref a0), .val (.long q1), .second, .val (.double d2), .second, .val (.int p3), .val (.ref a4), .val (.long q5), .second] [(.long ((64 : Int64) * (2 : Int64))), (.ref a0)])
  refine ogoE (g' := (mkF m 29 #[.val (.ref a0), .val (.long q1), .second, .val (.double d2), .second, .val (.int p3), .val (.ref a4), .val (.long q5), .second] [(.long (128 : Int64)), (.ref a0)])) (by rw [show ((64 : Int64) * (2 : Int64)) = (128 : Int64) from by decide]) ?_
  have F14 : Exa Z h10 a0 "com/example/sito/sito/Slice" := (F8.wr W10)
  have F15 : Fld Z h10 a0 "com/example/sito/sito/Slice" "bitCount" "J" (.long (0 : Int64)) := (((hp7.other W2 (Or.inr (slot_ne (Or.inr (hw _ (List.mem_of_getElem? (i := 20) rfl))) (Or.inr (hw _ (List.mem_of_getElem? (i := 13) rfl))) (by decide) (t := .long) (t' := .long) (by decide) (by decide)))).other W6 (Or.inr (slot_ne (Or.inr (hw _ (List.mem_of_getElem? (i := 20) rfl))) (Or.inr (hw _ (List.mem_of_getElem? (i := 15) rfl))) (by decide) (t := .long) (t' := .double) (by decide) (by decide)))).other W10 (Or.inr (slot_ne (Or.inr (hw _ (List.mem_of_getElem? (i := 20) rfl))) (Or.inr (hw _ (List.mem_of_getElem? (i := 17) rfl))) (by decide) (t := .long) (t' := .int) (by decide) (by decide))))
  obtain ⟨T16, h16, X16, eT16, W16, st16⟩ := putF X10 hx hZ hown (host := "") (Or.inl (hw _ (List.mem_of_getElem? (i := 19) rfl))) Via.refl eT10 F15 F14 (Or.inr ⟨(hw _ (List.mem_of_getElem? (i := 20) rfl)), rfl, hnm⟩) (hw _ (List.mem_of_getElem? (i := 4) rfl)) (ty := .long) (by decide) rfl rfl (g := (mkF m 29 #[.val (.ref a0), .val (.long q1), .second, .val (.double d2), .second, .val (.int p3), .val (.ref a4), .val (.long q5), .second] [(.long (128 : Int64)), (.ref a0)])) rfl rfl (hb hby d1_29)
  have K17 : Keep h0 h16 [a0] := K11.wr W16 (Or.inl (List.mem_of_getElem? (i := 0) rfl))
  have Fw16 : Fld Z h16 a0 "com/example/sito/sito/Slice" "bitCount" "J" (.long (128 : Int64)) := F15.same W16
  have N16 := Fr.snoc X16 N10 g_a0
  refine ogo st16 ?_
  show OWay p e below G T16 (mkF m 32 #[.val (.ref a0), .val (.long q1), .second, .val (.double d2), .second, .val (.int p3), .val (.ref a4), .val (.long q5), .second] [])
  refine ogo (fun _ z_ => XS.aloadN X16.here hx rfl (hb hby d1_32) rfl rfl z_) ?_
  show OWay p e below G T16 (mkF m 33 #[.val (.ref a0), .val (.long q1), .second, .val (.double d2), .second, .val (.int p3), .val (.ref a4), .val (.long q5), .second] [(.ref a0)])
  refine ogo (fun _ z_ => XS.aload X16.here hx rfl (hb hby d1_33) rfl rfl z_) ?_
  show OWay p e below G T16 (mkF m 35 #[.val (.ref a0), .val (.long q1), .second, .val (.double d2), .second, .val (.int p3), .val (.ref a4), .val (.long q5), .second] [(.ref a4), (.ref a0)])
  have F18 : Exa Z h16 a0 "com/example/sito/sito/Slice" := (F14.wr W16)
  have F19 : Fld Z h16 a0 "com/example/sito/sito/Slice" "words" "[J" .null := ((((hp8.other W2 (Or.inr (slot_ne (Or.inr (hw _ (List.mem_of_getElem? (i := 22) rfl))) (Or.inr (hw _ (List.mem_of_getElem? (i := 13) rfl))) (by decide) (t := (.array .long)) (t' := .long) (by decide) (by decide)))).other W6 (Or.inr (slot_ne (Or.inr (hw _ (List.mem_of_getElem? (i := 22) rfl))) (Or.inr (hw _ (List.mem_of_getElem? (i := 15) rfl))) (by decide) (t := (.array .long)) (t' := .double) (by decide) (by decide)))).other W10 (Or.inr (slot_ne (Or.inr (hw _ (List.mem_of_getElem? (i := 22) rfl))) (Or.inr (hw _ (List.mem_of_getElem? (i := 17) rfl))) (by decide) (t := (.array .long)) (t' := .int) (by decide) (by decide)))).other W16 (Or.inr (slot_ne (Or.inr (hw _ (List.mem_of_getElem? (i := 22) rfl))) (Or.inr (hw _ (List.mem_of_getElem? (i := 20) rfl))) (by decide) (t := (.array .long)) (t' := .long) (by decide) (by decide))))
  obtain ⟨T20, h20, X20, eT20, W20, st20⟩ := putF X16 hx hZ hown (host := "") (Or.inl (hw _ (List.mem_of_getElem? (i := 21) rfl))) Via.refl eT16 F19 F18 (Or.inr ⟨(hw _ (List.mem_of_getElem? (i := 22) rfl)), rfl, hnm⟩) (hw _ (List.mem_of_getElem? (i := 4) rfl)) (ty := (.array .long)) (by decide) rfl rfl (g := (mkF m 35 #[.val (.ref a0), .val (.long q1), .second, .val (.double d2), .second, .val (.int p3), .val (.ref a4), .val (.long q5), .second] [(.ref a4), (.ref a0)])) rfl rfl (hb hby d1_35)
  have K21 : Keep h0 h20 [a0] := K17.wr W20 (Or.inl (List.mem_of_getElem? (i := 0) rfl))
  have Fw20 : Fld Z h20 a0 "com/example/sito/sito/Slice" "words" "[J" (.ref a4) := F19.same W20
  have N20 := Fr.snoc X20 N16 g_a0
  refine ogo st20 ?_
  show OWay p e below G T20 (mkF m 38 #[.val (.ref a0), .val (.long q1), .second, .val (.double d2), .second, .val (.int p3), .val (.ref a4), .val (.long q5), .second] [])
  refine ogo (fun _ z_ => XS.aloadN X20.here hx rfl (hb hby d1_38) rfl rfl z_) ?_
  show OWay p e below G T20 (mkF m 39 #[.val (.ref a0), .val (.long q1), .second, .val (.double d2), .second, .val (.int p3), .val (.ref a4), .val (.long q5), .second] [(.ref a0)])
  refine ogo (fun _ z_ => XS.lload X20.here hx rfl (hb hby d1_39) rfl z_) ?_
  show OWay p e below G T20 (mkF m 41 #[.val (.ref a0), .val (.long q1), .second, .val (.double d2), .second, .val (.int p3), .val (.ref a4), .val (.long q5), .second] [(.long q5), (.ref a0)])
  have F22 : Exa Z h20 a0 "com/example/sito/sito/Slice" := (F18.wr W20)
  have F23 : Fld Z h20 a0 "com/example/sito/sito/Slice" "items" "J" (.long (0 : Int64)) := (((((hp9.other W2 (Or.inr (slot_ne (Or.inl (hw _ (List.mem_of_getElem? (i := 24) rfl))) (Or.inr (hw _ (List.mem_of_getElem? (i := 13) rfl))) (by decide) (t := .long) (t' := .long) (by decide) (by decide)))).other W6 (Or.inr (slot_ne (Or.inl (hw _ (List.mem_of_getElem? (i := 24) rfl))) (Or.inr (hw _ (List.mem_of_getElem? (i := 15) rfl))) (by decide) (t := .long) (t' := .double) (by decide) (by decide)))).other W10 (Or.inr (slot_ne (Or.inl (hw _ (List.mem_of_getElem? (i := 24) rfl))) (Or.inr (hw _ (List.mem_of_getElem? (i := 17) rfl))) (by decide) (t := .long) (t' := .int) (by decide) (by decide)))).other W16 (Or.inr (slot_ne (Or.inl (hw _ (List.mem_of_getElem? (i := 24) rfl))) (Or.inr (hw _ (List.mem_of_getElem? (i := 20) rfl))) (by decide) (t := .long) (t' := .long) (by decide) (by decide)))).other W20 (Or.inr (slot_ne (Or.inl (hw _ (List.mem_of_getElem? (i := 24) rfl))) (Or.inr (hw _ (List.mem_of_getElem? (i := 22) rfl))) (by decide) (t := .long) (t' := (.array .long)) (by decide) (by decide))))
  obtain ⟨T24, h24, X24, eT24, W24, st24⟩ := putF X20 hx hZ hown (host := "") (Or.inl (hw _ (List.mem_of_getElem? (i := 23) rfl))) Via.refl eT20 F23 F22 (Or.inl (hw _ (List.mem_of_getElem? (i := 24) rfl))) (hw _ (List.mem_of_getElem? (i := 4) rfl)) (ty := .long) (by decide) rfl rfl (g := (mkF m 41 #[.val (.ref a0), .val (.long q1), .second, .val (.double d2), .second, .val (.int p3), .val (.ref a4), .val (.long q5), .second] [(.long q5), (.ref a0)])) rfl rfl (hb hby d1_41)
  have K25 : Keep h0 h24 [a0] := K21.wr W24 (Or.inl (List.mem_of_getElem? (i := 0) rfl))
  have Fw24 : Fld Z h24 a0 "com/example/sito/sito/Slice" "items" "J" (.long q5) := F23.same W24
  have N24 := Fr.snoc X24 N20 g_a0
  refine ogo st24 ?_
  show OWay p e below G T24 (mkF m 44 #[.val (.ref a0), .val (.long q1), .second, .val (.double d2), .second, .val (.int p3), .val (.ref a4), .val (.long q5), .second] [])
  subst hG
  refine wRetV X24 hx hret hlk (hb hby d1_44) (by decide) (by decide) eT24 ?_
  exact ⟨rfl, N24, K25, (((((Fw2.other W6 (Or.inr (slot_ne (Or.inr (hw _ (List.mem_of_getElem? (i := 13) rfl))) (Or.inr (hw _ (List.mem_of_getElem? (i := 15) rfl))) (by decide) (t := .long) (t' := .double) (by decide) (by decide)))).other W10 (Or.inr (slot_ne (Or.inr (hw _ (List.mem_of_getElem? (i := 13) rfl))) (Or.inr (hw _ (List.mem_of_getElem? (i := 17) rfl))) (by decide) (t := .long) (t' := .int) (by decide) (by decide)))).other W16 (Or.inr (slot_ne (Or.inr (hw _ (List.mem_of_getElem? (i := 13) rfl))) (Or.inr (hw _ (List.mem_of_getElem? (i := 20) rfl))) (by decide) (t := .long) (t' := .long) (by decide) (by decide)))).other W20 (Or.inr (slot_ne (Or.inr (hw _ (List.mem_of_getElem? (i := 13) rfl))) (Or.inr (hw _ (List.mem_of_getElem? (i := 22) rfl))) (by decide) (t := .long) (t' := (.array .long)) (by decide) (by decide)))).other W24 (Or.inr (slot_ne (Or.inr (hw _ (List.mem_of_getElem? (i := 13) rfl))) (Or.inl (hw _ (List.mem_of_getElem? (i := 24) rfl))) (by decide) (t := .long) (t' := .long) (by decide) (by decide)))), ((((Fw6.other W10 (Or.inr (slot_ne (Or.inr (hw _ (List.mem_of_getElem? (i := 15) rfl))) (Or.inr (hw _ (List.mem_of_getElem? (i := 17) rfl))) (by decide) (t := .double) (t' := .int) (by decide) (by decide)))).other W16 (Or.inr (slot_ne (Or.inr (hw _ (List.mem_of_getElem? (i := 15) rfl))) (Or.inr (hw _ (List.mem_of_getElem? (i := 20) rfl))) (by decide) (t := .double) (t' := .long) (by decide) (by decide)))).other W20 (Or.inr (slot_ne (Or.inr (hw _ (List.mem_of_getElem? (i := 15) rfl))) (Or.inr (hw _ (List.mem_of_getElem? (i := 22) rfl))) (by decide) (t := .double) (t' := (.array .long)) (by decide) (by decide)))).other W24 (Or.inr (slot_ne (Or.inr (hw _ (List.mem_of_getElem? (i := 15) rfl))) (Or.inl (hw _ (List.mem_of_getElem? (i := 24) rfl))) (by decide) (t := .double) (t' := .long) (by decide) (by decide)))), (((Fw10.other W16 (Or.inr (slot_ne (Or.inr (hw _ (List.mem_of_getElem? (i := 17) rfl))) (Or.inr (hw _ (List.mem_of_getElem? (i := 20) rfl))) (by decide) (t := .int) (t' := .long) (by decide) (by decide)))).other W20 (Or.inr (slot_ne (Or.inr (hw _ (List.mem_of_getElem? (i := 17) rfl))) (Or.inr (hw _ (List.mem_of_getElem? (i := 22) rfl))) (by decide) (t := .int) (t' := (.array .long)) (by decide) (by decide)))).other W24 (Or.inr (slot_ne (Or.inr (hw _ (List.mem_of_getElem? (i := 17) rfl))) (Or.inl (hw _ (List.mem_of_getElem? (i := 24) rfl))) (by decide) (t := .int) (t' := .long) (by decide) (by decide)))), ((Fw16.other W20 (Or.inr (slot_ne (Or.inr (hw _ (List.mem_of_getElem? (i := 20) rfl))) (Or.inr (hw _ (List.mem_of_getElem? (i := 22) rfl))) (by decide) (t := .long) (t' := (.array .long)) (by decide) (by decide)))).other W24 (Or.inr (slot_ne (Or.inr (hw _ (List.mem_of_getElem? (i := 20) rfl))) (Or.inl (hw _ (List.mem_of_getElem? (i := 24) rfl))) (by decide) (t := .long) (t' := .long) (by decide) (by decide)))), (Fw20.other W24 (Or.inr (slot_ne (Or.inr (hw _ (List.mem_of_getElem? (i := 22) rfl))) (Or.inl (hw _ (List.mem_of_getElem? (i := 24) rfl))) (by decide) (t := (.array .long)) (t' := .long) (by decide) (by decide)))), Fw24⟩
def copy2_rm : Room := { frames := 2, cells := 2, slots := 8, locals := 33 }
def copy2_Q (Z : State) (a0 : Addr) (w0 : Int64) (w1 : UInt64) (w2 : Int32) (w4 : Addr) (w5 : Int64) (kk : ClassId) (y0 : Int64) (y1 : Int64) (h0 : Heap) (n0 : Nat) (v : Option Value) (h : Heap) (L : List Loc) : Prop := ∃ b : Addr, ∃ c : Addr, ∃ kc : ClassId, (v = some (.ref b)) ∧ (Fr n0 L) ∧ (Keep h0 h []) ∧ (n0 ≤ b) ∧ (h0.size ≤ b) ∧ (n0 ≤ c) ∧ (h0.size ≤ c) ∧ (c ≠ b) ∧ (Exa Z h b "com/example/sito/sito/Slice") ∧ (Fld Z h b "com/example/sito/sito/Slice" "capacity" "J" (.long w0)) ∧ (Fld Z h b "com/example/sito/sito/Slice" "bound" "D" (.double w1)) ∧ (Fld Z h b "com/example/sito/sito/Slice" "hashCount" "I" (.int w2)) ∧ (Fld Z h b "com/example/sito/sito/Slice" "bitCount" "J" (.long (128 : Int64))) ∧ (Fld Z h b "com/example/sito/sito/Slice" "words" "[J" (.ref c)) ∧ (Fld Z h b "com/example/sito/sito/Slice" "items" "J" (.long w5)) ∧ (Arv Z h c kc .long (2 : Int32) [(.long y0), (.long y1)] (.long (0 : Int64)))
theorem copy2_ef (m : MethodId) (a0 : Addr) : entryFrame m #[(.ref a0)] 1 = mkF m 0 #[.val (.ref a0)] [] := by first | (simp [entryFrame, mkF, argsToLocals, Value.category]; done) | rfl
set_option maxRecDepth 65536 in
set_option maxHeartbeats 40000000 in
theorem copy2_c (l : Launch) (Z : State) (az : Array Value) (hw : ∀ d ∈ tables_1, d.before az Z = true) (ws : List Jvm.Cond) (a0 : Addr) (w0 : Int64) (w1 : UInt64) (w2 : Int32) (w4 : Addr) (w5 : Int64) (kk : ClassId) (y0 : Int64) (y1 : Int64) (h0 : Heap) (n0 : Nat) (Z0 : n0 ≤ h0.size) (hp0 : Fld Z h0 a0 "com/example/sito/sito/Slice" "capacity" "J" (.long w0)) (hp1 : Fld Z h0 a0 "com/example/sito/sito/Slice" "bound" "D" (.double w1)) (hp2 : Fld Z h0 a0 "com/example/sito/sito/Slice" "hashCount" "I" (.int w2)) (hp3 : Fld Z h0 a0 "com/example/sito/sito/Slice" "words" "[J" (.ref w4)) (hp4 : Fld Z h0 a0 "com/example/sito/sito/Slice" "items" "J" (.long w5)) (hp5 : Arv Z h0 w4 kk .long (2 : Int32) [(.long y0), (.long y1)] (.long (0 : Int64))) (hp6 : Exa Z h0 w4 "[J") :
    OCon l (⟨"com/example/sito/sito/Slice", "copy", "()Lcom/example/sito/sito/Slice;"⟩ : MethodName) prog_6_method_3_code 1 (some (.object "com/example/sito/sito/Slice")) ws copy2_rm Z #[(.ref a0)] h0 (copy2_Q Z a0 w0 w1 w2 w4 w5 kk y0 y1 h0 n0) := by
  refine ocon (plainFor_of_name pn_com_example_sito_sito_Slice) ?_
  intro p e s m below meth c s₁ hx hby hml hown hnm hret hlk hZ X0 eh0
  have N0 := Fr.nil n0
  have K0 := Keep.refl h0 []
  refine ogoE (copy2_ef m a0) ?_
  generalize hG : (OEnd s below (copy2_Q Z a0 w0 w1 w2 w4 w5 kk y0 y1 h0 n0) copy2_rm.cells copy2_rm.slots) = G
  show OWay p e below G s₁ (mkF m 0 #[.val (.ref a0)] [])
  obtain ⟨T1, h1, X1, eT1, E1, A1, D1, -, st1⟩ := newO X0 hx hZ hown (hw _ (List.mem_of_getElem? (i := 30) rfl)) (hw _ (List.mem_of_getElem? (i := 4) rfl)) (hw _ (List.mem_of_getElem? (i := 5) rfl)) eh0 (g := (mkF m 0 #[.val (.ref a0)] [])) rfl (hb hby d3_0) (by decide) (by decide)
  obtain ⟨b1, g1⟩ : ∃ z, z = h0.size := ⟨_, rfl⟩
  rw [← g1] at A1 D1 st1
  have g_b1 : n0 ≤ b1 := Nat.le_trans Z0 (Nat.le_of_eq g1.symm)
  have sz_b1 : h0.size ≤ b1 := Nat.le_trans K0.1 (Nat.le_of_eq g1.symm)
  have K2 : Keep h0 h1 [] := K0.ext E1
  have F_capacity_b1 : Fld Z h1 b1 "com/example/sito/sito/Slice" "capacity" "J" (.long (0 : Int64)) := D1 (Or.inr (hw _ (List.mem_of_getElem? (i := 13) rfl))) (ty := .long) (by decide)
  have F_bound_b1 : Fld Z h1 b1 "com/example/sito/sito/Slice" "bound" "D" (.double (0 : UInt64)) := D1 (Or.inr (hw _ (List.mem_of_getElem? (i := 15) rfl))) (ty := .double) (by decide)
  have F_hashCount_b1 : Fld Z h1 b1 "com/example/sito/sito/Slice" "hashCount" "I" (.int (0 : Int32)) := D1 (Or.inr (hw _ (List.mem_of_getElem? (i := 17) rfl))) (ty := .int) (by decide)
  have F_bitCount_b1 : Fld Z h1 b1 "com/example/sito/sito/Slice" "bitCount" "J" (.long (0 : Int64)) := D1 (Or.inr (hw _ (List.mem_of_getElem? (i := 20) rfl))) (ty := .long) (by decide)
  have F_words_b1 : Fld Z h1 b1 "com/example/sito/sito/Slice" "words" "[J" .null := D1 (Or.inr (hw _ (List.mem_of_getElem? (i := 22) rfl))) (ty := (.array .long)) (by decide)
  have F_items_b1 : Fld Z h1 b1 "com/example/sito/sito/Slice" "items" "J" (.long (0 : Int64)) := D1 (Or.inl (hw _ (List.mem_of_getElem? (i := 24) rfl))) (ty := .long) (by decide)
  refine ogo st1 ?_
  show OWay p e below G T1 (mkF m 3 #[.val (.ref a0)] [(.ref b1)])
  refine ogo (fun _ z_ => XS.dup X1.here hx rfl (hb hby d3_3) rfl rfl z_) ?_
  show OWay p e below G T1 (mkF m 4 #[.val (.ref a0)] [(.ref b1), (.ref b1)])
  refine ogo (fun _ z_ => XS.aloadN X1.here hx rfl (hb hby d3_4) rfl rfl z_) ?_
  show OWay p e below G T1 (mkF m 5 #[.val (.ref a0)] [(.ref a0), (.ref b1), (.ref b1)])
  have F3 : Fld Z h1 a0 "com/example/sito/sito/Slice" "capacity" "J" (.long w0) := (hp0.ext E1)
  obtain ⟨T4, X4, eT4, st4⟩ := getF X1 hx hZ hown (host := "") (Or.inl (hw _ (List.mem_of_getElem? (i := 12) rfl))) Via.refl eT1 F3 (g := (mkF m 5 #[.val (.ref a0)] [(.ref a0), (.ref b1), (.ref b1)])) rfl rfl (hb hby d3_5)
  refine ogo st4 ?_
  show OWay p e below G T4 (mkF m 8 #[.val (.ref a0)] [(.long w0), (.ref b1), (.ref b1)])
  refine ogo (fun _ z_ => XS.aloadN X4.here hx rfl (hb hby d3_8) rfl rfl z_) ?_
  show OWay p e below G T4 (mkF m 9 #[.val (.ref a0)] [(.ref a0), (.long w0), (.ref b1), (.ref b1)])
  have F5 : Fld Z h1 a0 "com/example/sito/sito/Slice" "bound" "D" (.double w1) := (hp1.ext E1)
  obtain ⟨T6, X6, eT6, st6⟩ := getF X4 hx hZ hown (host := "") (Or.inl (hw _ (List.mem_of_getElem? (i := 14) rfl))) Via.refl eT4 F5 (g := (mkF m 9 #[.val (.ref a0)] [(.ref a0), (.long w0), (.ref b1), (.ref b1)])) rfl rfl (hb hby d3_9)
  refine ogo st6 ?_
  show OWay p e below G T6 (mkF m 12 #[.val (.ref a0)] [(.double w1), (.long w0), (.ref b1), (.ref b1)])
  refine ogo (fun _ z_ => XS.aloadN X6.here hx rfl (hb hby d3_12) rfl rfl z_) ?_
  show OWay p e below G T6 (mkF m 13 #[.val (.ref a0)] [(.ref a0), (.double w1), (.long w0), (.ref b1), (.ref b1)])
  have F7 : Fld Z h1 a0 "com/example/sito/sito/Slice" "hashCount" "I" (.int w2) := (hp2.ext E1)
  obtain ⟨T8, X8, eT8, st8⟩ := getF X6 hx hZ hown (host := "") (Or.inl (hw _ (List.mem_of_getElem? (i := 16) rfl))) Via.refl eT6 F7 (g := (mkF m 13 #[.val (.ref a0)] [(.ref a0), (.double w1), (.long w0), (.ref b1), (.ref b1)])) rfl rfl (hb hby d3_13)
  refine ogo st8 ?_
  show OWay p e below G T8 (mkF m 16 #[.val (.ref a0)] [(.int w2), (.double w1), (.long w0), (.ref b1), (.ref b1)])
  refine ogo (fun _ z_ => XS.aloadN X8.here hx rfl (hb hby d3_16) rfl rfl z_) ?_
  show OWay p e below G T8 (mkF m 17 #[.val (.ref a0)] [(.ref a0), (.int w2), (.double w1), (.long w0), (.ref b1), (.ref b1)])
  have F9 : Fld Z h1 a0 "com/example/sito/sito/Slice" "words" "[J" (.ref w4) := (hp3.ext E1)
  obtain ⟨T10, X10, eT10, st10⟩ := getF X8 hx hZ hown (host := "") (Or.inl (hw _ (List.mem_of_getElem? (i := 21) rfl))) Via.refl eT8 F9 (g := (mkF m 17 #[.val (.ref a0)] [(.ref a0), (.int w2), (.double w1), (.long w0), (.ref b1), (.ref b1)])) rfl rfl (hb hby d3_17)
  refine ogo st10 ?_
  show OWay p e below G T10 (mkF m 20 #[.val (.ref a0)] [(.ref w4), (.int w2), (.double w1), (.long w0), (.ref b1), (.ref b1)])
  have F12 : Arv Z h1 w4 kk .long (2 : Int32) [(.long y0), (.long y1)] (.long (0 : Int64)) := (hp5.ext E1)
  have F13 : Exa Z h1 w4 "[J" := (hp6.ext E1)
  obtain ⟨cl11, Ar11, q11, Sz11, Nn11, Hh11, Gg11⟩ := F12
  obtain ⟨T11, h11, X11, eT11, E11, A11, D11, st11⟩ := cloneA X10 hx hZ hown (hw _ (List.mem_of_getElem? (i := 31) rfl)) (hw _ (List.mem_of_getElem? (i := 32) rfl)) (hw _ (List.mem_of_getElem? (i := 36) rfl)) (hw _ (List.mem_of_getElem? (i := 34) rfl)) (hw _ (List.mem_of_getElem? (i := 35) rfl)) (hw _ (List.mem_of_getElem? (i := 37) rfl)) eT10 Ar11 F13 (own_fitC Ar11 Hh11 Gg11) (g := (mkF m 20 #[.val (.ref a0)] [(.ref w4), (.int w2), (.double w1), (.long w0), (.ref b1), (.ref b1)])) rfl (by rw [hml]; rfl) rfl (hb hby d3_20) (by decide) (W := 7) (cap := 2) (by show 2 * 0 + _ ≤ _; exact Nat.le_of_eq rfl) (by decide) (by rw [Sz11]; decide) (by decide) (by decide)
  obtain ⟨b11, g11⟩ : ∃ z, z = h1.size := ⟨_, rfl⟩
  rw [← g11] at A11 D11 st11
  have g_b11 : n0 ≤ b11 := Nat.le_trans (Nat.le_trans Z0 E1.1) (Nat.le_of_eq g11.symm)
  have sz_b11 : h0.size ≤ b11 := Nat.le_trans K2.1 (Nat.le_of_eq g11.symm)
  have K14 : Keep h0 h11 [] := K2.ext E11
  have V_b11 : Arv Z h11 b11 cl11.cls .long (2 : Int32) [(.long y0), (.long y1)] (.long (0 : Int64)) := own_clone A11 Sz11 Nn11 Hh11 Gg11
  refine ogo st11 ?_
  show OWay p e below G T11 (mkF m 23 #[.val (.ref a0)] [(.ref b11), (.int w2), (.double w1), (.long w0), (.ref b1), (.ref b1)])
  obtain ⟨T15, X15, eT15, st15⟩ := castY X11 hx hZ hown (hw _ (List.mem_of_getElem? (i := 38) rfl)) eT11 (Ins.self D11) (g := (mkF m 23 #[.val (.ref a0)] [(.ref b11), (.int w2), (.double w1), (.long w0), (.ref b1), (.ref b1)])) rfl rfl (hb hby d3_23)
  refine ogo st15 ?_
  show OWay p e below G T15 (mkF m 26 #[.val (.ref a0)] [(.ref b11), (.int w2), (.double w1), (.long w0), (.ref b1), (.ref b1)])
  refine ogo (fun _ z_ => XS.aloadN X15.here hx rfl (hb hby d3_26) rfl rfl z_) ?_
  show OWay p e below G T15 (mkF m 27 #[.val (.ref a0)] [(.ref a0), (.ref b11), (.int w2), (.double w1), (.long w0), (.ref b1), (.ref b1)])
  have F16 : Fld Z h11 a0 "com/example/sito/sito/Slice" "items" "J" (.long w5) := ((hp4.ext E1).ext E11)
  obtain ⟨T17, X17, eT17, st17⟩ := getF X15 hx hZ hown (host := "") (Or.inl (hw _ (List.mem_of_getElem? (i := 23) rfl))) Via.refl eT15 F16 (g := (mkF m 27 #[.val (.ref a0)] [(.ref a0), (.ref b11), (.int w2), (.double w1), (.long w0), (.ref b1), (.ref b1)])) rfl rfl (hb hby d3_27)
  refine ogo st17 ?_
  show OWay p e below G T17 (mkF m 30 #[.val (.ref a0)] [(.long w5), (.ref b11), (.int w2), (.double w1), (.long w0), (.ref b1), (.ref b1)])
  have F18 : Exa Z h11 b1 "com/example/sito/sito/Slice" := (A1.ext E11)
  have F19 : Fld Z h11 b1 "com/example/sito/sito/Slice" "capacity" "J" (.long (0 : Int64)) := (F_capacity_b1.ext E11)
  have F20 : Fld Z h11 b1 "com/example/sito/sito/Slice" "bound" "D" (.double (0 : UInt64)) := (F_bound_b1.ext E11)
  have F21 : Fld Z h11 b1 "com/example/sito/sito/Slice" "hashCount" "I" (.int (0 : Int32)) := (F_hashCount_b1.ext E11)
  have F22 : Fld Z h11 b1 "com/example/sito/sito/Slice" "bitCount" "J" (.long (0 : Int64)) := (F_bitCount_b1.ext E11)
  have F23 : Fld Z h11 b1 "com/example/sito/sito/Slice" "words" "[J" .null := (F_words_b1.ext E11)
  have F24 : Fld Z h11 b1 "com/example/sito/sito/Slice" "items" "J" (.long (0 : Int64)) := (F_items_b1.ext E11)
  obtain ⟨_, T25, L25, X25, hQ25, st25⟩ := wInit X17 hx hZ (y := (⟨"com/example/sito/sito/Slice", "<init>", "(JDI[JJ)V"⟩ : MethodName)) rfl hown (hw _ (List.mem_of_getElem? (i := 40) rfl)) (hw _ (List.mem_of_getElem? (i := 7) rfl)) (hw _ (List.mem_of_getElem? (i := 5) rfl)) (hw _ (List.mem_of_getElem? (i := 8) rfl)) (by decide) (ctor_2_c l Z az hw [] b1 w0 w1 w2 b11 w5 cl11.cls (.long y0) (.long y1) h11 n0 (Nat.le_trans (Nat.le_trans Z0 E1.1) E11.1) V_b11 (Ne.symm (Nat.ne_of_lt (Nat.lt_of_lt_of_le A1.lt (Nat.le_of_eq g11.symm)))) F18 g_b1 F19 F20 F21 F22 F23 F24) 1 (by decide) (by decide) (g := (mkF m 30 #[.val (.ref a0)] [(.long w5), (.ref b11), (.int w2), (.double w1), (.long w0), (.ref b1), (.ref b1)])) rfl (by rw [hml]; rfl) (a := b1) (argsL := [(.long w0), (.double w1), (.int w2), (.ref b11), (.long w5)]) (rest := [(.ref b1)]) (lenOf pd__JDI_JJ_V rfl) rfl (by show 2 * 0 + _ ≤ _; exact Nat.le_of_eq rfl) (hb hby d3_30) rfl eT17 (by decide) (by decide)
  obtain ⟨rfl, N25q, Kq25, P26, P27, P28, P29, P30, P31⟩ := hQ25
  have N25 := Fr.app N0 N25q
  have K32 : Keep h0 T25.heap [] := K14.trans Kq25 (allS (Or.inr sz_b1) all0)
  refine ogoS st25 ?_
  show OWay p e below G T25 (mkF m 33 #[.val (.ref a0)] [(.ref b1)])
  subst hG
  refine wRet X25 hx hret hlk rfl (Or.inr (Or.inr (Or.inr (Or.inr ⟨rfl, rfl, rfl⟩)))) (hb hby d3_33) (by decide) (by decide) rfl ?_
  exact ⟨b1, b11, cl11.cls, rfl, N25, K32, g_b1, sz_b1, g_b11, sz_b11, (Ne.symm (Nat.ne_of_lt (Nat.lt_of_lt_of_le A1.lt (Nat.le_of_eq g11.symm)))), (F18.keep Kq25), P26, P27, P28, P29, P30, P31, (V_b11.keep Kq25 (ninS (Ne.symm (Nat.ne_of_lt (Nat.lt_of_lt_of_le A1.lt (Nat.le_of_eq g11.symm)))) nin0))⟩
def ctor_3_rm : Room := { frames := 1, cells := 0, slots := 0, locals := 12 }
def ctor_3_Q (Z : State) (a0 : Addr) (q1 : Int64) (d2 : UInt64) (p3 : Int32) (a4 : Addr) (q5 : Int64) (kk : ClassId) (x0 : Value) (x1 : Value) (x2 : Value) (h0 : Heap) (n0 : Nat) (v : Option Value) (h : Heap) (L : List Loc) : Prop := (v = none) ∧ (Fr n0 L) ∧ (Keep h0 h [a0]) ∧ (Fld Z h a0 "com/example/sito/sito/Slice" "capacity" "J" (.long q1)) ∧ (Fld Z h a0 "com/example/sito/sito/Slice" "bound" "D" (.double d2)) ∧ (Fld Z h a0 "com/example/sito/sito/Slice" "hashCount" "I" (.int p3)) ∧ (Fld Z h a0 "com/example/sito/sito/Slice" "bitCount" "J" (.long (192 : Int64))) ∧ (Fld Z h a0 "com/example/sito/sito/Slice" "words" "[J" (.ref a4)) ∧ (Fld Z h a0 "com/example/sito/sito/Slice" "items" "J" (.long q5))
theorem ctor_3_ef (m : MethodId) (a0 : Addr) (q1 : Int64) (d2 : UInt64) (p3 : Int32) (a4 : Addr) (q5 : Int64) : entryFrame m #[(.ref a0), (.long q1), (.double d2), (.int p3), (.ref a4), (.long q5)] 9 = mkF m 0 #[.val (.ref a0), .val (.long q1), .second, .val (.double d2), .second, .val (.int p3), .val (.ref a4), .val (.long q5), .second] [] := by first | (simp [entryFrame, mkF, argsToLocals, Value.category]; done) | rfl
set_option maxRecDepth 65536 in
set_option maxHeartbeats 40000000 in
theorem ctor_3_c (l : Launch) (Z : State) (az : Array Value) (hw : ∀ d ∈ tables_1, d.before az Z = true) (ws : List Jvm.Cond) (a0 : Addr) (q1 : Int64) (d2 : UInt64) (p3 : Int32) (a4 : Addr) (q5 : Int64) (kk : ClassId) (x0 : Value) (x1 : Value) (x2 : Value) (h0 : Heap) (n0 : Nat) (Z0 : n0 ≤ h0.size) (hp0 : Arv Z h0 a4 kk .long (3 : Int32) [x0, x1, x2] (.long (0 : Int64))) (hp1 : a4 ≠ a0) (hp2 : Exa Z h0 a0 "com/example/sito/sito/Slice") (hp3 : n0 ≤ a0) (hp4 : Fld Z h0 a0 "com/example/sito/sito/Slice" "capacity" "J" (.long (0 : Int64))) (hp5 : Fld Z h0 a0 "com/example/sito/sito/Slice" "bound" "D" (.double (0 : UInt64))) (hp6 : Fld Z h0 a0 "com/example/sito/sito/Slice" "hashCount" "I" (.int (0 : Int32))) (hp7 : Fld Z h0 a0 "com/example/sito/sito/Slice" "bitCount" "J" (.long (0 : Int64))) (hp8 : Fld Z h0 a0 "com/example/sito/sito/Slice" "words" "[J" .null) (hp9 : Fld Z h0 a0 "com/example/sito/sito/Slice" "items" "J" (.long (0 : Int64))) :
    OCon l (⟨"com/example/sito/sito/Slice", "<init>", "(JDI[JJ)V"⟩ : MethodName) prog_6_method_1_code 9 none ws ctor_3_rm Z #[(.ref a0), (.long q1), (.double d2), (.int p3), (.ref a4), (.long q5)] h0 (ctor_3_Q Z a0 q1 d2 p3 a4 q5 kk x0 x1 x2 h0 n0) := by
  refine ocon (plainFor_of_name pn_com_example_sito_sito_Slice) ?_
  intro p e s m below meth c s₁ hx hby hml hown hnm hret hlk hZ X0 eh0
  have N0 := Fr.nil n0
  have K0 := Keep.refl h0 [a0]
  refine ogoE (ctor_3_ef m a0 q1 d2 p3 a4 q5) ?_
  have g_a0 := hp3
  generalize hG : (OEnd s below (ctor_3_Q Z a0 q1 d2 p3 a4 q5 kk x0 x1 x2 h0 n0) ctor_3_rm.cells ctor_3_rm.slots) = G
  show OWay p e below G s₁ (mkF m 0 #[.val (.ref a0), .val (.long q1), .second, .val (.double d2), .second, .val (.int p3), .val (.ref a4), .val (.long q5), .second] [])
  refine ogo (fun _ z_ => XS.aloadN X0.here hx rfl (hb hby d1_0) rfl rfl z_) ?_
  show OWay p e below G s₁ (mkF m 1 #[.val (.ref a0), .val (.long q1), .second, .val (.double d2), .second, .val (.int p3), .val (.ref a4), .val (.long q5), .second] [(.ref a0)])
  obtain ⟨T1, X1, eT1, st1⟩ := initO X0 hx hZ hown (hw _ (List.mem_of_getElem? (i := 9) rfl)) (hw _ (List.mem_of_getElem? (i := 10) rfl)) (hw _ (List.mem_of_getElem? (i := 11) rfl)) eh0 (g := (mkF m 1 #[.val (.ref a0), .val (.long q1), .second, .val (.double d2), .second, .val (.int p3), .val (.ref a4), .val (.long q5), .second] [(.ref a0)])) rfl (by rw [hml]; rfl) rfl (hb hby d1_1) (by decide) (W := 0) (by show 2 * 0 + _ ≤ _; exact Nat.le_of_eq rfl) (by decide)
  refine ogo st1 ?_
  show OWay p e below G T1 (mkF m 4 #[.val (.ref a0), .val (.long q1), .second, .val (.double d2), .second, .val (.int p3), .val (.ref a4), .val (.long q5), .second] [])
  refine ogo (fun _ z_ => XS.aloadN X1.here hx rfl (hb hby d1_4) rfl rfl z_) ?_
  show OWay p e below G T1 (mkF m 5 #[.val (.ref a0), .val (.long q1), .second, .val (.double d2), .second, .val (.int p3), .val (.ref a4), .val (.long q5), .second] [(.ref a0)])
  refine ogo (fun _ z_ => XS.lloadN X1.here hx rfl (hb hby d1_5) rfl z_) ?_
  show OWay p e below G T1 (mkF m 6 #[.val (.ref a0), .val (.long q1), .second, .val (.double d2), .second, .val (.int p3), .val (.ref a4), .val (.long q5), .second] [(.long q1), (.ref a0)])
  obtain ⟨T2, h2, X2, eT2, W2, st2⟩ := putF X1 hx hZ hown (host := "") (Or.inl (hw _ (List.mem_of_getElem? (i := 12) rfl))) Via.refl eT1 hp4 hp2 (Or.inr ⟨(hw _ (List.mem_of_getElem? (i := 13) rfl)), rfl, hnm⟩) (hw _ (List.mem_of_getElem? (i := 4) rfl)) (ty := .long) (by decide) rfl rfl (g := (mkF m 6 #[.val (.ref a0), .val (.long q1), .second, .val (.double d2), .second, .val (.int p3), .val (.ref a4), .val (.long q5), .second] [(.long q1), (.ref a0)])) rfl rfl (hb hby d1_6)
  have K3 : Keep h0 h2 [a0] := K0.wr W2 (Or.inl (List.mem_of_getElem? (i := 0) rfl))
  have Fw2 : Fld Z h2 a0 "com/example/sito/sito/Slice" "capacity" "J" (.long q1) := hp4.same W2
  have N2 := Fr.snoc X2 N0 g_a0
  refine ogo st2 ?_
  show OWay p e below G T2 (mkF m 9 #[.val (.ref a0), .val (.long q1), .second, .val (.double d2), .second, .val (.int p3), .val (.ref a4), .val (.long q5), .second] [])
  refine ogo (fun _ z_ => XS.aloadN X2.here hx rfl (hb hby d1_9) rfl rfl z_) ?_
  show OWay p e below G T2 (mkF m 10 #[.val (.ref a0), .val (.long q1), .second, .val (.double d2), .second, .val (.int p3), .val (.ref a4), .val (.long q5), .second] [(.ref a0)])
  refine ogo (fun _ z_ => XS.dloadN X2.here hx rfl (hb hby d1_10) rfl z_) ?_
  show OWay p e below G T2 (mkF m 11 #[.val (.ref a0), .val (.long q1), .second, .val (.double d2), .second, .val (.int p3), .val (.ref a4), .val (.long q5), .second] [(.double d2), (.ref a0)])
  have F4 : Exa Z h2 a0 "com/example/sito/sito/Slice" := (hp2.wr W2)
  have F5 : Fld Z h2 a0 "com/example/sito/sito/Slice" "bound" "D" (.double (0 : UInt64)) := (hp5.other W2 (Or.inr (slot_ne (Or.inr (hw _ (List.mem_of_getElem? (i := 15) rfl))) (Or.inr (hw _ (List.mem_of_getElem? (i := 13) rfl))) (by decide) (t := .double) (t' := .long) (by decide) (by decide))))
  obtain ⟨T6, h6, X6, eT6, W6, st6⟩ := putF X2 hx hZ hown (host := "") (Or.inl (hw _ (List.mem_of_getElem? (i := 14) rfl))) Via.refl eT2 F5 F4 (Or.inr ⟨(hw _ (List.mem_of_getElem? (i := 15) rfl)), rfl, hnm⟩) (hw _ (List.mem_of_getElem? (i := 4) rfl)) (ty := .double) (by decide) rfl rfl (g := (mkF m 11 #[.val (.ref a0), .val (.long q1), .second, .val (.double d2), .second, .val (.int p3), .val (.ref a4), .val (.long q5), .second] [(.double d2), (.ref a0)])) rfl rfl (hb hby d1_11)
  have K7 : Keep h0 h6 [a0] := K3.wr W6 (Or.inl (List.mem_of_getElem? (i := 0) rfl))
  have Fw6 : Fld Z h6 a0 "com/example/sito/sito/Slice" "bound" "D" (.double d2) := F5.same W6
  have N6 := Fr.snoc X6 N2 g_a0
  refine ogo st6 ?_
  show OWay p e below G T6 (mkF m 14 #[.val (.ref a0), .val (.long q1), .second, .val (.double d2), .second, .val (.int p3), .val (.ref a4), .val (.long q5), .second] [])
  refine ogo (fun _ z_ => XS.aloadN X6.here hx rfl (hb hby d1_14) rfl rfl z_) ?_
  show OWay p e below G T6 (mkF m 15 #[.val (.ref a0), .val (.long q1), .second, .val (.double d2), .second, .val (.int p3), .val (.ref a4), .val (.long q5), .second] [(.ref a0)])
  refine ogo (fun _ z_ => XS.iload X6.here hx rfl (hb hby d1_15) rfl z_) ?_
  show OWay p e below G T6 (mkF m 17 #[.val (.ref a0), .val (.long q1), .second, .val (.double d2), .second, .val (.int p3), .val (.ref a4), .val (.long q5), .second] [(.int p3), (.ref a0)])
  have F8 : Exa Z h6 a0 "com/example/sito/sito/Slice" := (F4.wr W6)
  have F9 : Fld Z h6 a0 "com/example/sito/sito/Slice" "hashCount" "I" (.int (0 : Int32)) := ((hp6.other W2 (Or.inr (slot_ne (Or.inr (hw _ (List.mem_of_getElem? (i := 17) rfl))) (Or.inr (hw _ (List.mem_of_getElem? (i := 13) rfl))) (by decide) (t := .int) (t' := .long) (by decide) (by decide)))).other W6 (Or.inr (slot_ne (Or.inr (hw _ (List.mem_of_getElem? (i := 17) rfl))) (Or.inr (hw _ (List.mem_of_getElem? (i := 15) rfl))) (by decide) (t := .int) (t' := .double) (by decide) (by decide))))
  obtain ⟨T10, h10, X10, eT10, W10, st10⟩ := putF X6 hx hZ hown (host := "") (Or.inl (hw _ (List.mem_of_getElem? (i := 16) rfl))) Via.refl eT6 F9 F8 (Or.inr ⟨(hw _ (List.mem_of_getElem? (i := 17) rfl)), rfl, hnm⟩) (hw _ (List.mem_of_getElem? (i := 4) rfl)) (ty := .int) (by decide) rfl rfl (g := (mkF m 17 #[.val (.ref a0), .val (.long q1), .second, .val (.double d2), .second, .val (.int p3), .val (.ref a4), .val (.long q5), .second] [(.int p3), (.ref a0)])) rfl rfl (hb hby d1_17)
  have K11 : Keep h0 h10 [a0] := K7.wr W10 (Or.inl (List.mem_of_getElem? (i := 0) rfl))
  have Fw10 : Fld Z h10 a0 "com/example/sito/sito/Slice" "hashCount" "I" (.int p3) := F9.same W10
  have N10 := Fr.snoc X10 N6 g_a0
  refine ogo st10 ?_
  show OWay p e below G T10 (mkF m 20 #[.val (.ref a0), .val (.long q1), .second, .val (.double d2), .second, .val (.int p3), .val (.ref a4), .val (.long q5), .second] [])
  refine ogo (fun _ z_ => XS.aloadN X10.here hx rfl (hb hby d1_20) rfl rfl z_) ?_
  show OWay p e below G T10 (mkF m 21 #[.val (.ref a0), .val (.long q1), .second, .val (.double d2), .second, .val (.int p3), .val (.ref a4), .val (.long q5), .second] [(.ref a0)])
  refine ogo (fun _ z_ => X10.ldc2Long hx hown (mvT hZ (hw _ (List.mem_of_getElem? (i := 18) rfl))) (g := (mkF m 21 #[.val (.ref a0), .val (.long q1), .second, .val (.double d2), .second, .val (.int p3), .val (.ref a4), .val (.long q5), .second] [(.ref a0)])) rfl (hb hby d1_21) _ z_) ?_
  show OWay p e below G T10 (mkF m 24 #[.val (.ref a0), .val (.long q1), .second, .val (.double d2), .second, .val (.int p3), .val (.ref a4), .val (.long q5), .second] [(.long (64 : Int64)), (.ref a0)])
  refine ogo (fun _ z_ => XS.aload X10.here hx rfl (hb hby d1_24) rfl rfl z_) ?_
  show OWay p e below G T10 (mkF m 26 #[.val (.ref a0), .val (.long q1), .second, .val (.double d2), .second, .val (.int p3), .val (.ref a4), .val (.long q5), .second] [(.ref a4), (.long (64 : Int64)), (.ref a0)])
  have F12 : Arv Z h10 a4 kk .long (3 : Int32) [x0, x1, x2] (.long (0 : Int64)) := (((hp0.other W2 hp1).other W6 hp1).other W10 hp1)
  obtain ⟨cl_o13, Ar_o13, -, S_o13, N_o13, -, -⟩ := id F12
  refine ogo (fun _ z_ => X10.arraylength hx (by rw [eT10]; exact Ar_o13.1) (State.isArrayOf_alike hZ.alike Ar_o13.2.1) (g := (mkF m 26 #[.val (.ref a0), .val (.long q1), .second, .val (.double d2), .second, .val (.int p3), .val (.ref a4), .val (.long q5), .second] [(.ref a4), (.long (64 : Int64)), (.ref a0)])) rfl rfl (hb hby d1_26) _ z_) ?_
  rw [len_of S_o13 N_o13]
  show OWay p e below G T10 (mkF m 27 #[.val (.ref a0), .val (.long q1), .second, .val (.double d2), .second, .val (.int p3), .val (.ref a4), .val (.long q5), .second] [(.int (3 : Int32)), (.long (64 : Int64)), (.ref a0)])
  refine ogo (fun _ z_ => XS.i2l X10.here hx rfl (hb hby d1_27) rfl z_) ?_
  show OWay p e below G T10 (mkF m 28 #[.val (.ref a0), .val (.long q1), .second, .val (.double d2), .second, .val (.int p3), .val (.ref a4), .val (.long q5), .second] [(.long ((3 : Int32).toInt64)), (.long (64 : Int64)), (.ref a0)])
  refine ogoE (g' := (mkF m 28 #[.val (.ref a0), .val (.long q1), .second, .val (.double d2), .second, .val (.int p3), .val (.ref a4), .val (.long q5), .second] [(.long (3 : Int64)), (.long (64 : Int64)), (.ref a0)])) (by rw [show ((3 : Int32).toInt64) = (3 : Int64) from by decide]) ?_
  refine ogo (fun _ z_ => XS.lmul X10.here hx rfl (hb hby d1_28) rfl z_) ?_
  show OWay p e below G T10 (mkF m 29 #[.val (.ref a0), .val (.long q1), .second, .val (.double d2), .second, .val (.int p3), .val (.ref a4), .val (.long q5), .second] [(.long ((64 : Int64) * (3 : Int64))), (.ref a0)])
  refine ogoE (g' := (mkF m 29 #[.val (.ref a0), .val (.long q1), .second, .val (.double d2), .second, .val (.int p3), .val (.ref a4), .val (.long q5), .second] [(.long (192 : Int64)), (.ref a0)])) (by rw [show ((64 : Int64) * (3 : Int64)) = (192 : Int64) from by decide]) ?_
  have F14 : Exa Z h10 a0 "com/example/sito/sito/Slice" := (F8.wr W10)
  have F15 : Fld Z h10 a0 "com/example/sito/sito/Slice" "bitCount" "J" (.long (0 : Int64)) := (((hp7.other W2 (Or.inr (slot_ne (Or.inr (hw _ (List.mem_of_getElem? (i := 20) rfl))) (Or.inr (hw _ (List.mem_of_getElem? (i := 13) rfl))) (by decide) (t := .long) (t' := .long) (by decide) (by decide)))).other W6 (Or.inr (slot_ne (Or.inr (hw _ (List.mem_of_getElem? (i := 20) rfl))) (Or.inr (hw _ (List.mem_of_getElem? (i := 15) rfl))) (by decide) (t := .long) (t' := .double) (by decide) (by decide)))).other W10 (Or.inr (slot_ne (Or.inr (hw _ (List.mem_of_getElem? (i := 20) rfl))) (Or.inr (hw _ (List.mem_of_getElem? (i := 17) rfl))) (by decide) (t := .long) (t' := .int) (by decide) (by decide))))
  obtain ⟨T16, h16, X16, eT16, W16, st16⟩ := putF X10 hx hZ hown (host := "") (Or.inl (hw _ (List.mem_of_getElem? (i := 19) rfl))) Via.refl eT10 F15 F14 (Or.inr ⟨(hw _ (List.mem_of_getElem? (i := 20) rfl)), rfl, hnm⟩) (hw _ (List.mem_of_getElem? (i := 4) rfl)) (ty := .long) (by decide) rfl rfl (g := (mkF m 29 #[.val (.ref a0), .val (.long q1), .second, .val (.double d2), .second, .val (.int p3), .val (.ref a4), .val (.long q5), .second] [(.long (192 : Int64)), (.ref a0)])) rfl rfl (hb hby d1_29)
  have K17 : Keep h0 h16 [a0] := K11.wr W16 (Or.inl (List.mem_of_getElem? (i := 0) rfl))
  have Fw16 : Fld Z h16 a0 "com/example/sito/sito/Slice" "bitCount" "J" (.long (192 : Int64)) := F15.same W16
  have N16 := Fr.snoc X16 N10 g_a0
  refine ogo st16 ?_
  show OWay p e below G T16 (mkF m 32 #[.val (.ref a0), .val (.long q1), .second, .val (.double d2), .second, .val (.int p3), .val (.ref a4), .val (.long q5), .second] [])
  refine ogo (fun _ z_ => XS.aloadN X16.here hx rfl (hb hby d1_32) rfl rfl z_) ?_
  show OWay p e below G T16 (mkF m 33 #[.val (.ref a0), .val (.long q1), .second, .val (.double d2), .second, .val (.int p3), .val (.ref a4), .val (.long q5), .second] [(.ref a0)])
  refine ogo (fun _ z_ => XS.aload X16.here hx rfl (hb hby d1_33) rfl rfl z_) ?_
  show OWay p e below G T16 (mkF m 35 #[.val (.ref a0), .val (.long q1), .second, .val (.double d2), .second, .val (.int p3), .val (.ref a4), .val (.long q5), .second] [(.ref a4), (.ref a0)])
  have F18 : Exa Z h16 a0 "com/example/sito/sito/Slice" := (F14.wr W16)
  have F19 : Fld Z h16 a0 "com/example/sito/sito/Slice" "words" "[J" .null := ((((hp8.other W2 (Or.inr (slot_ne (Or.inr (hw _ (List.mem_of_getElem? (i := 22) rfl))) (Or.inr (hw _ (List.mem_of_getElem? (i := 13) rfl))) (by decide) (t := (.array .long)) (t' := .long) (by decide) (by decide)))).other W6 (Or.inr (slot_ne (Or.inr (hw _ (List.mem_of_getElem? (i := 22) rfl))) (Or.inr (hw _ (List.mem_of_getElem? (i := 15) rfl))) (by decide) (t := (.array .long)) (t' := .double) (by decide) (by decide)))).other W10 (Or.inr (slot_ne (Or.inr (hw _ (List.mem_of_getElem? (i := 22) rfl))) (Or.inr (hw _ (List.mem_of_getElem? (i := 17) rfl))) (by decide) (t := (.array .long)) (t' := .int) (by decide) (by decide)))).other W16 (Or.inr (slot_ne (Or.inr (hw _ (List.mem_of_getElem? (i := 22) rfl))) (Or.inr (hw _ (List.mem_of_getElem? (i := 20) rfl))) (by decide) (t := (.array .long)) (t' := .long) (by decide) (by decide))))
  obtain ⟨T20, h20, X20, eT20, W20, st20⟩ := putF X16 hx hZ hown (host := "") (Or.inl (hw _ (List.mem_of_getElem? (i := 21) rfl))) Via.refl eT16 F19 F18 (Or.inr ⟨(hw _ (List.mem_of_getElem? (i := 22) rfl)), rfl, hnm⟩) (hw _ (List.mem_of_getElem? (i := 4) rfl)) (ty := (.array .long)) (by decide) rfl rfl (g := (mkF m 35 #[.val (.ref a0), .val (.long q1), .second, .val (.double d2), .second, .val (.int p3), .val (.ref a4), .val (.long q5), .second] [(.ref a4), (.ref a0)])) rfl rfl (hb hby d1_35)
  have K21 : Keep h0 h20 [a0] := K17.wr W20 (Or.inl (List.mem_of_getElem? (i := 0) rfl))
  have Fw20 : Fld Z h20 a0 "com/example/sito/sito/Slice" "words" "[J" (.ref a4) := F19.same W20
  have N20 := Fr.snoc X20 N16 g_a0
  refine ogo st20 ?_
  show OWay p e below G T20 (mkF m 38 #[.val (.ref a0), .val (.long q1), .second, .val (.double d2), .second, .val (.int p3), .val (.ref a4), .val (.long q5), .second] [])
  refine ogo (fun _ z_ => XS.aloadN X20.here hx rfl (hb hby d1_38) rfl rfl z_) ?_
  show OWay p e below G T20 (mkF m 39 #[.val (.ref a0), .val (.long q1), .second, .val (.double d2), .second, .val (.int p3), .val (.ref a4), .val (.long q5), .second] [(.ref a0)])
  refine ogo (fun _ z_ => XS.lload X20.here hx rfl (hb hby d1_39) rfl z_) ?_
  show OWay p e below G T20 (mkF m 41 #[.val (.ref a0), .val (.long q1), .second, .val (.double d2), .second, .val (.int p3), .val (.ref a4), .val (.long q5), .second] [(.long q5), (.ref a0)])
  have F22 : Exa Z h20 a0 "com/example/sito/sito/Slice" := (F18.wr W20)
  have F23 : Fld Z h20 a0 "com/example/sito/sito/Slice" "items" "J" (.long (0 : Int64)) := (((((hp9.other W2 (Or.inr (slot_ne (Or.inl (hw _ (List.mem_of_getElem? (i := 24) rfl))) (Or.inr (hw _ (List.mem_of_getElem? (i := 13) rfl))) (by decide) (t := .long) (t' := .long) (by decide) (by decide)))).other W6 (Or.inr (slot_ne (Or.inl (hw _ (List.mem_of_getElem? (i := 24) rfl))) (Or.inr (hw _ (List.mem_of_getElem? (i := 15) rfl))) (by decide) (t := .long) (t' := .double) (by decide) (by decide)))).other W10 (Or.inr (slot_ne (Or.inl (hw _ (List.mem_of_getElem? (i := 24) rfl))) (Or.inr (hw _ (List.mem_of_getElem? (i := 17) rfl))) (by decide) (t := .long) (t' := .int) (by decide) (by decide)))).other W16 (Or.inr (slot_ne (Or.inl (hw _ (List.mem_of_getElem? (i := 24) rfl))) (Or.inr (hw _ (List.mem_of_getElem? (i := 20) rfl))) (by decide) (t := .long) (t' := .long) (by decide) (by decide)))).other W20 (Or.inr (slot_ne (Or.inl (hw _ (List.mem_of_getElem? (i := 24) rfl))) (Or.inr (hw _ (List.mem_of_getElem? (i := 22) rfl))) (by decide) (t := .long) (t' := (.array .long)) (by decide) (by decide))))
  obtain ⟨T24, h24, X24, eT24, W24, st24⟩ := putF X20 hx hZ hown (host := "") (Or.inl (hw _ (List.mem_of_getElem? (i := 23) rfl))) Via.refl eT20 F23 F22 (Or.inl (hw _ (List.mem_of_getElem? (i := 24) rfl))) (hw _ (List.mem_of_getElem? (i := 4) rfl)) (ty := .long) (by decide) rfl rfl (g := (mkF m 41 #[.val (.ref a0), .val (.long q1), .second, .val (.double d2), .second, .val (.int p3), .val (.ref a4), .val (.long q5), .second] [(.long q5), (.ref a0)])) rfl rfl (hb hby d1_41)
  have K25 : Keep h0 h24 [a0] := K21.wr W24 (Or.inl (List.mem_of_getElem? (i := 0) rfl))
  have Fw24 : Fld Z h24 a0 "com/example/sito/sito/Slice" "items" "J" (.long q5) := F23.same W24
  have N24 := Fr.snoc X24 N20 g_a0
  refine ogo st24 ?_
  show OWay p e below G T24 (mkF m 44 #[.val (.ref a0), .val (.long q1), .second, .val (.double d2), .second, .val (.int p3), .val (.ref a4), .val (.long q5), .second] [])
  subst hG
  refine wRetV X24 hx hret hlk (hb hby d1_44) (by decide) (by decide) eT24 ?_
  exact ⟨rfl, N24, K25, (((((Fw2.other W6 (Or.inr (slot_ne (Or.inr (hw _ (List.mem_of_getElem? (i := 13) rfl))) (Or.inr (hw _ (List.mem_of_getElem? (i := 15) rfl))) (by decide) (t := .long) (t' := .double) (by decide) (by decide)))).other W10 (Or.inr (slot_ne (Or.inr (hw _ (List.mem_of_getElem? (i := 13) rfl))) (Or.inr (hw _ (List.mem_of_getElem? (i := 17) rfl))) (by decide) (t := .long) (t' := .int) (by decide) (by decide)))).other W16 (Or.inr (slot_ne (Or.inr (hw _ (List.mem_of_getElem? (i := 13) rfl))) (Or.inr (hw _ (List.mem_of_getElem? (i := 20) rfl))) (by decide) (t := .long) (t' := .long) (by decide) (by decide)))).other W20 (Or.inr (slot_ne (Or.inr (hw _ (List.mem_of_getElem? (i := 13) rfl))) (Or.inr (hw _ (List.mem_of_getElem? (i := 22) rfl))) (by decide) (t := .long) (t' := (.array .long)) (by decide) (by decide)))).other W24 (Or.inr (slot_ne (Or.inr (hw _ (List.mem_of_getElem? (i := 13) rfl))) (Or.inl (hw _ (List.mem_of_getElem? (i := 24) rfl))) (by decide) (t := .long) (t' := .long) (by decide) (by decide)))), ((((Fw6.other W10 (Or.inr (slot_ne (Or.inr (hw _ (List.mem_of_getElem? (i := 15) rfl))) (Or.inr (hw _ (List.mem_of_getElem? (i := 17) rfl))) (by decide) (t := .double) (t' := .int) (by decide) (by decide)))).other W16 (Or.inr (slot_ne (Or.inr (hw _ (List.mem_of_getElem? (i := 15) rfl))) (Or.inr (hw _ (List.mem_of_getElem? (i := 20) rfl))) (by decide) (t := .double) (t' := .long) (by decide) (by decide)))).other W20 (Or.inr (slot_ne (Or.inr (hw _ (List.mem_of_getElem? (i := 15) rfl))) (Or.inr (hw _ (List.mem_of_getElem? (i := 22) rfl))) (by decide) (t := .double) (t' := (.array .long)) (by decide) (by decide)))).other W24 (Or.inr (slot_ne (Or.inr (hw _ (List.mem_of_getElem? (i := 15) rfl))) (Or.inl (hw _ (List.mem_of_getElem? (i := 24) rfl))) (by decide) (t := .double) (t' := .long) (by decide) (by decide)))), (((Fw10.other W16 (Or.inr (slot_ne (Or.inr (hw _ (List.mem_of_getElem? (i := 17) rfl))) (Or.inr (hw _ (List.mem_of_getElem? (i := 20) rfl))) (by decide) (t := .int) (t' := .long) (by decide) (by decide)))).other W20 (Or.inr (slot_ne (Or.inr (hw _ (List.mem_of_getElem? (i := 17) rfl))) (Or.inr (hw _ (List.mem_of_getElem? (i := 22) rfl))) (by decide) (t := .int) (t' := (.array .long)) (by decide) (by decide)))).other W24 (Or.inr (slot_ne (Or.inr (hw _ (List.mem_of_getElem? (i := 17) rfl))) (Or.inl (hw _ (List.mem_of_getElem? (i := 24) rfl))) (by decide) (t := .int) (t' := .long) (by decide) (by decide)))), ((Fw16.other W20 (Or.inr (slot_ne (Or.inr (hw _ (List.mem_of_getElem? (i := 20) rfl))) (Or.inr (hw _ (List.mem_of_getElem? (i := 22) rfl))) (by decide) (t := .long) (t' := (.array .long)) (by decide) (by decide)))).other W24 (Or.inr (slot_ne (Or.inr (hw _ (List.mem_of_getElem? (i := 20) rfl))) (Or.inl (hw _ (List.mem_of_getElem? (i := 24) rfl))) (by decide) (t := .long) (t' := .long) (by decide) (by decide)))), (Fw20.other W24 (Or.inr (slot_ne (Or.inr (hw _ (List.mem_of_getElem? (i := 22) rfl))) (Or.inl (hw _ (List.mem_of_getElem? (i := 24) rfl))) (by decide) (t := (.array .long)) (t' := .long) (by decide) (by decide)))), Fw24⟩
def copy3_rm : Room := { frames := 2, cells := 2, slots := 9, locals := 33 }
def copy3_Q (Z : State) (a0 : Addr) (w0 : Int64) (w1 : UInt64) (w2 : Int32) (w4 : Addr) (w5 : Int64) (kk : ClassId) (y0 : Int64) (y1 : Int64) (y2 : Int64) (h0 : Heap) (n0 : Nat) (v : Option Value) (h : Heap) (L : List Loc) : Prop := ∃ b : Addr, ∃ c : Addr, ∃ kc : ClassId, (v = some (.ref b)) ∧ (Fr n0 L) ∧ (Keep h0 h []) ∧ (n0 ≤ b) ∧ (h0.size ≤ b) ∧ (n0 ≤ c) ∧ (h0.size ≤ c) ∧ (c ≠ b) ∧ (Exa Z h b "com/example/sito/sito/Slice") ∧ (Fld Z h b "com/example/sito/sito/Slice" "capacity" "J" (.long w0)) ∧ (Fld Z h b "com/example/sito/sito/Slice" "bound" "D" (.double w1)) ∧ (Fld Z h b "com/example/sito/sito/Slice" "hashCount" "I" (.int w2)) ∧ (Fld Z h b "com/example/sito/sito/Slice" "bitCount" "J" (.long (192 : Int64))) ∧ (Fld Z h b "com/example/sito/sito/Slice" "words" "[J" (.ref c)) ∧ (Fld Z h b "com/example/sito/sito/Slice" "items" "J" (.long w5)) ∧ (Arv Z h c kc .long (3 : Int32) [(.long y0), (.long y1), (.long y2)] (.long (0 : Int64)))
theorem copy3_ef (m : MethodId) (a0 : Addr) : entryFrame m #[(.ref a0)] 1 = mkF m 0 #[.val (.ref a0)] [] := by first | (simp [entryFrame, mkF, argsToLocals, Value.category]; done) | rfl
set_option maxRecDepth 65536 in
set_option maxHeartbeats 40000000 in
theorem copy3_c (l : Launch) (Z : State) (az : Array Value) (hw : ∀ d ∈ tables_1, d.before az Z = true) (ws : List Jvm.Cond) (a0 : Addr) (w0 : Int64) (w1 : UInt64) (w2 : Int32) (w4 : Addr) (w5 : Int64) (kk : ClassId) (y0 : Int64) (y1 : Int64) (y2 : Int64) (h0 : Heap) (n0 : Nat) (Z0 : n0 ≤ h0.size) (hp0 : Fld Z h0 a0 "com/example/sito/sito/Slice" "capacity" "J" (.long w0)) (hp1 : Fld Z h0 a0 "com/example/sito/sito/Slice" "bound" "D" (.double w1)) (hp2 : Fld Z h0 a0 "com/example/sito/sito/Slice" "hashCount" "I" (.int w2)) (hp3 : Fld Z h0 a0 "com/example/sito/sito/Slice" "words" "[J" (.ref w4)) (hp4 : Fld Z h0 a0 "com/example/sito/sito/Slice" "items" "J" (.long w5)) (hp5 : Arv Z h0 w4 kk .long (3 : Int32) [(.long y0), (.long y1), (.long y2)] (.long (0 : Int64))) (hp6 : Exa Z h0 w4 "[J") :
    OCon l (⟨"com/example/sito/sito/Slice", "copy", "()Lcom/example/sito/sito/Slice;"⟩ : MethodName) prog_6_method_3_code 1 (some (.object "com/example/sito/sito/Slice")) ws copy3_rm Z #[(.ref a0)] h0 (copy3_Q Z a0 w0 w1 w2 w4 w5 kk y0 y1 y2 h0 n0) := by
  refine ocon (plainFor_of_name pn_com_example_sito_sito_Slice) ?_
  intro p e s m below meth c s₁ hx hby hml hown hnm hret hlk hZ X0 eh0
  have N0 := Fr.nil n0
  have K0 := Keep.refl h0 []
  refine ogoE (copy3_ef m a0) ?_
  generalize hG : (OEnd s below (copy3_Q Z a0 w0 w1 w2 w4 w5 kk y0 y1 y2 h0 n0) copy3_rm.cells copy3_rm.slots) = G
  show OWay p e below G s₁ (mkF m 0 #[.val (.ref a0)] [])
  obtain ⟨T1, h1, X1, eT1, E1, A1, D1, -, st1⟩ := newO X0 hx hZ hown (hw _ (List.mem_of_getElem? (i := 30) rfl)) (hw _ (List.mem_of_getElem? (i := 4) rfl)) (hw _ (List.mem_of_getElem? (i := 5) rfl)) eh0 (g := (mkF m 0 #[.val (.ref a0)] [])) rfl (hb hby d3_0) (by decide) (by decide)
  obtain ⟨b1, g1⟩ : ∃ z, z = h0.size := ⟨_, rfl⟩
  rw [← g1] at A1 D1 st1
  have g_b1 : n0 ≤ b1 := Nat.le_trans Z0 (Nat.le_of_eq g1.symm)
  have sz_b1 : h0.size ≤ b1 := Nat.le_trans K0.1 (Nat.le_of_eq g1.symm)
  have K2 : Keep h0 h1 [] := K0.ext E1
  have F_capacity_b1 : Fld Z h1 b1 "com/example/sito/sito/Slice" "capacity" "J" (.long (0 : Int64)) := D1 (Or.inr (hw _ (List.mem_of_getElem? (i := 13) rfl))) (ty := .long) (by decide)
  have F_bound_b1 : Fld Z h1 b1 "com/example/sito/sito/Slice" "bound" "D" (.double (0 : UInt64)) := D1 (Or.inr (hw _ (List.mem_of_getElem? (i := 15) rfl))) (ty := .double) (by decide)
  have F_hashCount_b1 : Fld Z h1 b1 "com/example/sito/sito/Slice" "hashCount" "I" (.int (0 : Int32)) := D1 (Or.inr (hw _ (List.mem_of_getElem? (i := 17) rfl))) (ty := .int) (by decide)
  have F_bitCount_b1 : Fld Z h1 b1 "com/example/sito/sito/Slice" "bitCount" "J" (.long (0 : Int64)) := D1 (Or.inr (hw _ (List.mem_of_getElem? (i := 20) rfl))) (ty := .long) (by decide)
  have F_words_b1 : Fld Z h1 b1 "com/example/sito/sito/Slice" "words" "[J" .null := D1 (Or.inr (hw _ (List.mem_of_getElem? (i := 22) rfl))) (ty := (.array .long)) (by decide)
  have F_items_b1 : Fld Z h1 b1 "com/example/sito/sito/Slice" "items" "J" (.long (0 : Int64)) := D1 (Or.inl (hw _ (List.mem_of_getElem? (i := 24) rfl))) (ty := .long) (by decide)
  refine ogo st1 ?_
  show OWay p e below G T1 (mkF m 3 #[.val (.ref a0)] [(.ref b1)])
  refine ogo (fun _ z_ => XS.dup X1.here hx rfl (hb hby d3_3) rfl rfl z_) ?_
  show OWay p e below G T1 (mkF m 4 #[.val (.ref a0)] [(.ref b1), (.ref b1)])
  refine ogo (fun _ z_ => XS.aloadN X1.here hx rfl (hb hby d3_4) rfl rfl z_) ?_
  show OWay p e below G T1 (mkF m 5 #[.val (.ref a0)] [(.ref a0), (.ref b1), (.ref b1)])
  have F3 : Fld Z h1 a0 "com/example/sito/sito/Slice" "capacity" "J" (.long w0) := (hp0.ext E1)
  obtain ⟨T4, X4, eT4, st4⟩ := getF X1 hx hZ hown (host := "") (Or.inl (hw _ (List.mem_of_getElem? (i := 12) rfl))) Via.refl eT1 F3 (g := (mkF m 5 #[.val (.ref a0)] [(.ref a0), (.ref b1), (.ref b1)])) rfl rfl (hb hby d3_5)
  refine ogo st4 ?_
  show OWay p e below G T4 (mkF m 8 #[.val (.ref a0)] [(.long w0), (.ref b1), (.ref b1)])
  refine ogo (fun _ z_ => XS.aloadN X4.here hx rfl (hb hby d3_8) rfl rfl z_) ?_
  show OWay p e below G T4 (mkF m 9 #[.val (.ref a0)] [(.ref a0), (.long w0), (.ref b1), (.ref b1)])
  have F5 : Fld Z h1 a0 "com/example/sito/sito/Slice" "bound" "D" (.double w1) := (hp1.ext E1)
  obtain ⟨T6, X6, eT6, st6⟩ := getF X4 hx hZ hown (host := "") (Or.inl (hw _ (List.mem_of_getElem? (i := 14) rfl))) Via.refl eT4 F5 (g := (mkF m 9 #[.val (.ref a0)] [(.ref a0), (.long w0), (.ref b1), (.ref b1)])) rfl rfl (hb hby d3_9)
  refine ogo st6 ?_
  show OWay p e below G T6 (mkF m 12 #[.val (.ref a0)] [(.double w1), (.long w0), (.ref b1), (.ref b1)])
  refine ogo (fun _ z_ => XS.aloadN X6.here hx rfl (hb hby d3_12) rfl rfl z_) ?_
  show OWay p e below G T6 (mkF m 13 #[.val (.ref a0)] [(.ref a0), (.double w1), (.long w0), (.ref b1), (.ref b1)])
  have F7 : Fld Z h1 a0 "com/example/sito/sito/Slice" "hashCount" "I" (.int w2) := (hp2.ext E1)
  obtain ⟨T8, X8, eT8, st8⟩ := getF X6 hx hZ hown (host := "") (Or.inl (hw _ (List.mem_of_getElem? (i := 16) rfl))) Via.refl eT6 F7 (g := (mkF m 13 #[.val (.ref a0)] [(.ref a0), (.double w1), (.long w0), (.ref b1), (.ref b1)])) rfl rfl (hb hby d3_13)
  refine ogo st8 ?_
  show OWay p e below G T8 (mkF m 16 #[.val (.ref a0)] [(.int w2), (.double w1), (.long w0), (.ref b1), (.ref b1)])
  refine ogo (fun _ z_ => XS.aloadN X8.here hx rfl (hb hby d3_16) rfl rfl z_) ?_
  show OWay p e below G T8 (mkF m 17 #[.val (.ref a0)] [(.ref a0), (.int w2), (.double w1), (.long w0), (.ref b1), (.ref b1)])
  have F9 : Fld Z h1 a0 "com/example/sito/sito/Slice" "words" "[J" (.ref w4) := (hp3.ext E1)
  obtain ⟨T10, X10, eT10, st10⟩ := getF X8 hx hZ hown (host := "") (Or.inl (hw _ (List.mem_of_getElem? (i := 21) rfl))) Via.refl eT8 F9 (g := (mkF m 17 #[.val (.ref a0)] [(.ref a0), (.int w2), (.double w1), (.long w0), (.ref b1), (.ref b1)])) rfl rfl (hb hby d3_17)
  refine ogo st10 ?_
  show OWay p e below G T10 (mkF m 20 #[.val (.ref a0)] [(.ref w4), (.int w2), (.double w1), (.long w0), (.ref b1), (.ref b1)])
  have F12 : Arv Z h1 w4 kk .long (3 : Int32) [(.long y0), (.long y1), (.long y2)] (.long (0 : Int64)) := (hp5.ext E1)
  have F13 : Exa Z h1 w4 "[J" := (hp6.ext E1)
  obtain ⟨cl11, Ar11, q11, Sz11, Nn11, Hh11, Gg11⟩ := F12
  obtain ⟨T11, h11, X11, eT11, E11, A11, D11, st11⟩ := cloneA X10 hx hZ hown (hw _ (List.mem_of_getElem? (i := 31) rfl)) (hw _ (List.mem_of_getElem? (i := 32) rfl)) (hw _ (List.mem_of_getElem? (i := 36) rfl)) (hw _ (List.mem_of_getElem? (i := 34) rfl)) (hw _ (List.mem_of_getElem? (i := 35) rfl)) (hw _ (List.mem_of_getElem? (i := 37) rfl)) eT10 Ar11 F13 (own_fitC Ar11 Hh11 Gg11) (g := (mkF m 20 #[.val (.ref a0)] [(.ref w4), (.int w2), (.double w1), (.long w0), (.ref b1), (.ref b1)])) rfl (by rw [hml]; rfl) rfl (hb hby d3_20) (by decide) (W := 7) (cap := 3) (by show 2 * 0 + _ ≤ _; exact Nat.le_of_eq rfl) (by decide) (by rw [Sz11]; decide) (by decide) (by decide)
  obtain ⟨b11, g11⟩ : ∃ z, z = h1.size := ⟨_, rfl⟩
  rw [← g11] at A11 D11 st11
  have g_b11 : n0 ≤ b11 := Nat.le_trans (Nat.le_trans Z0 E1.1) (Nat.le_of_eq g11.symm)
  have sz_b11 : h0.size ≤ b11 := Nat.le_trans K2.1 (Nat.le_of_eq g11.symm)
  have K14 : Keep h0 h11 [] := K2.ext E11
  have V_b11 : Arv Z h11 b11 cl11.cls .long (3 : Int32) [(.long y0), (.long y1), (.long y2)] (.long (0 : Int64)) := own_clone A11 Sz11 Nn11 Hh11 Gg11
  refine ogo st11 ?_
  show OWay p e below G T11 (mkF m 23 #[.val (.ref a0)] [(.ref b11), (.int w2), (.double w1), (.long w0), (.ref b1), (.ref b1)])
  obtain ⟨T15, X15, eT15, st15⟩ := castY X11 hx hZ hown (hw _ (List.mem_of_getElem? (i := 38) rfl)) eT11 (Ins.self D11) (g := (mkF m 23 #[.val (.ref a0)] [(.ref b11), (.int w2), (.double w1), (.long w0), (.ref b1), (.ref b1)])) rfl rfl (hb hby d3_23)
  refine ogo st15 ?_
  show OWay p e below G T15 (mkF m 26 #[.val (.ref a0)] [(.ref b11), (.int w2), (.double w1), (.long w0), (.ref b1), (.ref b1)])
  refine ogo (fun _ z_ => XS.aloadN X15.here hx rfl (hb hby d3_26) rfl rfl z_) ?_
  show OWay p e below G T15 (mkF m 27 #[.val (.ref a0)] [(.ref a0), (.ref b11), (.int w2), (.double w1), (.long w0), (.ref b1), (.ref b1)])
  have F16 : Fld Z h11 a0 "com/example/sito/sito/Slice" "items" "J" (.long w5) := ((hp4.ext E1).ext E11)
  obtain ⟨T17, X17, eT17, st17⟩ := getF X15 hx hZ hown (host := "") (Or.inl (hw _ (List.mem_of_getElem? (i := 23) rfl))) Via.refl eT15 F16 (g := (mkF m 27 #[.val (.ref a0)] [(.ref a0), (.ref b11), (.int w2), (.double w1), (.long w0), (.ref b1), (.ref b1)])) rfl rfl (hb hby d3_27)
  refine ogo st17 ?_
  show OWay p e below G T17 (mkF m 30 #[.val (.ref a0)] [(.long w5), (.ref b11), (.int w2), (.double w1), (.long w0), (.ref b1), (.ref b1)])
  have F18 : Exa Z h11 b1 "com/example/sito/sito/Slice" := (A1.ext E11)
  have F19 : Fld Z h11 b1 "com/example/sito/sito/Slice" "capacity" "J" (.long (0 : Int64)) := (F_capacity_b1.ext E11)
  have F20 : Fld Z h11 b1 "com/example/sito/sito/Slice" "bound" "D" (.double (0 : UInt64)) := (F_bound_b1.ext E11)
  have F21 : Fld Z h11 b1 "com/example/sito/sito/Slice" "hashCount" "I" (.int (0 : Int32)) := (F_hashCount_b1.ext E11)
  have F22 : Fld Z h11 b1 "com/example/sito/sito/Slice" "bitCount" "J" (.long (0 : Int64)) := (F_bitCount_b1.ext E11)
  have F23 : Fld Z h11 b1 "com/example/sito/sito/Slice" "words" "[J" .null := (F_words_b1.ext E11)
  have F24 : Fld Z h11 b1 "com/example/sito/sito/Slice" "items" "J" (.long (0 : Int64)) := (F_items_b1.ext E11)
  obtain ⟨_, T25, L25, X25, hQ25, st25⟩ := wInit X17 hx hZ (y := (⟨"com/example/sito/sito/Slice", "<init>", "(JDI[JJ)V"⟩ : MethodName)) rfl hown (hw _ (List.mem_of_getElem? (i := 40) rfl)) (hw _ (List.mem_of_getElem? (i := 7) rfl)) (hw _ (List.mem_of_getElem? (i := 5) rfl)) (hw _ (List.mem_of_getElem? (i := 8) rfl)) (by decide) (ctor_3_c l Z az hw [] b1 w0 w1 w2 b11 w5 cl11.cls (.long y0) (.long y1) (.long y2) h11 n0 (Nat.le_trans (Nat.le_trans Z0 E1.1) E11.1) V_b11 (Ne.symm (Nat.ne_of_lt (Nat.lt_of_lt_of_le A1.lt (Nat.le_of_eq g11.symm)))) F18 g_b1 F19 F20 F21 F22 F23 F24) 1 (by decide) (by decide) (g := (mkF m 30 #[.val (.ref a0)] [(.long w5), (.ref b11), (.int w2), (.double w1), (.long w0), (.ref b1), (.ref b1)])) rfl (by rw [hml]; rfl) (a := b1) (argsL := [(.long w0), (.double w1), (.int w2), (.ref b11), (.long w5)]) (rest := [(.ref b1)]) (lenOf pd__JDI_JJ_V rfl) rfl (by show 2 * 0 + _ ≤ _; exact Nat.le_of_eq rfl) (hb hby d3_30) rfl eT17 (by decide) (by decide)
  obtain ⟨rfl, N25q, Kq25, P26, P27, P28, P29, P30, P31⟩ := hQ25
  have N25 := Fr.app N0 N25q
  have K32 : Keep h0 T25.heap [] := K14.trans Kq25 (allS (Or.inr sz_b1) all0)
  refine ogoS st25 ?_
  show OWay p e below G T25 (mkF m 33 #[.val (.ref a0)] [(.ref b1)])
  subst hG
  refine wRet X25 hx hret hlk rfl (Or.inr (Or.inr (Or.inr (Or.inr ⟨rfl, rfl, rfl⟩)))) (hb hby d3_33) (by decide) (by decide) rfl ?_
  exact ⟨b1, b11, cl11.cls, rfl, N25, K32, g_b1, sz_b1, g_b11, sz_b11, (Ne.symm (Nat.ne_of_lt (Nat.lt_of_lt_of_le A1.lt (Nat.le_of_eq g11.symm)))), (F18.keep Kq25), P26, P27, P28, P29, P30, P31, (V_b11.keep Kq25 (ninS (Ne.symm (Nat.ne_of_lt (Nat.lt_of_lt_of_le A1.lt (Nat.le_of_eq g11.symm)))) nin0))⟩
theorem pd___Lcom_example_sito_sito_Slice_ : parseMethodDescriptor "()Lcom/example/sito/sito/Slice;" = some ⟨[], some (.object "com/example/sito/sito/Slice")⟩ := by decide +kernel
theorem pd___J : parseMethodDescriptor "()J" = some ⟨[], some .long⟩ := by decide +kernel
theorem pd___D : parseMethodDescriptor "()D" = some ⟨[], some .double⟩ := by decide +kernel
theorem pd___I : parseMethodDescriptor "()I" = some ⟨[], some .int⟩ := by decide +kernel
theorem pd____J : parseMethodDescriptor "()[J" = some ⟨[], some (.array .long)⟩ := by decide +kernel
theorem pd__IJJ_J : parseMethodDescriptor "(IJJ)J" = some ⟨[.int, .long, .long], some .long⟩ := by decide +kernel
def law_Q (Z : State) (q0 : Int64) (p1 : Int32) (q2 : Int64) (q3 : Int64) (q4 : Int64) (p5 : Int32) (h0 : Heap) (n0 : Nat) (v : Option Value) (h : Heap) (L : List Loc) : Prop := v = some (.int 1) ∧ Fr n0 L
theorem law_ef (m : MethodId) (q0 : Int64) (p1 : Int32) (q2 : Int64) (q3 : Int64) (q4 : Int64) (p5 : Int32) : entryFrame m #[(.long q0), (.int p1), (.long q2), (.long q3), (.long q4), (.int p5)] maxLocals = mkF m 0 #[.val (.long q0), .second, .val (.int p1), .val (.long q2), .second, .val (.long q3), .second, .val (.long q4), .second, .val (.int p5), .unset, .unset, .unset, .unset, .unset, .unset, .unset, .unset, .unset, .unset] [] := by first | (simp [entryFrame, mkF, argsToLocals, Value.category, maxLocals]; done) | rfl
set_option maxRecDepth 65536 in
set_option maxHeartbeats 40000000 in
theorem law_c (l : Launch) (Z : State) (az : Array Value) (hw : ∀ d ∈ tables_1, d.before az Z = true) (ws : List Jvm.Cond) (q0 : Int64) (p1 : Int32) (q2 : Int64) (q3 : Int64) (q4 : Int64) (p5 : Int32) (h0 : Heap) (n0 : Nat) (Z0 : n0 ≤ h0.size) :
    OCon l x code maxLocals ret ws room_1 Z #[(.long q0), (.int p1), (.long q2), (.long q3), (.long q4), (.int p5)] h0 (law_Q Z q0 p1 q2 q3 q4 p5 h0 n0) := by
  refine ocon (plainFor_of_name pn_com_example_sito_sito_SliceCopyPinLaw) ?_
  intro p e s m below meth c s₁ hx hby hml hown hnm hret hlk hZ X0 eh0
  have N0 := Fr.nil n0
  have K0 := Keep.refl h0 []
  refine ogoE (law_ef m q0 p1 q2 q3 q4 p5) ?_
  generalize hG : (OEnd s below (law_Q Z q0 p1 q2 q3 q4 p5 h0 n0) room_1.cells room_1.slots) = G
  show OWay p e below G s₁ (mkF m 0 #[.val (.long q0), .second, .val (.int p1), .val (.long q2), .second, .val (.long q3), .second, .val (.long q4), .second, .val (.int p5), .unset, .unset, .unset, .unset, .unset, .unset, .unset, .unset, .unset, .unset] [])
  refine ogo (fun _ z_ => XS.iload X0.here hx rfl (hb hby at_0) rfl z_) ?_
  show OWay p e below G s₁ (mkF m 2 #[.val (.long q0), .second, .val (.int p1), .val (.long q2), .second, .val (.long q3), .second, .val (.long q4), .second, .val (.int p5), .unset, .unset, .unset, .unset, .unset, .unset, .unset, .unset, .unset, .unset] [(.int p5)])
  refine ogo (fun _ z_ => XS.iconst X0.here hx rfl (hb hby at_2) z_) ?_
  show OWay p e below G s₁ (mkF m 3 #[.val (.long q0), .second, .val (.int p1), .val (.long q2), .second, .val (.long q3), .second, .val (.long q4), .second, .val (.int p5), .unset, .unset, .unset, .unset, .unset, .unset, .unset, .unset, .unset, .unset] [(.int (3 : Int32)), (.int p5)])
  refine ogo (fun _ z_ => XS.iand X0.here hx rfl (hb hby at_3) rfl z_) ?_
  show OWay p e below G s₁ (mkF m 4 #[.val (.long q0), .second, .val (.int p1), .val (.long q2), .second, .val (.long q3), .second, .val (.long q4), .second, .val (.int p5), .unset, .unset, .unset, .unset, .unset, .unset, .unset, .unset, .unset, .unset] [(.int (p5 &&& (3 : Int32)))])
  suffices Jv10_1 : ∀ v10_1 : Int32, v10_1 = (p5 &&& (3 : Int32)) → OWay p e below G s₁ (mkF m 4 #[.val (.long q0), .second, .val (.int p1), .val (.long q2), .second, .val (.long q3), .second, .val (.long q4), .second, .val (.int p5), .unset, .unset, .unset, .unset, .unset, .unset, .unset, .unset, .unset, .unset] [(.int v10_1)]) from Jv10_1 _ rfl
  intro v10_1 hv10_1
  refine ogo (fun _ z_ => XS.istore X0.here hx rfl (hb hby at_4) rfl (l' := #[.val (.long q0), .second, .val (.int p1), .val (.long q2), .second, .val (.long q3), .second, .val (.long q4), .second, .val (.int p5), .val (.int v10_1), .unset, .unset, .unset, .unset, .unset, .unset, .unset, .unset, .unset]) rfl z_) ?_
  show OWay p e below G s₁ (mkF m 6 #[.val (.long q0), .second, .val (.int p1), .val (.long q2), .second, .val (.long q3), .second, .val (.long q4), .second, .val (.int p5), .val (.int v10_1), .unset, .unset, .unset, .unset, .unset, .unset, .unset, .unset, .unset] [])
  rcases (own_c p5 v10_1 hv10_1 : v10_1 = (0 : Int32) ∨ v10_1 = (1 : Int32) ∨ v10_1 = (2 : Int32) ∨ v10_1 = (3 : Int32)) with rfl | rfl | rfl | rfl
  · show OWay p e below G s₁ (mkF m 6 #[.val (.long q0), .second, .val (.int p1), .val (.long q2), .second, .val (.long q3), .second, .val (.long q4), .second, .val (.int p5), .val (.int (0 : Int32)), .unset, .unset, .unset, .unset, .unset, .unset, .unset, .unset, .unset] [])
    refine ogo (fun _ z_ => XS.iload X0.here hx rfl (hb hby at_6) rfl z_) ?_
    show OWay p e below G s₁ (mkF m 8 #[.val (.long q0), .second, .val (.int p1), .val (.long q2), .second, .val (.long q3), .second, .val (.long q4), .second, .val (.int p5), .val (.int (0 : Int32)), .unset, .unset, .unset, .unset, .unset, .unset, .unset, .unset, .unset] [(.int p5)])
    refine ogo (fun _ z_ => XS.iconst X0.here hx rfl (hb hby at_8) z_) ?_
    show OWay p e below G s₁ (mkF m 9 #[.val (.long q0), .second, .val (.int p1), .val (.long q2), .second, .val (.long q3), .second, .val (.long q4), .second, .val (.int p5), .val (.int (0 : Int32)), .unset, .unset, .unset, .unset, .unset, .unset, .unset, .unset, .unset] [(.int (2 : Int32)), (.int p5)])
    refine ogo (fun _ z_ => XS.iushr X0.here hx rfl (hb hby at_9) rfl z_) ?_
    show OWay p e below G s₁ (mkF m 10 #[.val (.long q0), .second, .val (.int p1), .val (.long q2), .second, .val (.long q3), .second, .val (.long q4), .second, .val (.int p5), .val (.int (0 : Int32)), .unset, .unset, .unset, .unset, .unset, .unset, .unset, .unset, .unset] [(.int ((p5.toUInt32 >>> ((2 : Int32) &&& 31).toUInt32).toInt32))])
    refine ogo (fun _ z_ => X0.ldcInt hx hown (mvT hZ (hw _ (List.mem_of_getElem? (i := 0) rfl))) (g := (mkF m 10 #[.val (.long q0), .second, .val (.int p1), .val (.long q2), .second, .val (.long q3), .second, .val (.long q4), .second, .val (.int p5), .val (.int (0 : Int32)), .unset, .unset, .unset, .unset, .unset, .unset, .unset, .unset, .unset] [(.int ((p5.toUInt32 >>> ((2 : Int32) &&& 31).toUInt32).toInt32))])) rfl (hb hby at_10) _ z_) ?_
    show OWay p e below G s₁ (mkF m 12 #[.val (.long q0), .second, .val (.int p1), .val (.long q2), .second, .val (.long q3), .second, .val (.long q4), .second, .val (.int p5), .val (.int (0 : Int32)), .unset, .unset, .unset, .unset, .unset, .unset, .unset, .unset, .unset] [(.int (1048575 : Int32)), (.int ((p5.toUInt32 >>> ((2 : Int32) &&& 31).toUInt32).toInt32))])
    refine ogo (fun _ z_ => XS.iand X0.here hx rfl (hb hby at_12) rfl z_) ?_
    show OWay p e below G s₁ (mkF m 13 #[.val (.long q0), .second, .val (.int p1), .val (.long q2), .second, .val (.long q3), .second, .val (.long q4), .second, .val (.int p5), .val (.int (0 : Int32)), .unset, .unset, .unset, .unset, .unset, .unset, .unset, .unset, .unset] [(.int (((p5.toUInt32 >>> ((2 : Int32) &&& 31).toUInt32).toInt32) &&& (1048575 : Int32)))])
    refine ogo (fun _ z_ => XS.i2dS X0.here hx rfl (hb hby at_13) rfl rfl z_) ?_
    show OWay p e below G s₁ (mkF m 14 #[.val (.long q0), .second, .val (.int p1), .val (.long q2), .second, .val (.long q3), .second, .val (.long q4), .second, .val (.int p5), .val (.int (0 : Int32)), .unset, .unset, .unset, .unset, .unset, .unset, .unset, .unset, .unset] [(.double (FP.i2d (((p5.toUInt32 >>> ((2 : Int32) &&& 31).toUInt32).toInt32) &&& (1048575 : Int32))))])
    refine ogo (fun _ z_ => X0.ldc2DoubleC hx hown (mvT hZ (hw _ (List.mem_of_getElem? (i := 1) rfl))) (g := (mkF m 14 #[.val (.long q0), .second, .val (.int p1), .val (.long q2), .second, .val (.long q3), .second, .val (.long q4), .second, .val (.int p5), .val (.int (0 : Int32)), .unset, .unset, .unset, .unset, .unset, .unset, .unset, .unset, .unset] [(.double (FP.i2d (((p5.toUInt32 >>> ((2 : Int32) &&& 31).toUInt32).toInt32) &&& (1048575 : Int32))))])) rfl (hb hby at_14) _ z_) ?_
    show OWay p e below G s₁ (mkF m 17 #[.val (.long q0), .second, .val (.int p1), .val (.long q2), .second, .val (.long q3), .second, .val (.long q4), .second, .val (.int p5), .val (.int (0 : Int32)), .unset, .unset, .unset, .unset, .unset, .unset, .unset, .unset, .unset] [(.double (4697254411347427328 : UInt64)), (.double (FP.i2d (((p5.toUInt32 >>> ((2 : Int32) &&& 31).toUInt32).toInt32) &&& (1048575 : Int32))))])
    refine ogo (fun _ z_ => XS.ddivS X0.here hx rfl (hb hby at_17) rfl (own_nn _) rfl z_) ?_
    show OWay p e below G s₁ (mkF m 18 #[.val (.long q0), .second, .val (.int p1), .val (.long q2), .second, .val (.long q3), .second, .val (.long q4), .second, .val (.int p5), .val (.int (0 : Int32)), .unset, .unset, .unset, .unset, .unset, .unset, .unset, .unset, .unset] [(.double (FP.ddiv (FP.i2d (((p5.toUInt32 >>> ((2 : Int32) &&& 31).toUInt32).toInt32) &&& (1048575 : Int32))) (4697254411347427328 : UInt64)))])
    suffices Jv11_2 : ∀ v11_2 : UInt64, v11_2 = (FP.ddiv (FP.i2d (((p5.toUInt32 >>> ((2 : Int32) &&& 31).toUInt32).toInt32) &&& (1048575 : Int32))) (4697254411347427328 : UInt64)) → OWay p e below G s₁ (mkF m 18 #[.val (.long q0), .second, .val (.int p1), .val (.long q2), .second, .val (.long q3), .second, .val (.long q4), .second, .val (.int p5), .val (.int (0 : Int32)), .unset, .unset, .unset, .unset, .unset, .unset, .unset, .unset, .unset] [(.double v11_2)]) from Jv11_2 _ rfl
    intro v11_2 hv11_2
    refine ogo (fun _ z_ => XS.dstore X0.here hx rfl (hb hby at_18) rfl (l' := #[.val (.long q0), .second, .val (.int p1), .val (.long q2), .second, .val (.long q3), .second, .val (.long q4), .second, .val (.int p5), .val (.int (0 : Int32)), .val (.double v11_2), .second, .unset, .unset, .unset, .unset, .unset, .unset, .unset]) rfl z_) ?_
    show OWay p e below G s₁ (mkF m 20 #[.val (.long q0), .second, .val (.int p1), .val (.long q2), .second, .val (.long q3), .second, .val (.long q4), .second, .val (.int p5), .val (.int (0 : Int32)), .val (.double v11_2), .second, .unset, .unset, .unset, .unset, .unset, .unset, .unset] [])
    refine ogo (fun _ z_ => XS.iload X0.here hx rfl (hb hby at_20) rfl z_) ?_
    show OWay p e below G s₁ (mkF m 22 #[.val (.long q0), .second, .val (.int p1), .val (.long q2), .second, .val (.long q3), .second, .val (.long q4), .second, .val (.int p5), .val (.int (0 : Int32)), .val (.double v11_2), .second, .unset, .unset, .unset, .unset, .unset, .unset, .unset] [(.int (0 : Int32))])
    obtain ⟨T3, h3, k3, X3, eT3, E3, A3, D3, st3⟩ := newPE X0 hx hZ (hw _ (List.mem_of_getElem? (i := 2) rfl)) eh0 (g := (mkF m 22 #[.val (.long q0), .second, .val (.int p1), .val (.long q2), .second, .val (.long q3), .second, .val (.long q4), .second, .val (.int p5), .val (.int (0 : Int32)), .val (.double v11_2), .second, .unset, .unset, .unset, .unset, .unset, .unset, .unset] [(.int (0 : Int32))])) rfl (hb hby at_22) rfl (by decide) (cap := 0) (by decide) (by decide) (by decide) (by decide)
    obtain ⟨b3, g3⟩ : ∃ z, z = h0.size := ⟨_, rfl⟩
    rw [← g3] at A3 D3 st3
    have g_b3 : n0 ≤ b3 := Nat.le_trans Z0 (Nat.le_of_eq g3.symm)
    have sz_b3 : h0.size ≤ b3 := Nat.le_trans K0.1 (Nat.le_of_eq g3.symm)
    have K4 : Keep h0 h3 [] := K0.ext E3
    have V_b3 : Arv Z h3 b3 k3 .long (0 : Int32) [] (.long (0 : Int64)) := (Arv.new A3 (by decide)).pad (pad_rep [] (.long (0 : Int64)) 0)
    have Ex_b3 : Exa Z h3 b3 "[J" := D3
    refine ogo st3 ?_
    show OWay p e below G T3 (mkF m 24 #[.val (.long q0), .second, .val (.int p1), .val (.long q2), .second, .val (.long q3), .second, .val (.long q4), .second, .val (.int p5), .val (.int (0 : Int32)), .val (.double v11_2), .second, .unset, .unset, .unset, .unset, .unset, .unset, .unset] [(.ref b3)])
    refine ogo (fun _ z_ => XS.astore X3.here hx rfl (hb hby at_24) rfl rfl (l' := #[.val (.long q0), .second, .val (.int p1), .val (.long q2), .second, .val (.long q3), .second, .val (.long q4), .second, .val (.int p5), .val (.int (0 : Int32)), .val (.double v11_2), .second, .val (.ref b3), .unset, .unset, .unset, .unset, .unset, .unset]) rfl z_) ?_
    show OWay p e below G T3 (mkF m 26 #[.val (.long q0), .second, .val (.int p1), .val (.long q2), .second, .val (.long q3), .second, .val (.long q4), .second, .val (.int p5), .val (.int (0 : Int32)), .val (.double v11_2), .second, .val (.ref b3), .unset, .unset, .unset, .unset, .unset, .unset] [])
    refine ogo (fun _ z_ => XS.iload X3.here hx rfl (hb hby at_26) rfl z_) ?_
    show OWay p e below G T3 (mkF m 28 #[.val (.long q0), .second, .val (.int p1), .val (.long q2), .second, .val (.long q3), .second, .val (.long q4), .second, .val (.int p5), .val (.int (0 : Int32)), .val (.double v11_2), .second, .val (.ref b3), .unset, .unset, .unset, .unset, .unset, .unset] [(.int (0 : Int32))])
    refine ogo (fun _ z_ => XS.ifYes X3.here hx rfl (pc0 := 28) (pc' := 42) rfl (hb hby at_28) rfl ((if0 _ _).trans (flt (by decide)).2.2.2) (by decide) (by decide) z_) ?_
    show OWay p e below G T3 (mkF m 42 #[.val (.long q0), .second, .val (.int p1), .val (.long q2), .second, .val (.long q3), .second, .val (.long q4), .second, .val (.int p5), .val (.int (0 : Int32)), .val (.double v11_2), .second, .val (.ref b3), .unset, .unset, .unset, .unset, .unset, .unset] [])
    refine ogo (fun _ z_ => XS.iload X3.here hx rfl (hb hby at_42) rfl z_) ?_
    show OWay p e below G T3 (mkF m 44 #[.val (.long q0), .second, .val (.int p1), .val (.long q2), .second, .val (.long q3), .second, .val (.long q4), .second, .val (.int p5), .val (.int (0 : Int32)), .val (.double v11_2), .second, .val (.ref b3), .unset, .unset, .unset, .unset, .unset, .unset] [(.int (0 : Int32))])
    refine ogo (fun _ z_ => XS.iconst X3.here hx rfl (hb hby at_44) z_) ?_
    show OWay p e below G T3 (mkF m 45 #[.val (.long q0), .second, .val (.int p1), .val (.long q2), .second, .val (.long q3), .second, .val (.long q4), .second, .val (.int p5), .val (.int (0 : Int32)), .val (.double v11_2), .second, .val (.ref b3), .unset, .unset, .unset, .unset, .unset, .unset] [(.int (1 : Int32)), (.int (0 : Int32))])
    refine ogo (fun _ z_ => XS.icmpYes X3.here hx rfl (pc0 := 45) (pc' := 59) rfl (hb hby at_45) rfl (flt (by decide)).2.2.2 (by decide) (by decide) z_) ?_
    show OWay p e below G T3 (mkF m 59 #[.val (.long q0), .second, .val (.int p1), .val (.long q2), .second, .val (.long q3), .second, .val (.long q4), .second, .val (.int p5), .val (.int (0 : Int32)), .val (.double v11_2), .second, .val (.ref b3), .unset, .unset, .unset, .unset, .unset, .unset] [])
    refine ogo (fun _ z_ => XS.iload X3.here hx rfl (hb hby at_59) rfl z_) ?_
    show OWay p e below G T3 (mkF m 61 #[.val (.long q0), .second, .val (.int p1), .val (.long q2), .second, .val (.long q3), .second, .val (.long q4), .second, .val (.int p5), .val (.int (0 : Int32)), .val (.double v11_2), .second, .val (.ref b3), .unset, .unset, .unset, .unset, .unset, .unset] [(.int (0 : Int32))])
    refine ogo (fun _ z_ => XS.iconst X3.here hx rfl (hb hby at_61) z_) ?_
    show OWay p e below G T3 (mkF m 62 #[.val (.long q0), .second, .val (.int p1), .val (.long q2), .second, .val (.long q3), .second, .val (.long q4), .second, .val (.int p5), .val (.int (0 : Int32)), .val (.double v11_2), .second, .val (.ref b3), .unset, .unset, .unset, .unset, .unset, .unset] [(.int (2 : Int32)), (.int (0 : Int32))])
    refine ogo (fun _ z_ => XS.icmpYes X3.here hx rfl (pc0 := 62) (pc' := 76) rfl (hb hby at_62) rfl (flt (by decide)).2.2.2 (by decide) (by decide) z_) ?_
    show OWay p e below G T3 (mkF m 76 #[.val (.long q0), .second, .val (.int p1), .val (.long q2), .second, .val (.long q3), .second, .val (.long q4), .second, .val (.int p5), .val (.int (0 : Int32)), .val (.double v11_2), .second, .val (.ref b3), .unset, .unset, .unset, .unset, .unset, .unset] [])
    obtain ⟨T5, h5, X5, eT5, E5, A5, D5, -, st5⟩ := newO X3 hx hZ hown (hw _ (List.mem_of_getElem? (i := 3) rfl)) (hw _ (List.mem_of_getElem? (i := 4) rfl)) (hw _ (List.mem_of_getElem? (i := 5) rfl)) eT3 (g := (mkF m 76 #[.val (.long q0), .second, .val (.int p1), .val (.long q2), .second, .val (.long q3), .second, .val (.long q4), .second, .val (.int p5), .val (.int (0 : Int32)), .val (.double v11_2), .second, .val (.ref b3), .unset, .unset, .unset, .unset, .unset, .unset] [])) rfl (hb hby at_76) (by decide) (by decide)
    obtain ⟨b5, g5⟩ : ∃ z, z = h3.size := ⟨_, rfl⟩
    rw [← g5] at A5 D5 st5
    have g_b5 : n0 ≤ b5 := Nat.le_trans (Nat.le_trans Z0 E3.1) (Nat.le_of_eq g5.symm)
    have sz_b5 : h0.size ≤ b5 := Nat.le_trans K4.1 (Nat.le_of_eq g5.symm)
    have K6 : Keep h0 h5 [] := K4.ext E5
    have F_capacity_b5 : Fld Z h5 b5 "com/example/sito/sito/Slice" "capacity" "J" (.long (0 : Int64)) := D5 (Or.inr (hw _ (List.mem_of_getElem? (i := 13) rfl))) (ty := .long) (by decide)
    have F_bound_b5 : Fld Z h5 b5 "com/example/sito/sito/Slice" "bound" "D" (.double (0 : UInt64)) := D5 (Or.inr (hw _ (List.mem_of_getElem? (i := 15) rfl))) (ty := .double) (by decide)
    have F_hashCount_b5 : Fld Z h5 b5 "com/example/sito/sito/Slice" "hashCount" "I" (.int (0 : Int32)) := D5 (Or.inr (hw _ (List.mem_of_getElem? (i := 17) rfl))) (ty := .int) (by decide)
    have F_bitCount_b5 : Fld Z h5 b5 "com/example/sito/sito/Slice" "bitCount" "J" (.long (0 : Int64)) := D5 (Or.inr (hw _ (List.mem_of_getElem? (i := 20) rfl))) (ty := .long) (by decide)
    have F_words_b5 : Fld Z h5 b5 "com/example/sito/sito/Slice" "words" "[J" .null := D5 (Or.inr (hw _ (List.mem_of_getElem? (i := 22) rfl))) (ty := (.array .long)) (by decide)
    have F_items_b5 : Fld Z h5 b5 "com/example/sito/sito/Slice" "items" "J" (.long (0 : Int64)) := D5 (Or.inl (hw _ (List.mem_of_getElem? (i := 24) rfl))) (ty := .long) (by decide)
    refine ogo st5 ?_
    show OWay p e below G T5 (mkF m 79 #[.val (.long q0), .second, .val (.int p1), .val (.long q2), .second, .val (.long q3), .second, .val (.long q4), .second, .val (.int p5), .val (.int (0 : Int32)), .val (.double v11_2), .second, .val (.ref b3), .unset, .unset, .unset, .unset, .unset, .unset] [(.ref b5)])
    refine ogo (fun _ z_ => XS.dup X5.here hx rfl (hb hby at_79) rfl rfl z_) ?_
    show OWay p e below G T5 (mkF m 80 #[.val (.long q0), .second, .val (.int p1), .val (.long q2), .second, .val (.long q3), .second, .val (.long q4), .second, .val (.int p5), .val (.int (0 : Int32)), .val (.double v11_2), .second, .val (.ref b3), .unset, .unset, .unset, .unset, .unset, .unset] [(.ref b5), (.ref b5)])
    refine ogo (fun _ z_ => XS.lloadN X5.here hx rfl (hb hby at_80) rfl z_) ?_
    show OWay p e below G T5 (mkF m 81 #[.val (.long q0), .second, .val (.int p1), .val (.long q2), .second, .val (.long q3), .second, .val (.long q4), .second, .val (.int p5), .val (.int (0 : Int32)), .val (.double v11_2), .second, .val (.ref b3), .unset, .unset, .unset, .unset, .unset, .unset] [(.long q0), (.ref b5), (.ref b5)])
    refine ogo (fun _ z_ => XS.dload X5.here hx rfl (hb hby at_81) rfl z_) ?_
    show OWay p e below G T5 (mkF m 83 #[.val (.long q0), .second, .val (.int p1), .val (.long q2), .second, .val (.long q3), .second, .val (.long q4), .second, .val (.int p5), .val (.int (0 : Int32)), .val (.double v11_2), .second, .val (.ref b3), .unset, .unset, .unset, .unset, .unset, .unset] [(.double v11_2), (.long q0), (.ref b5), (.ref b5)])
    refine ogo (fun _ z_ => XS.iloadN X5.here hx rfl (hb hby at_83) rfl z_) ?_
    show OWay p e below G T5 (mkF m 84 #[.val (.long q0), .second, .val (.int p1), .val (.long q2), .second, .val (.long q3), .second, .val (.long q4), .second, .val (.int p5), .val (.int (0 : Int32)), .val (.double v11_2), .second, .val (.ref b3), .unset, .unset, .unset, .unset, .unset, .unset] [(.int p1), (.double v11_2), (.long q0), (.ref b5), (.ref b5)])
    refine ogo (fun _ z_ => XS.aload X5.here hx rfl (hb hby at_84) rfl rfl z_) ?_
    show OWay p e below G T5 (mkF m 86 #[.val (.long q0), .second, .val (.int p1), .val (.long q2), .second, .val (.long q3), .second, .val (.long q4), .second, .val (.int p5), .val (.int (0 : Int32)), .val (.double v11_2), .second, .val (.ref b3), .unset, .unset, .unset, .unset, .unset, .unset] [(.ref b3), (.int p1), (.double v11_2), (.long q0), (.ref b5), (.ref b5)])
    refine ogo (fun _ z_ => XS.lload X5.here hx rfl (hb hby at_86) rfl z_) ?_
    show OWay p e below G T5 (mkF m 88 #[.val (.long q0), .second, .val (.int p1), .val (.long q2), .second, .val (.long q3), .second, .val (.long q4), .second, .val (.int p5), .val (.int (0 : Int32)), .val (.double v11_2), .second, .val (.ref b3), .unset, .unset, .unset, .unset, .unset, .unset] [(.long q4), (.ref b3), (.int p1), (.double v11_2), (.long q0), (.ref b5), (.ref b5)])
    have F7 : Arv Z h5 b3 k3 .long (0 : Int32) [] (.long (0 : Int64)) := (V_b3.ext E5)
    obtain ⟨_, T8, L8, X8, hQ8, st8⟩ := wInit X5 hx hZ (y := (⟨"com/example/sito/sito/Slice", "<init>", "(JDI[JJ)V"⟩ : MethodName)) rfl hown (hw _ (List.mem_of_getElem? (i := 6) rfl)) (hw _ (List.mem_of_getElem? (i := 7) rfl)) (hw _ (List.mem_of_getElem? (i := 5) rfl)) (hw _ (List.mem_of_getElem? (i := 8) rfl)) (by decide) (ctor_0_c l Z az hw [] b5 q0 v11_2 p1 b3 q4 k3 h5 n0 (Nat.le_trans (Nat.le_trans Z0 E3.1) E5.1) F7 (Nat.ne_of_lt (Nat.lt_of_lt_of_le Ex_b3.lt (Nat.le_of_eq g5.symm))) A5 g_b5 F_capacity_b5 F_bound_b5 F_hashCount_b5 F_bitCount_b5 F_words_b5 F_items_b5) 1 (by decide) (by decide) (g := (mkF m 88 #[.val (.long q0), .second, .val (.int p1), .val (.long q2), .second, .val (.long q3), .second, .val (.long q4), .second, .val (.int p5), .val (.int (0 : Int32)), .val (.double v11_2), .second, .val (.ref b3), .unset, .unset, .unset, .unset, .unset, .unset] [(.long q4), (.ref b3), (.int p1), (.double v11_2), (.long q0), (.ref b5), (.ref b5)])) rfl (by rw [hml]; rfl) (a := b5) (argsL := [(.long q0), (.double v11_2), (.int p1), (.ref b3), (.long q4)]) (rest := [(.ref b5)]) (lenOf pd__JDI_JJ_V rfl) rfl (by show 2 * 0 + _ ≤ _; exact Nat.le_of_eq rfl) (hb hby at_88) rfl eT5 (by decide) (by decide)
    obtain ⟨rfl, N8q, Kq8, P9, P10, P11, P12, P13, P14⟩ := hQ8
    have N8 := Fr.app N0 N8q
    have K15 : Keep h0 T8.heap [] := K6.trans Kq8 (allS (Or.inr sz_b5) all0)
    refine ogoS st8 ?_
    show OWay p e below G T8 (mkF m 91 #[.val (.long q0), .second, .val (.int p1), .val (.long q2), .second, .val (.long q3), .second, .val (.long q4), .second, .val (.int p5), .val (.int (0 : Int32)), .val (.double v11_2), .second, .val (.ref b3), .unset, .unset, .unset, .unset, .unset, .unset] [(.ref b5)])
    refine ogo (fun _ z_ => XS.astore X8.here hx rfl (hb hby at_91) rfl rfl (l' := #[.val (.long q0), .second, .val (.int p1), .val (.long q2), .second, .val (.long q3), .second, .val (.long q4), .second, .val (.int p5), .val (.int (0 : Int32)), .val (.double v11_2), .second, .val (.ref b3), .val (.ref b5), .unset, .unset, .unset, .unset, .unset]) rfl z_) ?_
    show OWay p e below G T8 (mkF m 93 #[.val (.long q0), .second, .val (.int p1), .val (.long q2), .second, .val (.long q3), .second, .val (.long q4), .second, .val (.int p5), .val (.int (0 : Int32)), .val (.double v11_2), .second, .val (.ref b3), .val (.ref b5), .unset, .unset, .unset, .unset, .unset] [])
    refine ogo (fun _ z_ => XS.aload X8.here hx rfl (hb hby at_93) rfl rfl z_) ?_
    show OWay p e below G T8 (mkF m 95 #[.val (.long q0), .second, .val (.int p1), .val (.long q2), .second, .val (.long q3), .second, .val (.long q4), .second, .val (.int p5), .val (.int (0 : Int32)), .val (.double v11_2), .second, .val (.ref b3), .val (.ref b5), .unset, .unset, .unset, .unset, .unset] [(.ref b5)])
    have F16 : Arv Z T8.heap b3 k3 .long (0 : Int32) [] (.long (0 : Int64)) := (F7.keep Kq8 (ninS (Nat.ne_of_lt (Nat.lt_of_lt_of_le Ex_b3.lt (Nat.le_of_eq g5.symm))) nin0))
    have F17 : Exa Z T8.heap b3 "[J" := ((Ex_b3.ext E5).keep Kq8)
    have F19 : Exa Z T8.heap b5 "com/example/sito/sito/Slice" := (A5.keep Kq8)
    obtain ⟨_, T18, L18, X18, hQ18, st18⟩ := wVirtual X8 hx hZ (y := (⟨"com/example/sito/sito/Slice", "copy", "()Lcom/example/sito/sito/Slice;"⟩ : MethodName)) (z := (⟨"com/example/sito/sito/Slice", "copy", "()Lcom/example/sito/sito/Slice;"⟩ : MethodName)) hown (hw _ (List.mem_of_getElem? (i := 25) rfl)) (hw _ (List.mem_of_getElem? (i := 26) rfl)) (notFace_of_selects (args := #[]) (mvT hZ (hw _ (List.mem_of_getElem? (i := 28) rfl)))) (hw _ (List.mem_of_getElem? (i := 28) rfl)) (hw _ (List.mem_of_getElem? (i := 27) rfl)) (hw _ (List.mem_of_getElem? (i := 5) rfl)) (hw _ (List.mem_of_getElem? (i := 29) rfl)) (by decide) (copy0_c l Z az hw [] b5 q0 v11_2 p1 b3 q4 k3 T8.heap n0 (Nat.le_trans (Nat.le_trans (Nat.le_trans Z0 E3.1) E5.1) Kq8.1) P9 P10 P11 P13 P14 F16 F17) 0 (by decide) (by decide) F19 (g := (mkF m 95 #[.val (.long q0), .second, .val (.int p1), .val (.long q2), .second, .val (.long q3), .second, .val (.long q4), .second, .val (.int p5), .val (.int (0 : Int32)), .val (.double v11_2), .second, .val (.ref b3), .val (.ref b5), .unset, .unset, .unset, .unset, .unset] [(.ref b5)])) rfl (by rw [hml]; rfl) (argsL := []) (rest := []) (lenOf pd___Lcom_example_sito_sito_Slice_ rfl) rfl (by show 2 * 0 + _ ≤ _; exact Nat.le_of_eq rfl) (hb hby at_95) rfl rfl (by decide) (by decide)
    obtain ⟨b_20, c_21, kc_22, rfl, N18q, Kq18, P23, P24, P25, P26, P27, P28, P29, P30, P31, P32, P33, P34, P35⟩ := hQ18
    have N18 := Fr.app N8 N18q
    have K36 : Keep h0 T18.heap [] := K15.trans Kq18 all0
    have g_b_20 := P23
    have sz_b_20 : h0.size ≤ b_20 := Nat.le_trans K15.1 P24
    have g_c_21 := P25
    have sz_c_21 : h0.size ≤ c_21 := Nat.le_trans K15.1 P26
    refine ogoS st18 ?_
    show OWay p e below G T18 (mkF m 98 #[.val (.long q0), .second, .val (.int p1), .val (.long q2), .second, .val (.long q3), .second, .val (.long q4), .second, .val (.int p5), .val (.int (0 : Int32)), .val (.double v11_2), .second, .val (.ref b3), .val (.ref b5), .unset, .unset, .unset, .unset, .unset] [(.ref b_20)])
    refine ogo (fun _ z_ => XS.astore X18.here hx rfl (hb hby at_98) rfl rfl (l' := #[.val (.long q0), .second, .val (.int p1), .val (.long q2), .second, .val (.long q3), .second, .val (.long q4), .second, .val (.int p5), .val (.int (0 : Int32)), .val (.double v11_2), .second, .val (.ref b3), .val (.ref b5), .val (.ref b_20), .unset, .unset, .unset, .unset]) rfl z_) ?_
    show OWay p e below G T18 (mkF m 100 #[.val (.long q0), .second, .val (.int p1), .val (.long q2), .second, .val (.long q3), .second, .val (.long q4), .second, .val (.int p5), .val (.int (0 : Int32)), .val (.double v11_2), .second, .val (.ref b3), .val (.ref b5), .val (.ref b_20), .unset, .unset, .unset, .unset] [])
    refine ogo (fun _ z_ => XS.aload X18.here hx rfl (hb hby at_100) rfl rfl z_) ?_
    show OWay p e below G T18 (mkF m 102 #[.val (.long q0), .second, .val (.int p1), .val (.long q2), .second, .val (.long q3), .second, .val (.long q4), .second, .val (.int p5), .val (.int (0 : Int32)), .val (.double v11_2), .second, .val (.ref b3), .val (.ref b5), .val (.ref b_20), .unset, .unset, .unset, .unset] [(.ref b_20)])
    refine ogo (fun _ z_ => XS.ifnullNo X18.here hx rfl (hb hby at_102) rfl z_) ?_
    show OWay p e below G T18 (mkF m 105 #[.val (.long q0), .second, .val (.int p1), .val (.long q2), .second, .val (.long q3), .second, .val (.long q4), .second, .val (.int p5), .val (.int (0 : Int32)), .val (.double v11_2), .second, .val (.ref b3), .val (.ref b5), .val (.ref b_20), .unset, .unset, .unset, .unset] [])
    refine ogo (fun _ z_ => XS.aload X18.here hx rfl (hb hby at_105) rfl rfl z_) ?_
    show OWay p e below G T18 (mkF m 107 #[.val (.long q0), .second, .val (.int p1), .val (.long q2), .second, .val (.long q3), .second, .val (.long q4), .second, .val (.int p5), .val (.int (0 : Int32)), .val (.double v11_2), .second, .val (.ref b3), .val (.ref b5), .val (.ref b_20), .unset, .unset, .unset, .unset] [(.ref b_20)])
    refine ogo (fun _ z_ => XS.aload X18.here hx rfl (hb hby at_107) rfl rfl z_) ?_
    show OWay p e below G T18 (mkF m 109 #[.val (.long q0), .second, .val (.int p1), .val (.long q2), .second, .val (.long q3), .second, .val (.long q4), .second, .val (.int p5), .val (.int (0 : Int32)), .val (.double v11_2), .second, .val (.ref b3), .val (.ref b5), .val (.ref b_20), .unset, .unset, .unset, .unset] [(.ref b5), (.ref b_20)])
    refine ogo (fun _ z_ => Jvm.RoadKit.acmp (g := (mkF m 109 #[.val (.long q0), .second, .val (.int p1), .val (.long q2), .second, .val (.long q3), .second, .val (.long q4), .second, .val (.int p5), .val (.int (0 : Int32)), .val (.double v11_2), .second, .val (.ref b3), .val (.ref b5), .val (.ref b_20), .unset, .unset, .unset, .unset] [(.ref b5), (.ref b_20)])) X18 hx rfl rfl rfl (pc0 := 109) (pc' := 114) (same := false) rfl (hb hby at_109) rfl (decide_eq_false fun q => (Ne.symm (Nat.ne_of_lt (Nat.lt_of_lt_of_le F19.lt P24))) (Value.ref.inj q)) (by decide) (by decide) z_) ?_
    show OWay p e below G T18 (mkF m 114 #[.val (.long q0), .second, .val (.int p1), .val (.long q2), .second, .val (.long q3), .second, .val (.long q4), .second, .val (.int p5), .val (.int (0 : Int32)), .val (.double v11_2), .second, .val (.ref b3), .val (.ref b5), .val (.ref b_20), .unset, .unset, .unset, .unset] [])
    refine ogo (fun _ z_ => XS.aload X18.here hx rfl (hb hby at_114) rfl rfl z_) ?_
    show OWay p e below G T18 (mkF m 116 #[.val (.long q0), .second, .val (.int p1), .val (.long q2), .second, .val (.long q3), .second, .val (.long q4), .second, .val (.int p5), .val (.int (0 : Int32)), .val (.double v11_2), .second, .val (.ref b3), .val (.ref b5), .val (.ref b_20), .unset, .unset, .unset, .unset] [(.ref b_20)])
    obtain ⟨_, T37, L37, X37, hQ37, st37⟩ := wVirtual X18 hx hZ (y := (⟨"com/example/sito/sito/Slice", "getCapacity", "()J"⟩ : MethodName)) (z := (⟨"com/example/sito/sito/Slice", "getCapacity", "()J"⟩ : MethodName)) hown (hw _ (List.mem_of_getElem? (i := 41) rfl)) (hw _ (List.mem_of_getElem? (i := 42) rfl)) (notFace_of_selects (args := #[]) (mvT hZ (hw _ (List.mem_of_getElem? (i := 44) rfl)))) (hw _ (List.mem_of_getElem? (i := 44) rfl)) (hw _ (List.mem_of_getElem? (i := 43) rfl)) (hw _ (List.mem_of_getElem? (i := 5) rfl)) (hw _ (List.mem_of_getElem? (i := 45) rfl)) (by decide) (get4_c l Z az hw [] b_20 q0 T18.heap n0 (Nat.le_trans (Nat.le_trans (Nat.le_trans (Nat.le_trans Z0 E3.1) E5.1) Kq8.1) Kq18.1) P29) 0 (by decide) (by decide) P28 (g := (mkF m 116 #[.val (.long q0), .second, .val (.int p1), .val (.long q2), .second, .val (.long q3), .second, .val (.long q4), .second, .val (.int p5), .val (.int (0 : Int32)), .val (.double v11_2), .second, .val (.ref b3), .val (.ref b5), .val (.ref b_20), .unset, .unset, .unset, .unset] [(.ref b_20)])) rfl (by rw [hml]; rfl) (argsL := []) (rest := []) (lenOf pd___J rfl) rfl (by show 2 * 0 + _ ≤ _; exact Nat.le_of_eq rfl) (hb hby at_116) rfl rfl (by decide) (by decide)
    obtain ⟨rfl, N37q, eq37⟩ := hQ37
    have N37 := Fr.app N18 N37q
    refine ogoS st37 ?_
    show OWay p e below G T37 (mkF m 119 #[.val (.long q0), .second, .val (.int p1), .val (.long q2), .second, .val (.long q3), .second, .val (.long q4), .second, .val (.int p5), .val (.int (0 : Int32)), .val (.double v11_2), .second, .val (.ref b3), .val (.ref b5), .val (.ref b_20), .unset, .unset, .unset, .unset] [(.long q0)])
    refine ogo (fun _ z_ => XS.lloadN X37.here hx rfl (hb hby at_119) rfl z_) ?_
    show OWay p e below G T37 (mkF m 120 #[.val (.long q0), .second, .val (.int p1), .val (.long q2), .second, .val (.long q3), .second, .val (.long q4), .second, .val (.int p5), .val (.int (0 : Int32)), .val (.double v11_2), .second, .val (.ref b3), .val (.ref b5), .val (.ref b_20), .unset, .unset, .unset, .unset] [(.long q0), (.long q0)])
    refine ogo (fun _ z_ => XS.lcmp X37.here hx rfl (hb hby at_120) rfl z_) ?_
    show OWay p e below G T37 (mkF m 121 #[.val (.long q0), .second, .val (.int p1), .val (.long q2), .second, .val (.long q3), .second, .val (.long q4), .second, .val (.int p5), .val (.int (0 : Int32)), .val (.double v11_2), .second, .val (.ref b3), .val (.ref b5), .val (.ref b_20), .unset, .unset, .unset, .unset] [(.int (lcmpW q0 q0))])
    refine ogo (fun _ z_ => XS.ifNo X37.here hx rfl (hb hby at_121) rfl ((if0 _ _).trans (teq ((lw_eq _ _).mpr rfl)).2) z_) ?_
    show OWay p e below G T37 (mkF m 124 #[.val (.long q0), .second, .val (.int p1), .val (.long q2), .second, .val (.long q3), .second, .val (.long q4), .second, .val (.int p5), .val (.int (0 : Int32)), .val (.double v11_2), .second, .val (.ref b3), .val (.ref b5), .val (.ref b_20), .unset, .unset, .unset, .unset] [])
    refine ogo (fun _ z_ => XS.aload X37.here hx rfl (hb hby at_124) rfl rfl z_) ?_
    show OWay p e below G T37 (mkF m 126 #[.val (.long q0), .second, .val (.int p1), .val (.long q2), .second, .val (.long q3), .second, .val (.long q4), .second, .val (.int p5), .val (.int (0 : Int32)), .val (.double v11_2), .second, .val (.ref b3), .val (.ref b5), .val (.ref b_20), .unset, .unset, .unset, .unset] [(.ref b_20)])
    obtain ⟨_, T38, L38, X38, hQ38, st38⟩ := wVirtual X37 hx hZ (y := (⟨"com/example/sito/sito/Slice", "getBound", "()D"⟩ : MethodName)) (z := (⟨"com/example/sito/sito/Slice", "getBound", "()D"⟩ : MethodName)) hown (hw _ (List.mem_of_getElem? (i := 46) rfl)) (hw _ (List.mem_of_getElem? (i := 47) rfl)) (notFace_of_selects (args := #[]) (mvT hZ (hw _ (List.mem_of_getElem? (i := 49) rfl)))) (hw _ (List.mem_of_getElem? (i := 49) rfl)) (hw _ (List.mem_of_getElem? (i := 48) rfl)) (hw _ (List.mem_of_getElem? (i := 5) rfl)) (hw _ (List.mem_of_getElem? (i := 50) rfl)) (by decide) (get5_c l Z az hw [] b_20 v11_2 T18.heap n0 (Nat.le_trans (Nat.le_trans (Nat.le_trans (Nat.le_trans Z0 E3.1) E5.1) Kq8.1) Kq18.1) P30) 0 (by decide) (by decide) P28 (g := (mkF m 126 #[.val (.long q0), .second, .val (.int p1), .val (.long q2), .second, .val (.long q3), .second, .val (.long q4), .second, .val (.int p5), .val (.int (0 : Int32)), .val (.double v11_2), .second, .val (.ref b3), .val (.ref b5), .val (.ref b_20), .unset, .unset, .unset, .unset] [(.ref b_20)])) rfl (by rw [hml]; rfl) (argsL := []) (rest := []) (lenOf pd___D rfl) rfl (by show 2 * 0 + _ ≤ _; exact Nat.le_of_eq rfl) (hb hby at_126) rfl eq37 (by decide) (by decide)
    obtain ⟨rfl, N38q, eq38⟩ := hQ38
    have N38 := Fr.app N37 N38q
    refine ogoS st38 ?_
    show OWay p e below G T38 (mkF m 129 #[.val (.long q0), .second, .val (.int p1), .val (.long q2), .second, .val (.long q3), .second, .val (.long q4), .second, .val (.int p5), .val (.int (0 : Int32)), .val (.double v11_2), .second, .val (.ref b3), .val (.ref b5), .val (.ref b_20), .unset, .unset, .unset, .unset] [(.double v11_2)])
    refine ogo (fun _ z_ => XS.dload X38.here hx rfl (hb hby at_129) rfl z_) ?_
    show OWay p e below G T38 (mkF m 131 #[.val (.long q0), .second, .val (.int p1), .val (.long q2), .second, .val (.long q3), .second, .val (.long q4), .second, .val (.int p5), .val (.int (0 : Int32)), .val (.double v11_2), .second, .val (.ref b3), .val (.ref b5), .val (.ref b_20), .unset, .unset, .unset, .unset] [(.double v11_2), (.double v11_2)])
    refine ogo (fun _ z_ => XS.dcmpS X38.here hx rfl (hb hby at_131) rfl rfl z_) ?_
    show OWay p e below G T38 (mkF m 132 #[.val (.long q0), .second, .val (.int p1), .val (.long q2), .second, .val (.long q3), .second, .val (.long q4), .second, .val (.int p5), .val (.int (0 : Int32)), .val (.double v11_2), .second, .val (.ref b3), .val (.ref b5), .val (.ref b_20), .unset, .unset, .unset, .unset] [(.int (cmpValue (FP.dcmp v11_2 v11_2) .l))])
    refine ogo (fun _ z_ => XS.ifNo X38.here hx rfl (hb hby at_132) rfl ((if0 _ _).trans (teq (dcmpV_self (by rw [hv11_2]; exact own_nn _) .l)).2) z_) ?_
    show OWay p e below G T38 (mkF m 135 #[.val (.long q0), .second, .val (.int p1), .val (.long q2), .second, .val (.long q3), .second, .val (.long q4), .second, .val (.int p5), .val (.int (0 : Int32)), .val (.double v11_2), .second, .val (.ref b3), .val (.ref b5), .val (.ref b_20), .unset, .unset, .unset, .unset] [])
    refine ogo (fun _ z_ => XS.aload X38.here hx rfl (hb hby at_135) rfl rfl z_) ?_
    show OWay p e below G T38 (mkF m 137 #[.val (.long q0), .second, .val (.int p1), .val (.long q2), .second, .val (.long q3), .second, .val (.long q4), .second, .val (.int p5), .val (.int (0 : Int32)), .val (.double v11_2), .second, .val (.ref b3), .val (.ref b5), .val (.ref b_20), .unset, .unset, .unset, .unset] [(.ref b_20)])
    obtain ⟨_, T39, L39, X39, hQ39, st39⟩ := wVirtual X38 hx hZ (y := (⟨"com/example/sito/sito/Slice", "getHashCount", "()I"⟩ : MethodName)) (z := (⟨"com/example/sito/sito/Slice", "getHashCount", "()I"⟩ : MethodName)) hown (hw _ (List.mem_of_getElem? (i := 51) rfl)) (hw _ (List.mem_of_getElem? (i := 52) rfl)) (notFace_of_selects (args := #[]) (mvT hZ (hw _ (List.mem_of_getElem? (i := 54) rfl)))) (hw _ (List.mem_of_getElem? (i := 54) rfl)) (hw _ (List.mem_of_getElem? (i := 53) rfl)) (hw _ (List.mem_of_getElem? (i := 5) rfl)) (hw _ (List.mem_of_getElem? (i := 55) rfl)) (by decide) (get6_c l Z az hw [] b_20 p1 T18.heap n0 (Nat.le_trans (Nat.le_trans (Nat.le_trans (Nat.le_trans Z0 E3.1) E5.1) Kq8.1) Kq18.1) P31) 0 (by decide) (by decide) P28 (g := (mkF m 137 #[.val (.long q0), .second, .val (.int p1), .val (.long q2), .second, .val (.long q3), .second, .val (.long q4), .second, .val (.int p5), .val (.int (0 : Int32)), .val (.double v11_2), .second, .val (.ref b3), .val (.ref b5), .val (.ref b_20), .unset, .unset, .unset, .unset] [(.ref b_20)])) rfl (by rw [hml]; rfl) (argsL := []) (rest := []) (lenOf pd___I rfl) rfl (by show 2 * 0 + _ ≤ _; exact Nat.le_of_eq rfl) (hb hby at_137) rfl eq38 (by decide) (by decide)
    obtain ⟨rfl, N39q, eq39⟩ := hQ39
    have N39 := Fr.app N38 N39q
    refine ogoS st39 ?_
    show OWay p e below G T39 (mkF m 140 #[.val (.long q0), .second, .val (.int p1), .val (.long q2), .second, .val (.long q3), .second, .val (.long q4), .second, .val (.int p5), .val (.int (0 : Int32)), .val (.double v11_2), .second, .val (.ref b3), .val (.ref b5), .val (.ref b_20), .unset, .unset, .unset, .unset] [(.int p1)])
    refine ogo (fun _ z_ => XS.iloadN X39.here hx rfl (hb hby at_140) rfl z_) ?_
    show OWay p e below G T39 (mkF m 141 #[.val (.long q0), .second, .val (.int p1), .val (.long q2), .second, .val (.long q3), .second, .val (.long q4), .second, .val (.int p5), .val (.int (0 : Int32)), .val (.double v11_2), .second, .val (.ref b3), .val (.ref b5), .val (.ref b_20), .unset, .unset, .unset, .unset] [(.int p1), (.int p1)])
    refine ogo (fun _ z_ => XS.icmpNo X39.here hx rfl (hb hby at_141) rfl (teq rfl).2 z_) ?_
    show OWay p e below G T39 (mkF m 144 #[.val (.long q0), .second, .val (.int p1), .val (.long q2), .second, .val (.long q3), .second, .val (.long q4), .second, .val (.int p5), .val (.int (0 : Int32)), .val (.double v11_2), .second, .val (.ref b3), .val (.ref b5), .val (.ref b_20), .unset, .unset, .unset, .unset] [])
    refine ogo (fun _ z_ => XS.aload X39.here hx rfl (hb hby at_144) rfl rfl z_) ?_
    show OWay p e below G T39 (mkF m 146 #[.val (.long q0), .second, .val (.int p1), .val (.long q2), .second, .val (.long q3), .second, .val (.long q4), .second, .val (.int p5), .val (.int (0 : Int32)), .val (.double v11_2), .second, .val (.ref b3), .val (.ref b5), .val (.ref b_20), .unset, .unset, .unset, .unset] [(.ref b_20)])
    obtain ⟨_, T40, L40, X40, hQ40, st40⟩ := wVirtual X39 hx hZ (y := (⟨"com/example/sito/sito/Slice", "getBitCount", "()J"⟩ : MethodName)) (z := (⟨"com/example/sito/sito/Slice", "getBitCount", "()J"⟩ : MethodName)) hown (hw _ (List.mem_of_getElem? (i := 56) rfl)) (hw _ (List.mem_of_getElem? (i := 57) rfl)) (notFace_of_selects (args := #[]) (mvT hZ (hw _ (List.mem_of_getElem? (i := 59) rfl)))) (hw _ (List.mem_of_getElem? (i := 59) rfl)) (hw _ (List.mem_of_getElem? (i := 58) rfl)) (hw _ (List.mem_of_getElem? (i := 5) rfl)) (hw _ (List.mem_of_getElem? (i := 60) rfl)) (by decide) (get7_c l Z az hw [] b_20 (0 : Int64) T18.heap n0 (Nat.le_trans (Nat.le_trans (Nat.le_trans (Nat.le_trans Z0 E3.1) E5.1) Kq8.1) Kq18.1) P32) 0 (by decide) (by decide) P28 (g := (mkF m 146 #[.val (.long q0), .second, .val (.int p1), .val (.long q2), .second, .val (.long q3), .second, .val (.long q4), .second, .val (.int p5), .val (.int (0 : Int32)), .val (.double v11_2), .second, .val (.ref b3), .val (.ref b5), .val (.ref b_20), .unset, .unset, .unset, .unset] [(.ref b_20)])) rfl (by rw [hml]; rfl) (argsL := []) (rest := []) (lenOf pd___J rfl) rfl (by show 2 * 0 + _ ≤ _; exact Nat.le_of_eq rfl) (hb hby at_146) rfl eq39 (by decide) (by decide)
    obtain ⟨rfl, N40q, eq40⟩ := hQ40
    have N40 := Fr.app N39 N40q
    refine ogoS st40 ?_
    show OWay p e below G T40 (mkF m 149 #[.val (.long q0), .second, .val (.int p1), .val (.long q2), .second, .val (.long q3), .second, .val (.long q4), .second, .val (.int p5), .val (.int (0 : Int32)), .val (.double v11_2), .second, .val (.ref b3), .val (.ref b5), .val (.ref b_20), .unset, .unset, .unset, .unset] [(.long (0 : Int64))])
    refine ogo (fun _ z_ => X40.ldc2Long hx hown (mvT hZ (hw _ (List.mem_of_getElem? (i := 61) rfl))) (g := (mkF m 149 #[.val (.long q0), .second, .val (.int p1), .val (.long q2), .second, .val (.long q3), .second, .val (.long q4), .second, .val (.int p5), .val (.int (0 : Int32)), .val (.double v11_2), .second, .val (.ref b3), .val (.ref b5), .val (.ref b_20), .unset, .unset, .unset, .unset] [(.long (0 : Int64))])) rfl (hb hby at_149) _ z_) ?_
    show OWay p e below G T40 (mkF m 152 #[.val (.long q0), .second, .val (.int p1), .val (.long q2), .second, .val (.long q3), .second, .val (.long q4), .second, .val (.int p5), .val (.int (0 : Int32)), .val (.double v11_2), .second, .val (.ref b3), .val (.ref b5), .val (.ref b_20), .unset, .unset, .unset, .unset] [(.long (64 : Int64)), (.long (0 : Int64))])
    refine ogo (fun _ z_ => XS.iload X40.here hx rfl (hb hby at_152) rfl z_) ?_
    show OWay p e below G T40 (mkF m 154 #[.val (.long q0), .second, .val (.int p1), .val (.long q2), .second, .val (.long q3), .second, .val (.long q4), .second, .val (.int p5), .val (.int (0 : Int32)), .val (.double v11_2), .second, .val (.ref b3), .val (.ref b5), .val (.ref b_20), .unset, .unset, .unset, .unset] [(.int (0 : Int32)), (.long (64 : Int64)), (.long (0 : Int64))])
    refine ogo (fun _ z_ => XS.i2l X40.here hx rfl (hb hby at_154) rfl z_) ?_
    show OWay p e below G T40 (mkF m 155 #[.val (.long q0), .second, .val (.int p1), .val (.long q2), .second, .val (.long q3), .second, .val (.long q4), .second, .val (.int p5), .val (.int (0 : Int32)), .val (.double v11_2), .second, .val (.ref b3), .val (.ref b5), .val (.ref b_20), .unset, .unset, .unset, .unset] [(.long ((0 : Int32).toInt64)), (.long (64 : Int64)), (.long (0 : Int64))])
    refine ogoE (g' := (mkF m 155 #[.val (.long q0), .second, .val (.int p1), .val (.long q2), .second, .val (.long q3), .second, .val (.long q4), .second, .val (.int p5), .val (.int (0 : Int32)), .val (.double v11_2), .second, .val (.ref b3), .val (.ref b5), .val (.ref b_20), .unset, .unset, .unset, .unset] [(.long (0 : Int64)), (.long (64 : Int64)), (.long (0 : Int64))])) (by rw [show ((0 : Int32).toInt64) = (0 : Int64) from by decide]) ?_
    refine ogo (fun _ z_ => XS.lmul X40.here hx rfl (hb hby at_155) rfl z_) ?_
    show OWay p e below G T40 (mkF m 156 #[.val (.long q0), .second, .val (.int p1), .val (.long q2), .second, .val (.long q3), .second, .val (.long q4), .second, .val (.int p5), .val (.int (0 : Int32)), .val (.double v11_2), .second, .val (.ref b3), .val (.ref b5), .val (.ref b_20), .unset, .unset, .unset, .unset] [(.long ((64 : Int64) * (0 : Int64))), (.long (0 : Int64))])
    refine ogoE (g' := (mkF m 156 #[.val (.long q0), .second, .val (.int p1), .val (.long q2), .second, .val (.long q3), .second, .val (.long q4), .second, .val (.int p5), .val (.int (0 : Int32)), .val (.double v11_2), .second, .val (.ref b3), .val (.ref b5), .val (.ref b_20), .unset, .unset, .unset, .unset] [(.long (0 : Int64)), (.long (0 : Int64))])) (by rw [show ((64 : Int64) * (0 : Int64)) = (0 : Int64) from by decide]) ?_
    refine ogo (fun _ z_ => XS.lcmp X40.here hx rfl (hb hby at_156) rfl z_) ?_
    show OWay p e below G T40 (mkF m 157 #[.val (.long q0), .second, .val (.int p1), .val (.long q2), .second, .val (.long q3), .second, .val (.long q4), .second, .val (.int p5), .val (.int (0 : Int32)), .val (.double v11_2), .second, .val (.ref b3), .val (.ref b5), .val (.ref b_20), .unset, .unset, .unset, .unset] [(.int (lcmpW (0 : Int64) (0 : Int64)))])
    refine ogo (fun _ z_ => XS.ifNo X40.here hx rfl (hb hby at_157) rfl ((if0 _ _).trans (teq ((lw_eq _ _).mpr rfl)).2) z_) ?_
    show OWay p e below G T40 (mkF m 160 #[.val (.long q0), .second, .val (.int p1), .val (.long q2), .second, .val (.long q3), .second, .val (.long q4), .second, .val (.int p5), .val (.int (0 : Int32)), .val (.double v11_2), .second, .val (.ref b3), .val (.ref b5), .val (.ref b_20), .unset, .unset, .unset, .unset] [])
    refine ogo (fun _ z_ => XS.aload X40.here hx rfl (hb hby at_160) rfl rfl z_) ?_
    show OWay p e below G T40 (mkF m 162 #[.val (.long q0), .second, .val (.int p1), .val (.long q2), .second, .val (.long q3), .second, .val (.long q4), .second, .val (.int p5), .val (.int (0 : Int32)), .val (.double v11_2), .second, .val (.ref b3), .val (.ref b5), .val (.ref b_20), .unset, .unset, .unset, .unset] [(.ref b_20)])
    obtain ⟨_, T41, L41, X41, hQ41, st41⟩ := wVirtual X40 hx hZ (y := (⟨"com/example/sito/sito/Slice", "getItems", "()J"⟩ : MethodName)) (z := (⟨"com/example/sito/sito/Slice", "getItems", "()J"⟩ : MethodName)) hown (hw _ (List.mem_of_getElem? (i := 62) rfl)) (hw _ (List.mem_of_getElem? (i := 63) rfl)) (notFace_of_selects (args := #[]) (mvT hZ (hw _ (List.mem_of_getElem? (i := 65) rfl)))) (hw _ (List.mem_of_getElem? (i := 65) rfl)) (hw _ (List.mem_of_getElem? (i := 64) rfl)) (hw _ (List.mem_of_getElem? (i := 5) rfl)) (hw _ (List.mem_of_getElem? (i := 66) rfl)) (by decide) (get8_c l Z az hw [] b_20 q4 T18.heap n0 (Nat.le_trans (Nat.le_trans (Nat.le_trans (Nat.le_trans Z0 E3.1) E5.1) Kq8.1) Kq18.1) P34) 0 (by decide) (by decide) P28 (g := (mkF m 162 #[.val (.long q0), .second, .val (.int p1), .val (.long q2), .second, .val (.long q3), .second, .val (.long q4), .second, .val (.int p5), .val (.int (0 : Int32)), .val (.double v11_2), .second, .val (.ref b3), .val (.ref b5), .val (.ref b_20), .unset, .unset, .unset, .unset] [(.ref b_20)])) rfl (by rw [hml]; rfl) (argsL := []) (rest := []) (lenOf pd___J rfl) rfl (by show 2 * 0 + _ ≤ _; exact Nat.le_of_eq rfl) (hb hby at_162) rfl eq40 (by decide) (by decide)
    obtain ⟨rfl, N41q, eq41⟩ := hQ41
    have N41 := Fr.app N40 N41q
    refine ogoS st41 ?_
    show OWay p e below G T41 (mkF m 165 #[.val (.long q0), .second, .val (.int p1), .val (.long q2), .second, .val (.long q3), .second, .val (.long q4), .second, .val (.int p5), .val (.int (0 : Int32)), .val (.double v11_2), .second, .val (.ref b3), .val (.ref b5), .val (.ref b_20), .unset, .unset, .unset, .unset] [(.long q4)])
    refine ogo (fun _ z_ => XS.lload X41.here hx rfl (hb hby at_165) rfl z_) ?_
    show OWay p e below G T41 (mkF m 167 #[.val (.long q0), .second, .val (.int p1), .val (.long q2), .second, .val (.long q3), .second, .val (.long q4), .second, .val (.int p5), .val (.int (0 : Int32)), .val (.double v11_2), .second, .val (.ref b3), .val (.ref b5), .val (.ref b_20), .unset, .unset, .unset, .unset] [(.long q4), (.long q4)])
    refine ogo (fun _ z_ => XS.lcmp X41.here hx rfl (hb hby at_167) rfl z_) ?_
    show OWay p e below G T41 (mkF m 168 #[.val (.long q0), .second, .val (.int p1), .val (.long q2), .second, .val (.long q3), .second, .val (.long q4), .second, .val (.int p5), .val (.int (0 : Int32)), .val (.double v11_2), .second, .val (.ref b3), .val (.ref b5), .val (.ref b_20), .unset, .unset, .unset, .unset] [(.int (lcmpW q4 q4))])
    refine ogo (fun _ z_ => XS.ifNo X41.here hx rfl (hb hby at_168) rfl ((if0 _ _).trans (teq ((lw_eq _ _).mpr rfl)).2) z_) ?_
    show OWay p e below G T41 (mkF m 171 #[.val (.long q0), .second, .val (.int p1), .val (.long q2), .second, .val (.long q3), .second, .val (.long q4), .second, .val (.int p5), .val (.int (0 : Int32)), .val (.double v11_2), .second, .val (.ref b3), .val (.ref b5), .val (.ref b_20), .unset, .unset, .unset, .unset] [])
    refine ogo (fun _ z_ => XS.iconst X41.here hx rfl (hb hby at_171) z_) ?_
    show OWay p e below G T41 (mkF m 172 #[.val (.long q0), .second, .val (.int p1), .val (.long q2), .second, .val (.long q3), .second, .val (.long q4), .second, .val (.int p5), .val (.int (0 : Int32)), .val (.double v11_2), .second, .val (.ref b3), .val (.ref b5), .val (.ref b_20), .unset, .unset, .unset, .unset] [(.int (1 : Int32))])
    refine ogo (fun _ z_ => XS.goto X41.here hx rfl (pc0 := 172) (pc' := 176) rfl (hb hby at_172) (by decide) (by decide) z_) ?_
    show OWay p e below G T41 (mkF m 176 #[.val (.long q0), .second, .val (.int p1), .val (.long q2), .second, .val (.long q3), .second, .val (.long q4), .second, .val (.int p5), .val (.int (0 : Int32)), .val (.double v11_2), .second, .val (.ref b3), .val (.ref b5), .val (.ref b_20), .unset, .unset, .unset, .unset] [(.int (1 : Int32))])
    refine ogo (fun _ z_ => XS.istore X41.here hx rfl (hb hby at_176) rfl (l' := #[.val (.long q0), .second, .val (.int p1), .val (.long q2), .second, .val (.long q3), .second, .val (.long q4), .second, .val (.int p5), .val (.int (0 : Int32)), .val (.double v11_2), .second, .val (.ref b3), .val (.ref b5), .val (.ref b_20), .val (.int (1 : Int32)), .unset, .unset, .unset]) rfl z_) ?_
    show OWay p e below G T41 (mkF m 178 #[.val (.long q0), .second, .val (.int p1), .val (.long q2), .second, .val (.long q3), .second, .val (.long q4), .second, .val (.int p5), .val (.int (0 : Int32)), .val (.double v11_2), .second, .val (.ref b3), .val (.ref b5), .val (.ref b_20), .val (.int (1 : Int32)), .unset, .unset, .unset] [])
    refine ogo (fun _ z_ => XS.aload X41.here hx rfl (hb hby at_178) rfl rfl z_) ?_
    show OWay p e below G T41 (mkF m 180 #[.val (.long q0), .second, .val (.int p1), .val (.long q2), .second, .val (.long q3), .second, .val (.long q4), .second, .val (.int p5), .val (.int (0 : Int32)), .val (.double v11_2), .second, .val (.ref b3), .val (.ref b5), .val (.ref b_20), .val (.int (1 : Int32)), .unset, .unset, .unset] [(.ref b_20)])
    obtain ⟨_, T42, L42, X42, hQ42, st42⟩ := wVirtual X41 hx hZ (y := (⟨"com/example/sito/sito/Slice", "getWords", "()[J"⟩ : MethodName)) (z := (⟨"com/example/sito/sito/Slice", "getWords", "()[J"⟩ : MethodName)) hown (hw _ (List.mem_of_getElem? (i := 67) rfl)) (hw _ (List.mem_of_getElem? (i := 68) rfl)) (notFace_of_selects (args := #[]) (mvT hZ (hw _ (List.mem_of_getElem? (i := 70) rfl)))) (hw _ (List.mem_of_getElem? (i := 70) rfl)) (hw _ (List.mem_of_getElem? (i := 69) rfl)) (hw _ (List.mem_of_getElem? (i := 5) rfl)) (hw _ (List.mem_of_getElem? (i := 71) rfl)) (by decide) (get9_c l Z az hw [] b_20 c_21 T18.heap n0 (Nat.le_trans (Nat.le_trans (Nat.le_trans (Nat.le_trans Z0 E3.1) E5.1) Kq8.1) Kq18.1) P33) 0 (by decide) (by decide) P28 (g := (mkF m 180 #[.val (.long q0), .second, .val (.int p1), .val (.long q2), .second, .val (.long q3), .second, .val (.long q4), .second, .val (.int p5), .val (.int (0 : Int32)), .val (.double v11_2), .second, .val (.ref b3), .val (.ref b5), .val (.ref b_20), .val (.int (1 : Int32)), .unset, .unset, .unset] [(.ref b_20)])) rfl (by rw [hml]; rfl) (argsL := []) (rest := []) (lenOf pd____J rfl) rfl (by show 2 * 0 + _ ≤ _; exact Nat.le_of_eq rfl) (hb hby at_180) rfl eq41 (by decide) (by decide)
    obtain ⟨rfl, N42q, eq42⟩ := hQ42
    have N42 := Fr.app N41 N42q
    refine ogoS st42 ?_
    show OWay p e below G T42 (mkF m 183 #[.val (.long q0), .second, .val (.int p1), .val (.long q2), .second, .val (.long q3), .second, .val (.long q4), .second, .val (.int p5), .val (.int (0 : Int32)), .val (.double v11_2), .second, .val (.ref b3), .val (.ref b5), .val (.ref b_20), .val (.int (1 : Int32)), .unset, .unset, .unset] [(.ref c_21)])
    refine ogo (fun _ z_ => XS.astore X42.here hx rfl (hb hby at_183) rfl rfl (l' := #[.val (.long q0), .second, .val (.int p1), .val (.long q2), .second, .val (.long q3), .second, .val (.long q4), .second, .val (.int p5), .val (.int (0 : Int32)), .val (.double v11_2), .second, .val (.ref b3), .val (.ref b5), .val (.ref b_20), .val (.int (1 : Int32)), .val (.ref c_21), .unset, .unset]) rfl z_) ?_
    show OWay p e below G T42 (mkF m 185 #[.val (.long q0), .second, .val (.int p1), .val (.long q2), .second, .val (.long q3), .second, .val (.long q4), .second, .val (.int p5), .val (.int (0 : Int32)), .val (.double v11_2), .second, .val (.ref b3), .val (.ref b5), .val (.ref b_20), .val (.int (1 : Int32)), .val (.ref c_21), .unset, .unset] [])
    refine ogo (fun _ z_ => XS.iload X42.here hx rfl (hb hby at_185) rfl z_) ?_
    show OWay p e below G T42 (mkF m 187 #[.val (.long q0), .second, .val (.int p1), .val (.long q2), .second, .val (.long q3), .second, .val (.long q4), .second, .val (.int p5), .val (.int (0 : Int32)), .val (.double v11_2), .second, .val (.ref b3), .val (.ref b5), .val (.ref b_20), .val (.int (1 : Int32)), .val (.ref c_21), .unset, .unset] [(.int (1 : Int32))])
    refine ogo (fun _ z_ => XS.ifNo X42.here hx rfl (hb hby at_187) rfl ((if0 _ _).trans (feq (by decide)).1) z_) ?_
    show OWay p e below G T42 (mkF m 190 #[.val (.long q0), .second, .val (.int p1), .val (.long q2), .second, .val (.long q3), .second, .val (.long q4), .second, .val (.int p5), .val (.int (0 : Int32)), .val (.double v11_2), .second, .val (.ref b3), .val (.ref b5), .val (.ref b_20), .val (.int (1 : Int32)), .val (.ref c_21), .unset, .unset] [])
    refine ogo (fun _ z_ => XS.aload X42.here hx rfl (hb hby at_190) rfl rfl z_) ?_
    show OWay p e below G T42 (mkF m 192 #[.val (.long q0), .second, .val (.int p1), .val (.long q2), .second, .val (.long q3), .second, .val (.long q4), .second, .val (.int p5), .val (.int (0 : Int32)), .val (.double v11_2), .second, .val (.ref b3), .val (.ref b5), .val (.ref b_20), .val (.int (1 : Int32)), .val (.ref c_21), .unset, .unset] [(.ref c_21)])
    refine ogo (fun _ z_ => XS.ifnullNo X42.here hx rfl (hb hby at_192) rfl z_) ?_
    show OWay p e below G T42 (mkF m 195 #[.val (.long q0), .second, .val (.int p1), .val (.long q2), .second, .val (.long q3), .second, .val (.long q4), .second, .val (.int p5), .val (.int (0 : Int32)), .val (.double v11_2), .second, .val (.ref b3), .val (.ref b5), .val (.ref b_20), .val (.int (1 : Int32)), .val (.ref c_21), .unset, .unset] [])
    refine ogo (fun _ z_ => XS.aload X42.here hx rfl (hb hby at_195) rfl rfl z_) ?_
    show OWay p e below G T42 (mkF m 197 #[.val (.long q0), .second, .val (.int p1), .val (.long q2), .second, .val (.long q3), .second, .val (.long q4), .second, .val (.int p5), .val (.int (0 : Int32)), .val (.double v11_2), .second, .val (.ref b3), .val (.ref b5), .val (.ref b_20), .val (.int (1 : Int32)), .val (.ref c_21), .unset, .unset] [(.ref c_21)])
    refine ogo (fun _ z_ => XS.aload X42.here hx rfl (hb hby at_197) rfl rfl z_) ?_
    show OWay p e below G T42 (mkF m 199 #[.val (.long q0), .second, .val (.int p1), .val (.long q2), .second, .val (.long q3), .second, .val (.long q4), .second, .val (.int p5), .val (.int (0 : Int32)), .val (.double v11_2), .second, .val (.ref b3), .val (.ref b5), .val (.ref b_20), .val (.int (1 : Int32)), .val (.ref c_21), .unset, .unset] [(.ref b3), (.ref c_21)])
    refine ogo (fun _ z_ => Jvm.RoadKit.acmp (g := (mkF m 199 #[.val (.long q0), .second, .val (.int p1), .val (.long q2), .second, .val (.long q3), .second, .val (.long q4), .second, .val (.int p5), .val (.int (0 : Int32)), .val (.double v11_2), .second, .val (.ref b3), .val (.ref b5), .val (.ref b_20), .val (.int (1 : Int32)), .val (.ref c_21), .unset, .unset] [(.ref b3), (.ref c_21)])) X42 hx rfl rfl rfl (pc0 := 199) (pc' := 202) (same := false) rfl (hb hby at_199) rfl (decide_eq_false fun q => (Ne.symm (Nat.ne_of_lt (Nat.lt_of_lt_of_le F16.lt P26))) (Value.ref.inj q)) (by decide) (by decide) z_) ?_
    show OWay p e below G T42 (mkF m 202 #[.val (.long q0), .second, .val (.int p1), .val (.long q2), .second, .val (.long q3), .second, .val (.long q4), .second, .val (.int p5), .val (.int (0 : Int32)), .val (.double v11_2), .second, .val (.ref b3), .val (.ref b5), .val (.ref b_20), .val (.int (1 : Int32)), .val (.ref c_21), .unset, .unset] [])
    refine ogo (fun _ z_ => XS.aload X42.here hx rfl (hb hby at_202) rfl rfl z_) ?_
    show OWay p e below G T42 (mkF m 204 #[.val (.long q0), .second, .val (.int p1), .val (.long q2), .second, .val (.long q3), .second, .val (.long q4), .second, .val (.int p5), .val (.int (0 : Int32)), .val (.double v11_2), .second, .val (.ref b3), .val (.ref b5), .val (.ref b_20), .val (.int (1 : Int32)), .val (.ref c_21), .unset, .unset] [(.ref c_21)])
    obtain ⟨cl_o43, Ar_o43, -, S_o43, N_o43, -, -⟩ := id P35
    refine ogo (fun _ z_ => X42.arraylength hx (by rw [eq42]; exact Ar_o43.1) (State.isArrayOf_alike hZ.alike Ar_o43.2.1) (g := (mkF m 204 #[.val (.long q0), .second, .val (.int p1), .val (.long q2), .second, .val (.long q3), .second, .val (.long q4), .second, .val (.int p5), .val (.int (0 : Int32)), .val (.double v11_2), .second, .val (.ref b3), .val (.ref b5), .val (.ref b_20), .val (.int (1 : Int32)), .val (.ref c_21), .unset, .unset] [(.ref c_21)])) rfl rfl (hb hby at_204) _ z_) ?_
    rw [len_of S_o43 N_o43]
    show OWay p e below G T42 (mkF m 205 #[.val (.long q0), .second, .val (.int p1), .val (.long q2), .second, .val (.long q3), .second, .val (.long q4), .second, .val (.int p5), .val (.int (0 : Int32)), .val (.double v11_2), .second, .val (.ref b3), .val (.ref b5), .val (.ref b_20), .val (.int (1 : Int32)), .val (.ref c_21), .unset, .unset] [(.int (0 : Int32))])
    refine ogo (fun _ z_ => XS.iload X42.here hx rfl (hb hby at_205) rfl z_) ?_
    show OWay p e below G T42 (mkF m 207 #[.val (.long q0), .second, .val (.int p1), .val (.long q2), .second, .val (.long q3), .second, .val (.long q4), .second, .val (.int p5), .val (.int (0 : Int32)), .val (.double v11_2), .second, .val (.ref b3), .val (.ref b5), .val (.ref b_20), .val (.int (1 : Int32)), .val (.ref c_21), .unset, .unset] [(.int (0 : Int32)), (.int (0 : Int32))])
    refine ogo (fun _ z_ => XS.icmpNo X42.here hx rfl (hb hby at_207) rfl (teq rfl).2 z_) ?_
    show OWay p e below G T42 (mkF m 210 #[.val (.long q0), .second, .val (.int p1), .val (.long q2), .second, .val (.long q3), .second, .val (.long q4), .second, .val (.int p5), .val (.int (0 : Int32)), .val (.double v11_2), .second, .val (.ref b3), .val (.ref b5), .val (.ref b_20), .val (.int (1 : Int32)), .val (.ref c_21), .unset, .unset] [])
    refine ogo (fun _ z_ => XS.iconst X42.here hx rfl (hb hby at_210) z_) ?_
    show OWay p e below G T42 (mkF m 211 #[.val (.long q0), .second, .val (.int p1), .val (.long q2), .second, .val (.long q3), .second, .val (.long q4), .second, .val (.int p5), .val (.int (0 : Int32)), .val (.double v11_2), .second, .val (.ref b3), .val (.ref b5), .val (.ref b_20), .val (.int (1 : Int32)), .val (.ref c_21), .unset, .unset] [(.int (1 : Int32))])
    refine ogo (fun _ z_ => XS.goto X42.here hx rfl (pc0 := 211) (pc' := 215) rfl (hb hby at_211) (by decide) (by decide) z_) ?_
    show OWay p e below G T42 (mkF m 215 #[.val (.long q0), .second, .val (.int p1), .val (.long q2), .second, .val (.long q3), .second, .val (.long q4), .second, .val (.int p5), .val (.int (0 : Int32)), .val (.double v11_2), .second, .val (.ref b3), .val (.ref b5), .val (.ref b_20), .val (.int (1 : Int32)), .val (.ref c_21), .unset, .unset] [(.int (1 : Int32))])
    refine ogo (fun _ z_ => XS.istore X42.here hx rfl (hb hby at_215) rfl (l' := #[.val (.long q0), .second, .val (.int p1), .val (.long q2), .second, .val (.long q3), .second, .val (.long q4), .second, .val (.int p5), .val (.int (0 : Int32)), .val (.double v11_2), .second, .val (.ref b3), .val (.ref b5), .val (.ref b_20), .val (.int (1 : Int32)), .val (.ref c_21), .unset, .unset]) rfl z_) ?_
    show OWay p e below G T42 (mkF m 217 #[.val (.long q0), .second, .val (.int p1), .val (.long q2), .second, .val (.long q3), .second, .val (.long q4), .second, .val (.int p5), .val (.int (0 : Int32)), .val (.double v11_2), .second, .val (.ref b3), .val (.ref b5), .val (.ref b_20), .val (.int (1 : Int32)), .val (.ref c_21), .unset, .unset] [])
    refine ogo (fun _ z_ => XS.iload X42.here hx rfl (hb hby at_217) rfl z_) ?_
    show OWay p e below G T42 (mkF m 219 #[.val (.long q0), .second, .val (.int p1), .val (.long q2), .second, .val (.long q3), .second, .val (.long q4), .second, .val (.int p5), .val (.int (0 : Int32)), .val (.double v11_2), .second, .val (.ref b3), .val (.ref b5), .val (.ref b_20), .val (.int (1 : Int32)), .val (.ref c_21), .unset, .unset] [(.int (1 : Int32))])
    refine ogo (fun _ z_ => XS.ifNo X42.here hx rfl (hb hby at_219) rfl ((if0 _ _).trans (feq (by decide)).1) z_) ?_
    show OWay p e below G T42 (mkF m 222 #[.val (.long q0), .second, .val (.int p1), .val (.long q2), .second, .val (.long q3), .second, .val (.long q4), .second, .val (.int p5), .val (.int (0 : Int32)), .val (.double v11_2), .second, .val (.ref b3), .val (.ref b5), .val (.ref b_20), .val (.int (1 : Int32)), .val (.ref c_21), .unset, .unset] [])
    refine ogo (fun _ z_ => XS.aload X42.here hx rfl (hb hby at_222) rfl rfl z_) ?_
    show OWay p e below G T42 (mkF m 224 #[.val (.long q0), .second, .val (.int p1), .val (.long q2), .second, .val (.long q3), .second, .val (.long q4), .second, .val (.int p5), .val (.int (0 : Int32)), .val (.double v11_2), .second, .val (.ref b3), .val (.ref b5), .val (.ref b_20), .val (.int (1 : Int32)), .val (.ref c_21), .unset, .unset] [(.ref b5)])
    have F44 : Fld Z T18.heap b5 "com/example/sito/sito/Slice" "words" "[J" (.ref b3) := (P13.keep Kq18 nin0)
    have F46 : Exa Z T18.heap b5 "com/example/sito/sito/Slice" := (F19.keep Kq18)
    obtain ⟨_, T45, L45, X45, hQ45, st45⟩ := wVirtual X42 hx hZ (y := (⟨"com/example/sito/sito/Slice", "getWords", "()[J"⟩ : MethodName)) (z := (⟨"com/example/sito/sito/Slice", "getWords", "()[J"⟩ : MethodName)) hown (hw _ (List.mem_of_getElem? (i := 67) rfl)) (hw _ (List.mem_of_getElem? (i := 68) rfl)) (notFace_of_selects (args := #[]) (mvT hZ (hw _ (List.mem_of_getElem? (i := 70) rfl)))) (hw _ (List.mem_of_getElem? (i := 70) rfl)) (hw _ (List.mem_of_getElem? (i := 69) rfl)) (hw _ (List.mem_of_getElem? (i := 5) rfl)) (hw _ (List.mem_of_getElem? (i := 71) rfl)) (by decide) (get9_c l Z az hw [] b5 b3 T18.heap n0 (Nat.le_trans (Nat.le_trans (Nat.le_trans (Nat.le_trans Z0 E3.1) E5.1) Kq8.1) Kq18.1) F44) 0 (by decide) (by decide) F46 (g := (mkF m 224 #[.val (.long q0), .second, .val (.int p1), .val (.long q2), .second, .val (.long q3), .second, .val (.long q4), .second, .val (.int p5), .val (.int (0 : Int32)), .val (.double v11_2), .second, .val (.ref b3), .val (.ref b5), .val (.ref b_20), .val (.int (1 : Int32)), .val (.ref c_21), .unset, .unset] [(.ref b5)])) rfl (by rw [hml]; rfl) (argsL := []) (rest := []) (lenOf pd____J rfl) rfl (by show 2 * 0 + _ ≤ _; exact Nat.le_of_eq rfl) (hb hby at_224) rfl eq42 (by decide) (by decide)
    obtain ⟨rfl, N45q, eq45⟩ := hQ45
    have N45 := Fr.app N42 N45q
    refine ogoS st45 ?_
    show OWay p e below G T45 (mkF m 227 #[.val (.long q0), .second, .val (.int p1), .val (.long q2), .second, .val (.long q3), .second, .val (.long q4), .second, .val (.int p5), .val (.int (0 : Int32)), .val (.double v11_2), .second, .val (.ref b3), .val (.ref b5), .val (.ref b_20), .val (.int (1 : Int32)), .val (.ref c_21), .unset, .unset] [(.ref b3)])
    refine ogo (fun _ z_ => XS.aload X45.here hx rfl (hb hby at_227) rfl rfl z_) ?_
    show OWay p e below G T45 (mkF m 229 #[.val (.long q0), .second, .val (.int p1), .val (.long q2), .second, .val (.long q3), .second, .val (.long q4), .second, .val (.int p5), .val (.int (0 : Int32)), .val (.double v11_2), .second, .val (.ref b3), .val (.ref b5), .val (.ref b_20), .val (.int (1 : Int32)), .val (.ref c_21), .unset, .unset] [(.ref b3), (.ref b3)])
    refine ogo (fun _ z_ => Jvm.RoadKit.acmp (g := (mkF m 229 #[.val (.long q0), .second, .val (.int p1), .val (.long q2), .second, .val (.long q3), .second, .val (.long q4), .second, .val (.int p5), .val (.int (0 : Int32)), .val (.double v11_2), .second, .val (.ref b3), .val (.ref b5), .val (.ref b_20), .val (.int (1 : Int32)), .val (.ref c_21), .unset, .unset] [(.ref b3), (.ref b3)])) X45 hx rfl rfl rfl (pc0 := 229) (pc' := 232) (same := true) rfl (hb hby at_229) rfl (decide_eq_true rfl) (by decide) (by decide) z_) ?_
    show OWay p e below G T45 (mkF m 232 #[.val (.long q0), .second, .val (.int p1), .val (.long q2), .second, .val (.long q3), .second, .val (.long q4), .second, .val (.int p5), .val (.int (0 : Int32)), .val (.double v11_2), .second, .val (.ref b3), .val (.ref b5), .val (.ref b_20), .val (.int (1 : Int32)), .val (.ref c_21), .unset, .unset] [])
    refine ogo (fun _ z_ => XS.aload X45.here hx rfl (hb hby at_232) rfl rfl z_) ?_
    show OWay p e below G T45 (mkF m 234 #[.val (.long q0), .second, .val (.int p1), .val (.long q2), .second, .val (.long q3), .second, .val (.long q4), .second, .val (.int p5), .val (.int (0 : Int32)), .val (.double v11_2), .second, .val (.ref b3), .val (.ref b5), .val (.ref b_20), .val (.int (1 : Int32)), .val (.ref c_21), .unset, .unset] [(.ref b5)])
    have F47 : Fld Z T18.heap b5 "com/example/sito/sito/Slice" "items" "J" (.long q4) := (P14.keep Kq18 nin0)
    obtain ⟨_, T48, L48, X48, hQ48, st48⟩ := wVirtual X45 hx hZ (y := (⟨"com/example/sito/sito/Slice", "getItems", "()J"⟩ : MethodName)) (z := (⟨"com/example/sito/sito/Slice", "getItems", "()J"⟩ : MethodName)) hown (hw _ (List.mem_of_getElem? (i := 62) rfl)) (hw _ (List.mem_of_getElem? (i := 63) rfl)) (notFace_of_selects (args := #[]) (mvT hZ (hw _ (List.mem_of_getElem? (i := 65) rfl)))) (hw _ (List.mem_of_getElem? (i := 65) rfl)) (hw _ (List.mem_of_getElem? (i := 64) rfl)) (hw _ (List.mem_of_getElem? (i := 5) rfl)) (hw _ (List.mem_of_getElem? (i := 66) rfl)) (by decide) (get8_c l Z az hw [] b5 q4 T18.heap n0 (Nat.le_trans (Nat.le_trans (Nat.le_trans (Nat.le_trans Z0 E3.1) E5.1) Kq8.1) Kq18.1) F47) 0 (by decide) (by decide) F46 (g := (mkF m 234 #[.val (.long q0), .second, .val (.int p1), .val (.long q2), .second, .val (.long q3), .second, .val (.long q4), .second, .val (.int p5), .val (.int (0 : Int32)), .val (.double v11_2), .second, .val (.ref b3), .val (.ref b5), .val (.ref b_20), .val (.int (1 : Int32)), .val (.ref c_21), .unset, .unset] [(.ref b5)])) rfl (by rw [hml]; rfl) (argsL := []) (rest := []) (lenOf pd___J rfl) rfl (by show 2 * 0 + _ ≤ _; exact Nat.le_of_eq rfl) (hb hby at_234) rfl eq45 (by decide) (by decide)
    obtain ⟨rfl, N48q, eq48⟩ := hQ48
    have N48 := Fr.app N45 N48q
    refine ogoS st48 ?_
    show OWay p e below G T48 (mkF m 237 #[.val (.long q0), .second, .val (.int p1), .val (.long q2), .second, .val (.long q3), .second, .val (.long q4), .second, .val (.int p5), .val (.int (0 : Int32)), .val (.double v11_2), .second, .val (.ref b3), .val (.ref b5), .val (.ref b_20), .val (.int (1 : Int32)), .val (.ref c_21), .unset, .unset] [(.long q4)])
    refine ogo (fun _ z_ => XS.lload X48.here hx rfl (hb hby at_237) rfl z_) ?_
    show OWay p e below G T48 (mkF m 239 #[.val (.long q0), .second, .val (.int p1), .val (.long q2), .second, .val (.long q3), .second, .val (.long q4), .second, .val (.int p5), .val (.int (0 : Int32)), .val (.double v11_2), .second, .val (.ref b3), .val (.ref b5), .val (.ref b_20), .val (.int (1 : Int32)), .val (.ref c_21), .unset, .unset] [(.long q4), (.long q4)])
    refine ogo (fun _ z_ => XS.lcmp X48.here hx rfl (hb hby at_239) rfl z_) ?_
    show OWay p e below G T48 (mkF m 240 #[.val (.long q0), .second, .val (.int p1), .val (.long q2), .second, .val (.long q3), .second, .val (.long q4), .second, .val (.int p5), .val (.int (0 : Int32)), .val (.double v11_2), .second, .val (.ref b3), .val (.ref b5), .val (.ref b_20), .val (.int (1 : Int32)), .val (.ref c_21), .unset, .unset] [(.int (lcmpW q4 q4))])
    refine ogo (fun _ z_ => XS.ifNo X48.here hx rfl (hb hby at_240) rfl ((if0 _ _).trans (teq ((lw_eq _ _).mpr rfl)).2) z_) ?_
    show OWay p e below G T48 (mkF m 243 #[.val (.long q0), .second, .val (.int p1), .val (.long q2), .second, .val (.long q3), .second, .val (.long q4), .second, .val (.int p5), .val (.int (0 : Int32)), .val (.double v11_2), .second, .val (.ref b3), .val (.ref b5), .val (.ref b_20), .val (.int (1 : Int32)), .val (.ref c_21), .unset, .unset] [])
    refine ogo (fun _ z_ => XS.iconst X48.here hx rfl (hb hby at_243) z_) ?_
    show OWay p e below G T48 (mkF m 244 #[.val (.long q0), .second, .val (.int p1), .val (.long q2), .second, .val (.long q3), .second, .val (.long q4), .second, .val (.int p5), .val (.int (0 : Int32)), .val (.double v11_2), .second, .val (.ref b3), .val (.ref b5), .val (.ref b_20), .val (.int (1 : Int32)), .val (.ref c_21), .unset, .unset] [(.int (1 : Int32))])
    refine ogo (fun _ z_ => XS.goto X48.here hx rfl (pc0 := 244) (pc' := 248) rfl (hb hby at_244) (by decide) (by decide) z_) ?_
    show OWay p e below G T48 (mkF m 248 #[.val (.long q0), .second, .val (.int p1), .val (.long q2), .second, .val (.long q3), .second, .val (.long q4), .second, .val (.int p5), .val (.int (0 : Int32)), .val (.double v11_2), .second, .val (.ref b3), .val (.ref b5), .val (.ref b_20), .val (.int (1 : Int32)), .val (.ref c_21), .unset, .unset] [(.int (1 : Int32))])
    refine ogo (fun _ z_ => XS.istore X48.here hx rfl (hb hby at_248) rfl (l' := #[.val (.long q0), .second, .val (.int p1), .val (.long q2), .second, .val (.long q3), .second, .val (.long q4), .second, .val (.int p5), .val (.int (0 : Int32)), .val (.double v11_2), .second, .val (.ref b3), .val (.ref b5), .val (.ref b_20), .val (.int (1 : Int32)), .val (.ref c_21), .unset, .unset]) rfl z_) ?_
    show OWay p e below G T48 (mkF m 250 #[.val (.long q0), .second, .val (.int p1), .val (.long q2), .second, .val (.long q3), .second, .val (.long q4), .second, .val (.int p5), .val (.int (0 : Int32)), .val (.double v11_2), .second, .val (.ref b3), .val (.ref b5), .val (.ref b_20), .val (.int (1 : Int32)), .val (.ref c_21), .unset, .unset] [])
    refine ogo (fun _ z_ => XS.iload X48.here hx rfl (hb hby at_250) rfl z_) ?_
    show OWay p e below G T48 (mkF m 252 #[.val (.long q0), .second, .val (.int p1), .val (.long q2), .second, .val (.long q3), .second, .val (.long q4), .second, .val (.int p5), .val (.int (0 : Int32)), .val (.double v11_2), .second, .val (.ref b3), .val (.ref b5), .val (.ref b_20), .val (.int (1 : Int32)), .val (.ref c_21), .unset, .unset] [(.int (1 : Int32))])
    refine ogo (fun _ z_ => XS.ifYes X48.here hx rfl (pc0 := 252) (pc' := 257) rfl (hb hby at_252) rfl ((if0 _ _).trans (feq (by decide)).2) (by decide) (by decide) z_) ?_
    show OWay p e below G T48 (mkF m 257 #[.val (.long q0), .second, .val (.int p1), .val (.long q2), .second, .val (.long q3), .second, .val (.long q4), .second, .val (.int p5), .val (.int (0 : Int32)), .val (.double v11_2), .second, .val (.ref b3), .val (.ref b5), .val (.ref b_20), .val (.int (1 : Int32)), .val (.ref c_21), .unset, .unset] [])
    refine ogo (fun _ z_ => XS.iload X48.here hx rfl (hb hby at_257) rfl z_) ?_
    show OWay p e below G T48 (mkF m 259 #[.val (.long q0), .second, .val (.int p1), .val (.long q2), .second, .val (.long q3), .second, .val (.long q4), .second, .val (.int p5), .val (.int (0 : Int32)), .val (.double v11_2), .second, .val (.ref b3), .val (.ref b5), .val (.ref b_20), .val (.int (1 : Int32)), .val (.ref c_21), .unset, .unset] [(.int (0 : Int32))])
    refine ogo (fun _ z_ => XS.ifYes X48.here hx rfl (pc0 := 259) (pc' := 289) rfl (hb hby at_259) rfl ((if0 _ _).trans (flt (by decide)).2.2.2) (by decide) (by decide) z_) ?_
    show OWay p e below G T48 (mkF m 289 #[.val (.long q0), .second, .val (.int p1), .val (.long q2), .second, .val (.long q3), .second, .val (.long q4), .second, .val (.int p5), .val (.int (0 : Int32)), .val (.double v11_2), .second, .val (.ref b3), .val (.ref b5), .val (.ref b_20), .val (.int (1 : Int32)), .val (.ref c_21), .unset, .unset] [])
    refine ogo (fun _ z_ => XS.iload X48.here hx rfl (hb hby at_289) rfl z_) ?_
    show OWay p e below G T48 (mkF m 291 #[.val (.long q0), .second, .val (.int p1), .val (.long q2), .second, .val (.long q3), .second, .val (.long q4), .second, .val (.int p5), .val (.int (0 : Int32)), .val (.double v11_2), .second, .val (.ref b3), .val (.ref b5), .val (.ref b_20), .val (.int (1 : Int32)), .val (.ref c_21), .unset, .unset] [(.int (0 : Int32))])
    refine ogo (fun _ z_ => XS.iconst X48.here hx rfl (hb hby at_291) z_) ?_
    show OWay p e below G T48 (mkF m 292 #[.val (.long q0), .second, .val (.int p1), .val (.long q2), .second, .val (.long q3), .second, .val (.long q4), .second, .val (.int p5), .val (.int (0 : Int32)), .val (.double v11_2), .second, .val (.ref b3), .val (.ref b5), .val (.ref b_20), .val (.int (1 : Int32)), .val (.ref c_21), .unset, .unset] [(.int (1 : Int32)), (.int (0 : Int32))])
    refine ogo (fun _ z_ => XS.icmpYes X48.here hx rfl (pc0 := 292) (pc' := 322) rfl (hb hby at_292) rfl (flt (by decide)).2.2.2 (by decide) (by decide) z_) ?_
    show OWay p e below G T48 (mkF m 322 #[.val (.long q0), .second, .val (.int p1), .val (.long q2), .second, .val (.long q3), .second, .val (.long q4), .second, .val (.int p5), .val (.int (0 : Int32)), .val (.double v11_2), .second, .val (.ref b3), .val (.ref b5), .val (.ref b_20), .val (.int (1 : Int32)), .val (.ref c_21), .unset, .unset] [])
    refine ogo (fun _ z_ => XS.iload X48.here hx rfl (hb hby at_322) rfl z_) ?_
    show OWay p e below G T48 (mkF m 324 #[.val (.long q0), .second, .val (.int p1), .val (.long q2), .second, .val (.long q3), .second, .val (.long q4), .second, .val (.int p5), .val (.int (0 : Int32)), .val (.double v11_2), .second, .val (.ref b3), .val (.ref b5), .val (.ref b_20), .val (.int (1 : Int32)), .val (.ref c_21), .unset, .unset] [(.int (0 : Int32))])
    refine ogo (fun _ z_ => XS.iconst X48.here hx rfl (hb hby at_324) z_) ?_
    show OWay p e below G T48 (mkF m 325 #[.val (.long q0), .second, .val (.int p1), .val (.long q2), .second, .val (.long q3), .second, .val (.long q4), .second, .val (.int p5), .val (.int (0 : Int32)), .val (.double v11_2), .second, .val (.ref b3), .val (.ref b5), .val (.ref b_20), .val (.int (1 : Int32)), .val (.ref c_21), .unset, .unset] [(.int (2 : Int32)), (.int (0 : Int32))])
    refine ogo (fun _ z_ => XS.icmpYes X48.here hx rfl (pc0 := 325) (pc' := 355) rfl (hb hby at_325) rfl (flt (by decide)).2.2.2 (by decide) (by decide) z_) ?_
    show OWay p e below G T48 (mkF m 355 #[.val (.long q0), .second, .val (.int p1), .val (.long q2), .second, .val (.long q3), .second, .val (.long q4), .second, .val (.int p5), .val (.int (0 : Int32)), .val (.double v11_2), .second, .val (.ref b3), .val (.ref b5), .val (.ref b_20), .val (.int (1 : Int32)), .val (.ref c_21), .unset, .unset] [])
    refine ogo (fun _ z_ => XS.iload X48.here hx rfl (hb hby at_355) rfl z_) ?_
    show OWay p e below G T48 (mkF m 357 #[.val (.long q0), .second, .val (.int p1), .val (.long q2), .second, .val (.long q3), .second, .val (.long q4), .second, .val (.int p5), .val (.int (0 : Int32)), .val (.double v11_2), .second, .val (.ref b3), .val (.ref b5), .val (.ref b_20), .val (.int (1 : Int32)), .val (.ref c_21), .unset, .unset] [(.int (1 : Int32))])
    refine ogo (fun _ z_ => XS.ifNo X48.here hx rfl (hb hby at_357) rfl ((if0 _ _).trans (feq (by decide)).1) z_) ?_
    show OWay p e below G T48 (mkF m 360 #[.val (.long q0), .second, .val (.int p1), .val (.long q2), .second, .val (.long q3), .second, .val (.long q4), .second, .val (.int p5), .val (.int (0 : Int32)), .val (.double v11_2), .second, .val (.ref b3), .val (.ref b5), .val (.ref b_20), .val (.int (1 : Int32)), .val (.ref c_21), .unset, .unset] [])
    refine ogo (fun _ z_ => XS.iload X48.here hx rfl (hb hby at_360) rfl z_) ?_
    show OWay p e below G T48 (mkF m 362 #[.val (.long q0), .second, .val (.int p1), .val (.long q2), .second, .val (.long q3), .second, .val (.long q4), .second, .val (.int p5), .val (.int (0 : Int32)), .val (.double v11_2), .second, .val (.ref b3), .val (.ref b5), .val (.ref b_20), .val (.int (1 : Int32)), .val (.ref c_21), .unset, .unset] [(.int (0 : Int32))])
    refine ogo (fun _ z_ => XS.ifYes X48.here hx rfl (pc0 := 362) (pc' := 462) rfl (hb hby at_362) rfl ((if0 _ _).trans (flt (by decide)).2.2.2) (by decide) (by decide) z_) ?_
    show OWay p e below G T48 (mkF m 462 #[.val (.long q0), .second, .val (.int p1), .val (.long q2), .second, .val (.long q3), .second, .val (.long q4), .second, .val (.int p5), .val (.int (0 : Int32)), .val (.double v11_2), .second, .val (.ref b3), .val (.ref b5), .val (.ref b_20), .val (.int (1 : Int32)), .val (.ref c_21), .unset, .unset] [])
    refine ogo (fun _ z_ => XS.iload X48.here hx rfl (hb hby at_462) rfl z_) ?_
    show OWay p e below G T48 (mkF m 464 #[.val (.long q0), .second, .val (.int p1), .val (.long q2), .second, .val (.long q3), .second, .val (.long q4), .second, .val (.int p5), .val (.int (0 : Int32)), .val (.double v11_2), .second, .val (.ref b3), .val (.ref b5), .val (.ref b_20), .val (.int (1 : Int32)), .val (.ref c_21), .unset, .unset] [(.int (1 : Int32))])
    subst hG
    refine wRetN X48 hx (t := .boolean) hret hlk (by simp) (hb hby at_464) (by decide) (by decide) eq48 ?_
    exact ⟨rfl, N48⟩
  · show OWay p e below G s₁ (mkF m 6 #[.val (.long q0), .second, .val (.int p1), .val (.long q2), .second, .val (.long q3), .second, .val (.long q4), .second, .val (.int p5), .val (.int (1 : Int32)), .unset, .unset, .unset, .unset, .unset, .unset, .unset, .unset, .unset] [])
    refine ogo (fun _ z_ => XS.iload X0.here hx rfl (hb hby at_6) rfl z_) ?_
    show OWay p e below G s₁ (mkF m 8 #[.val (.long q0), .second, .val (.int p1), .val (.long q2), .second, .val (.long q3), .second, .val (.long q4), .second, .val (.int p5), .val (.int (1 : Int32)), .unset, .unset, .unset, .unset, .unset, .unset, .unset, .unset, .unset] [(.int p5)])
    refine ogo (fun _ z_ => XS.iconst X0.here hx rfl (hb hby at_8) z_) ?_
    show OWay p e below G s₁ (mkF m 9 #[.val (.long q0), .second, .val (.int p1), .val (.long q2), .second, .val (.long q3), .second, .val (.long q4), .second, .val (.int p5), .val (.int (1 : Int32)), .unset, .unset, .unset, .unset, .unset, .unset, .unset, .unset, .unset] [(.int (2 : Int32)), (.int p5)])
    refine ogo (fun _ z_ => XS.iushr X0.here hx rfl (hb hby at_9) rfl z_) ?_
    show OWay p e below G s₁ (mkF m 10 #[.val (.long q0), .second, .val (.int p1), .val (.long q2), .second, .val (.long q3), .second, .val (.long q4), .second, .val (.int p5), .val (.int (1 : Int32)), .unset, .unset, .unset, .unset, .unset, .unset, .unset, .unset, .unset] [(.int ((p5.toUInt32 >>> ((2 : Int32) &&& 31).toUInt32).toInt32))])
    refine ogo (fun _ z_ => X0.ldcInt hx hown (mvT hZ (hw _ (List.mem_of_getElem? (i := 0) rfl))) (g := (mkF m 10 #[.val (.long q0), .second, .val (.int p1), .val (.long q2), .second, .val (.long q3), .second, .val (.long q4), .second, .val (.int p5), .val (.int (1 : Int32)), .unset, .unset, .unset, .unset, .unset, .unset, .unset, .unset, .unset] [(.int ((p5.toUInt32 >>> ((2 : Int32) &&& 31).toUInt32).toInt32))])) rfl (hb hby at_10) _ z_) ?_
    show OWay p e below G s₁ (mkF m 12 #[.val (.long q0), .second, .val (.int p1), .val (.long q2), .second, .val (.long q3), .second, .val (.long q4), .second, .val (.int p5), .val (.int (1 : Int32)), .unset, .unset, .unset, .unset, .unset, .unset, .unset, .unset, .unset] [(.int (1048575 : Int32)), (.int ((p5.toUInt32 >>> ((2 : Int32) &&& 31).toUInt32).toInt32))])
    refine ogo (fun _ z_ => XS.iand X0.here hx rfl (hb hby at_12) rfl z_) ?_
    show OWay p e below G s₁ (mkF m 13 #[.val (.long q0), .second, .val (.int p1), .val (.long q2), .second, .val (.long q3), .second, .val (.long q4), .second, .val (.int p5), .val (.int (1 : Int32)), .unset, .unset, .unset, .unset, .unset, .unset, .unset, .unset, .unset] [(.int (((p5.toUInt32 >>> ((2 : Int32) &&& 31).toUInt32).toInt32) &&& (1048575 : Int32)))])
    refine ogo (fun _ z_ => XS.i2dS X0.here hx rfl (hb hby at_13) rfl rfl z_) ?_
    show OWay p e below G s₁ (mkF m 14 #[.val (.long q0), .second, .val (.int p1), .val (.long q2), .second, .val (.long q3), .second, .val (.long q4), .second, .val (.int p5), .val (.int (1 : Int32)), .unset, .unset, .unset, .unset, .unset, .unset, .unset, .unset, .unset] [(.double (FP.i2d (((p5.toUInt32 >>> ((2 : Int32) &&& 31).toUInt32).toInt32) &&& (1048575 : Int32))))])
    refine ogo (fun _ z_ => X0.ldc2DoubleC hx hown (mvT hZ (hw _ (List.mem_of_getElem? (i := 1) rfl))) (g := (mkF m 14 #[.val (.long q0), .second, .val (.int p1), .val (.long q2), .second, .val (.long q3), .second, .val (.long q4), .second, .val (.int p5), .val (.int (1 : Int32)), .unset, .unset, .unset, .unset, .unset, .unset, .unset, .unset, .unset] [(.double (FP.i2d (((p5.toUInt32 >>> ((2 : Int32) &&& 31).toUInt32).toInt32) &&& (1048575 : Int32))))])) rfl (hb hby at_14) _ z_) ?_
    show OWay p e below G s₁ (mkF m 17 #[.val (.long q0), .second, .val (.int p1), .val (.long q2), .second, .val (.long q3), .second, .val (.long q4), .second, .val (.int p5), .val (.int (1 : Int32)), .unset, .unset, .unset, .unset, .unset, .unset, .unset, .unset, .unset] [(.double (4697254411347427328 : UInt64)), (.double (FP.i2d (((p5.toUInt32 >>> ((2 : Int32) &&& 31).toUInt32).toInt32) &&& (1048575 : Int32))))])
    refine ogo (fun _ z_ => XS.ddivS X0.here hx rfl (hb hby at_17) rfl (own_nn _) rfl z_) ?_
    show OWay p e below G s₁ (mkF m 18 #[.val (.long q0), .second, .val (.int p1), .val (.long q2), .second, .val (.long q3), .second, .val (.long q4), .second, .val (.int p5), .val (.int (1 : Int32)), .unset, .unset, .unset, .unset, .unset, .unset, .unset, .unset, .unset] [(.double (FP.ddiv (FP.i2d (((p5.toUInt32 >>> ((2 : Int32) &&& 31).toUInt32).toInt32) &&& (1048575 : Int32))) (4697254411347427328 : UInt64)))])
    suffices Jv11_49 : ∀ v11_49 : UInt64, v11_49 = (FP.ddiv (FP.i2d (((p5.toUInt32 >>> ((2 : Int32) &&& 31).toUInt32).toInt32) &&& (1048575 : Int32))) (4697254411347427328 : UInt64)) → OWay p e below G s₁ (mkF m 18 #[.val (.long q0), .second, .val (.int p1), .val (.long q2), .second, .val (.long q3), .second, .val (.long q4), .second, .val (.int p5), .val (.int (1 : Int32)), .unset, .unset, .unset, .unset, .unset, .unset, .unset, .unset, .unset] [(.double v11_49)]) from Jv11_49 _ rfl
    intro v11_49 hv11_49
    refine ogo (fun _ z_ => XS.dstore X0.here hx rfl (hb hby at_18) rfl (l' := #[.val (.long q0), .second, .val (.int p1), .val (.long q2), .second, .val (.long q3), .second, .val (.long q4), .second, .val (.int p5), .val (.int (1 : Int32)), .val (.double v11_49), .second, .unset, .unset, .unset, .unset, .unset, .unset, .unset]) rfl z_) ?_
    show OWay p e below G s₁ (mkF m 20 #[.val (.long q0), .second, .val (.int p1), .val (.long q2), .second, .val (.long q3), .second, .val (.long q4), .second, .val (.int p5), .val (.int (1 : Int32)), .val (.double v11_49), .second, .unset, .unset, .unset, .unset, .unset, .unset, .unset] [])
    refine ogo (fun _ z_ => XS.iload X0.here hx rfl (hb hby at_20) rfl z_) ?_
    show OWay p e below G s₁ (mkF m 22 #[.val (.long q0), .second, .val (.int p1), .val (.long q2), .second, .val (.long q3), .second, .val (.long q4), .second, .val (.int p5), .val (.int (1 : Int32)), .val (.double v11_49), .second, .unset, .unset, .unset, .unset, .unset, .unset, .unset] [(.int (1 : Int32))])
    obtain ⟨T50, h50, k50, X50, eT50, E50, A50, D50, st50⟩ := newPE X0 hx hZ (hw _ (List.mem_of_getElem? (i := 2) rfl)) eh0 (g := (mkF m 22 #[.val (.long q0), .second, .val (.int p1), .val (.long q2), .second, .val (.long q3), .second, .val (.long q4), .second, .val (.int p5), .val (.int (1 : Int32)), .val (.double v11_49), .second, .unset, .unset, .unset, .unset, .unset, .unset, .unset] [(.int (1 : Int32))])) rfl (hb hby at_22) rfl (by decide) (cap := 1) (by decide) (by decide) (by decide) (by decide)
    obtain ⟨b50, g50⟩ : ∃ z, z = h0.size := ⟨_, rfl⟩
    rw [← g50] at A50 D50 st50
    have g_b50 : n0 ≤ b50 := Nat.le_trans Z0 (Nat.le_of_eq g50.symm)
    have sz_b50 : h0.size ≤ b50 := Nat.le_trans K0.1 (Nat.le_of_eq g50.symm)
    have K51 : Keep h0 h50 [] := K0.ext E50
    have V_b50 : Arv Z h50 b50 k50 .long (1 : Int32) [(.long (0 : Int64))] (.long (0 : Int64)) := (Arv.new A50 (by decide)).pad (pad_rep [] (.long (0 : Int64)) 1)
    have Ex_b50 : Exa Z h50 b50 "[J" := D50
    refine ogo st50 ?_
    show OWay p e below G T50 (mkF m 24 #[.val (.long q0), .second, .val (.int p1), .val (.long q2), .second, .val (.long q3), .second, .val (.long q4), .second, .val (.int p5), .val (.int (1 : Int32)), .val (.double v11_49), .second, .unset, .unset, .unset, .unset, .unset, .unset, .unset] [(.ref b50)])
    refine ogo (fun _ z_ => XS.astore X50.here hx rfl (hb hby at_24) rfl rfl (l' := #[.val (.long q0), .second, .val (.int p1), .val (.long q2), .second, .val (.long q3), .second, .val (.long q4), .second, .val (.int p5), .val (.int (1 : Int32)), .val (.double v11_49), .second, .val (.ref b50), .unset, .unset, .unset, .unset, .unset, .unset]) rfl z_) ?_
    show OWay p e below G T50 (mkF m 26 #[.val (.long q0), .second, .val (.int p1), .val (.long q2), .second, .val (.long q3), .second, .val (.long q4), .second, .val (.int p5), .val (.int (1 : Int32)), .val (.double v11_49), .second, .val (.ref b50), .unset, .unset, .unset, .unset, .unset, .unset] [])
    refine ogo (fun _ z_ => XS.iload X50.here hx rfl (hb hby at_26) rfl z_) ?_
    show OWay p e below G T50 (mkF m 28 #[.val (.long q0), .second, .val (.int p1), .val (.long q2), .second, .val (.long q3), .second, .val (.long q4), .second, .val (.int p5), .val (.int (1 : Int32)), .val (.double v11_49), .second, .val (.ref b50), .unset, .unset, .unset, .unset, .unset, .unset] [(.int (1 : Int32))])
    refine ogo (fun _ z_ => XS.ifNo X50.here hx rfl (hb hby at_28) rfl ((if0 _ _).trans (tlt (by decide)).2.2.2) z_) ?_
    show OWay p e below G T50 (mkF m 31 #[.val (.long q0), .second, .val (.int p1), .val (.long q2), .second, .val (.long q3), .second, .val (.long q4), .second, .val (.int p5), .val (.int (1 : Int32)), .val (.double v11_49), .second, .val (.ref b50), .unset, .unset, .unset, .unset, .unset, .unset] [])
    refine ogo (fun _ z_ => XS.aload X50.here hx rfl (hb hby at_31) rfl rfl z_) ?_
    show OWay p e below G T50 (mkF m 33 #[.val (.long q0), .second, .val (.int p1), .val (.long q2), .second, .val (.long q3), .second, .val (.long q4), .second, .val (.int p5), .val (.int (1 : Int32)), .val (.double v11_49), .second, .val (.ref b50), .unset, .unset, .unset, .unset, .unset, .unset] [(.ref b50)])
    refine ogo (fun _ z_ => XS.iconst X50.here hx rfl (hb hby at_33) z_) ?_
    show OWay p e below G T50 (mkF m 34 #[.val (.long q0), .second, .val (.int p1), .val (.long q2), .second, .val (.long q3), .second, .val (.long q4), .second, .val (.int p5), .val (.int (1 : Int32)), .val (.double v11_49), .second, .val (.ref b50), .unset, .unset, .unset, .unset, .unset, .unset] [(.int (0 : Int32)), (.ref b50)])
    refine ogo (fun _ z_ => XS.iconst X50.here hx rfl (hb hby at_34) z_) ?_
    show OWay p e below G T50 (mkF m 35 #[.val (.long q0), .second, .val (.int p1), .val (.long q2), .second, .val (.long q3), .second, .val (.long q4), .second, .val (.int p5), .val (.int (1 : Int32)), .val (.double v11_49), .second, .val (.ref b50), .unset, .unset, .unset, .unset, .unset, .unset] [(.int (0 : Int32)), (.int (0 : Int32)), (.ref b50)])
    refine ogo (fun _ z_ => XS.lloadN X50.here hx rfl (hb hby at_35) rfl z_) ?_
    show OWay p e below G T50 (mkF m 36 #[.val (.long q0), .second, .val (.int p1), .val (.long q2), .second, .val (.long q3), .second, .val (.long q4), .second, .val (.int p5), .val (.int (1 : Int32)), .val (.double v11_49), .second, .val (.ref b50), .unset, .unset, .unset, .unset, .unset, .unset] [(.long q2), (.int (0 : Int32)), (.int (0 : Int32)), (.ref b50)])
    refine ogo (fun _ z_ => XS.lload X50.here hx rfl (hb hby at_36) rfl z_) ?_
    show OWay p e below G T50 (mkF m 38 #[.val (.long q0), .second, .val (.int p1), .val (.long q2), .second, .val (.long q3), .second, .val (.long q4), .second, .val (.int p5), .val (.int (1 : Int32)), .val (.double v11_49), .second, .val (.ref b50), .unset, .unset, .unset, .unset, .unset, .unset] [(.long q3), (.long q2), (.int (0 : Int32)), (.int (0 : Int32)), (.ref b50)])
    obtain ⟨_, T52, L52, X52, hQ52, st52⟩ := wStatic X50 hx hZ (y := (⟨"com/example/sito/sito/SliceCopyPinLaw", "expected", "(IJJ)J"⟩ : MethodName)) hown (hw _ (List.mem_of_getElem? (i := 72) rfl)) (hw _ (List.mem_of_getElem? (i := 73) rfl)) (hw _ (List.mem_of_getElem? (i := 74) rfl)) (hw _ (List.mem_of_getElem? (i := 75) rfl)) (by decide) (exp0_c l Z az hw [] q2 q3 h50 n0 (Nat.le_trans Z0 E50.1)) 2 (by decide) (by decide) (g := (mkF m 38 #[.val (.long q0), .second, .val (.int p1), .val (.long q2), .second, .val (.long q3), .second, .val (.long q4), .second, .val (.int p5), .val (.int (1 : Int32)), .val (.double v11_49), .second, .val (.ref b50), .unset, .unset, .unset, .unset, .unset, .unset] [(.long q3), (.long q2), (.int (0 : Int32)), (.int (0 : Int32)), (.ref b50)])) rfl (by rw [hml]; rfl) (argsL := [(.int (0 : Int32)), (.long q2), (.long q3)]) (rest := [(.int (0 : Int32)), (.ref b50)]) (lenOf pd__IJJ_J rfl) rfl (by show 2 * 0 + _ ≤ _; exact Nat.le_of_eq rfl) (hb hby at_38) rfl eT50 (by decide) (by decide)
    obtain ⟨rfl, N52q, eq52⟩ := hQ52
    have N52 := Fr.app N0 N52q
    refine ogo st52 ?_
    show OWay p e below G T52 (mkF m 41 #[.val (.long q0), .second, .val (.int p1), .val (.long q2), .second, .val (.long q3), .second, .val (.long q4), .second, .val (.int p5), .val (.int (1 : Int32)), .val (.double v11_49), .second, .val (.ref b50), .unset, .unset, .unset, .unset, .unset, .unset] [(.long q2), (.int (0 : Int32)), (.ref b50)])
    obtain ⟨cl_o53, Ar_o53, q_o53, S_o53, N_o53, H_o53, G_o53⟩ := id V_b50
    have hin_o53 : ¬ ((0 : Int32) < 0 ∨ cl_o53.slots.size ≤ ((0 : Int32)).toNatClampNeg) := inb_of S_o53 ⟨by decide, by decide⟩
    obtain ⟨T54, h54, X54, eT54, W54, st54⟩ := stJ X52 hx hZ eq52 Ar_o53 (j := (0 : Int32)) hin_o53 (g := (mkF m 41 #[.val (.long q0), .second, .val (.int p1), .val (.long q2), .second, .val (.long q3), .second, .val (.long q4), .second, .val (.int p5), .val (.int (1 : Int32)), .val (.double v11_49), .second, .val (.ref b50), .unset, .unset, .unset, .unset, .unset, .unset] [(.long q2), (.int (0 : Int32)), (.ref b50)])) rfl rfl (hb hby at_41)
    have K55 : Keep h0 h54 [] := K51.wr W54 (Or.inr sz_b50)
    have V_54 : Arv Z h54 b50 k50 .long (1 : Int32) [(.long q2)] (.long (0 : Int64)) := Arv.set Ar_o53 q_o53 S_o53 N_o53 H_o53 G_o53 rfl W54 0 rfl (Nat.le_of_ble_eq_true rfl)
    have N54 := Fr.snoc X54 N52 g_b50
    refine ogo st54 ?_
    show OWay p e below G T54 (mkF m 42 #[.val (.long q0), .second, .val (.int p1), .val (.long q2), .second, .val (.long q3), .second, .val (.long q4), .second, .val (.int p5), .val (.int (1 : Int32)), .val (.double v11_49), .second, .val (.ref b50), .unset, .unset, .unset, .unset, .unset, .unset] [])
    refine ogo (fun _ z_ => XS.iload X54.here hx rfl (hb hby at_42) rfl z_) ?_
    show OWay p e below G T54 (mkF m 44 #[.val (.long q0), .second, .val (.int p1), .val (.long q2), .second, .val (.long q3), .second, .val (.long q4), .second, .val (.int p5), .val (.int (1 : Int32)), .val (.double v11_49), .second, .val (.ref b50), .unset, .unset, .unset, .unset, .unset, .unset] [(.int (1 : Int32))])
    refine ogo (fun _ z_ => XS.iconst X54.here hx rfl (hb hby at_44) z_) ?_
    show OWay p e below G T54 (mkF m 45 #[.val (.long q0), .second, .val (.int p1), .val (.long q2), .second, .val (.long q3), .second, .val (.long q4), .second, .val (.int p5), .val (.int (1 : Int32)), .val (.double v11_49), .second, .val (.ref b50), .unset, .unset, .unset, .unset, .unset, .unset] [(.int (1 : Int32)), (.int (1 : Int32))])
    refine ogo (fun _ z_ => XS.icmpYes X54.here hx rfl (pc0 := 45) (pc' := 59) rfl (hb hby at_45) rfl (flt (by decide)).2.2.2 (by decide) (by decide) z_) ?_
    show OWay p e below G T54 (mkF m 59 #[.val (.long q0), .second, .val (.int p1), .val (.long q2), .second, .val (.long q3), .second, .val (.long q4), .second, .val (.int p5), .val (.int (1 : Int32)), .val (.double v11_49), .second, .val (.ref b50), .unset, .unset, .unset, .unset, .unset, .unset] [])
    refine ogo (fun _ z_ => XS.iload X54.here hx rfl (hb hby at_59) rfl z_) ?_
    show OWay p e below G T54 (mkF m 61 #[.val (.long q0), .second, .val (.int p1), .val (.long q2), .second, .val (.long q3), .second, .val (.long q4), .second, .val (.int p5), .val (.int (1 : Int32)), .val (.double v11_49), .second, .val (.ref b50), .unset, .unset, .unset, .unset, .unset, .unset] [(.int (1 : Int32))])
    refine ogo (fun _ z_ => XS.iconst X54.here hx rfl (hb hby at_61) z_) ?_
    show OWay p e below G T54 (mkF m 62 #[.val (.long q0), .second, .val (.int p1), .val (.long q2), .second, .val (.long q3), .second, .val (.long q4), .second, .val (.int p5), .val (.int (1 : Int32)), .val (.double v11_49), .second, .val (.ref b50), .unset, .unset, .unset, .unset, .unset, .unset] [(.int (2 : Int32)), (.int (1 : Int32))])
    refine ogo (fun _ z_ => XS.icmpYes X54.here hx rfl (pc0 := 62) (pc' := 76) rfl (hb hby at_62) rfl (flt (by decide)).2.2.2 (by decide) (by decide) z_) ?_
    show OWay p e below G T54 (mkF m 76 #[.val (.long q0), .second, .val (.int p1), .val (.long q2), .second, .val (.long q3), .second, .val (.long q4), .second, .val (.int p5), .val (.int (1 : Int32)), .val (.double v11_49), .second, .val (.ref b50), .unset, .unset, .unset, .unset, .unset, .unset] [])
    obtain ⟨T56, h56, X56, eT56, E56, A56, D56, -, st56⟩ := newO X54 hx hZ hown (hw _ (List.mem_of_getElem? (i := 3) rfl)) (hw _ (List.mem_of_getElem? (i := 4) rfl)) (hw _ (List.mem_of_getElem? (i := 5) rfl)) eT54 (g := (mkF m 76 #[.val (.long q0), .second, .val (.int p1), .val (.long q2), .second, .val (.long q3), .second, .val (.long q4), .second, .val (.int p5), .val (.int (1 : Int32)), .val (.double v11_49), .second, .val (.ref b50), .unset, .unset, .unset, .unset, .unset, .unset] [])) rfl (hb hby at_76) (by decide) (by decide)
    obtain ⟨b56, g56⟩ : ∃ z, z = h54.size := ⟨_, rfl⟩
    rw [← g56] at A56 D56 st56
    have g_b56 : n0 ≤ b56 := Nat.le_trans (Nat.le_trans (Nat.le_trans Z0 E50.1) (Keep.of_wr W54).1) (Nat.le_of_eq g56.symm)
    have sz_b56 : h0.size ≤ b56 := Nat.le_trans K55.1 (Nat.le_of_eq g56.symm)
    have K57 : Keep h0 h56 [] := K55.ext E56
    have F_capacity_b56 : Fld Z h56 b56 "com/example/sito/sito/Slice" "capacity" "J" (.long (0 : Int64)) := D56 (Or.inr (hw _ (List.mem_of_getElem? (i := 13) rfl))) (ty := .long) (by decide)
    have F_bound_b56 : Fld Z h56 b56 "com/example/sito/sito/Slice" "bound" "D" (.double (0 : UInt64)) := D56 (Or.inr (hw _ (List.mem_of_getElem? (i := 15) rfl))) (ty := .double) (by decide)
    have F_hashCount_b56 : Fld Z h56 b56 "com/example/sito/sito/Slice" "hashCount" "I" (.int (0 : Int32)) := D56 (Or.inr (hw _ (List.mem_of_getElem? (i := 17) rfl))) (ty := .int) (by decide)
    have F_bitCount_b56 : Fld Z h56 b56 "com/example/sito/sito/Slice" "bitCount" "J" (.long (0 : Int64)) := D56 (Or.inr (hw _ (List.mem_of_getElem? (i := 20) rfl))) (ty := .long) (by decide)
    have F_words_b56 : Fld Z h56 b56 "com/example/sito/sito/Slice" "words" "[J" .null := D56 (Or.inr (hw _ (List.mem_of_getElem? (i := 22) rfl))) (ty := (.array .long)) (by decide)
    have F_items_b56 : Fld Z h56 b56 "com/example/sito/sito/Slice" "items" "J" (.long (0 : Int64)) := D56 (Or.inl (hw _ (List.mem_of_getElem? (i := 24) rfl))) (ty := .long) (by decide)
    refine ogo st56 ?_
    show OWay p e below G T56 (mkF m 79 #[.val (.long q0), .second, .val (.int p1), .val (.long q2), .second, .val (.long q3), .second, .val (.long q4), .second, .val (.int p5), .val (.int (1 : Int32)), .val (.double v11_49), .second, .val (.ref b50), .unset, .unset, .unset, .unset, .unset, .unset] [(.ref b56)])
    refine ogo (fun _ z_ => XS.dup X56.here hx rfl (hb hby at_79) rfl rfl z_) ?_
    show OWay p e below G T56 (mkF m 80 #[.val (.long q0), .second, .val (.int p1), .val (.long q2), .second, .val (.long q3), .second, .val (.long q4), .second, .val (.int p5), .val (.int (1 : Int32)), .val (.double v11_49), .second, .val (.ref b50), .unset, .unset, .unset, .unset, .unset, .unset] [(.ref b56), (.ref b56)])
    refine ogo (fun _ z_ => XS.lloadN X56.here hx rfl (hb hby at_80) rfl z_) ?_
    show OWay p e below G T56 (mkF m 81 #[.val (.long q0), .second, .val (.int p1), .val (.long q2), .second, .val (.long q3), .second, .val (.long q4), .second, .val (.int p5), .val (.int (1 : Int32)), .val (.double v11_49), .second, .val (.ref b50), .unset, .unset, .unset, .unset, .unset, .unset] [(.long q0), (.ref b56), (.ref b56)])
    refine ogo (fun _ z_ => XS.dload X56.here hx rfl (hb hby at_81) rfl z_) ?_
    show OWay p e below G T56 (mkF m 83 #[.val (.long q0), .second, .val (.int p1), .val (.long q2), .second, .val (.long q3), .second, .val (.long q4), .second, .val (.int p5), .val (.int (1 : Int32)), .val (.double v11_49), .second, .val (.ref b50), .unset, .unset, .unset, .unset, .unset, .unset] [(.double v11_49), (.long q0), (.ref b56), (.ref b56)])
    refine ogo (fun _ z_ => XS.iloadN X56.here hx rfl (hb hby at_83) rfl z_) ?_
    show OWay p e below G T56 (mkF m 84 #[.val (.long q0), .second, .val (.int p1), .val (.long q2), .second, .val (.long q3), .second, .val (.long q4), .second, .val (.int p5), .val (.int (1 : Int32)), .val (.double v11_49), .second, .val (.ref b50), .unset, .unset, .unset, .unset, .unset, .unset] [(.int p1), (.double v11_49), (.long q0), (.ref b56), (.ref b56)])
    refine ogo (fun _ z_ => XS.aload X56.here hx rfl (hb hby at_84) rfl rfl z_) ?_
    show OWay p e below G T56 (mkF m 86 #[.val (.long q0), .second, .val (.int p1), .val (.long q2), .second, .val (.long q3), .second, .val (.long q4), .second, .val (.int p5), .val (.int (1 : Int32)), .val (.double v11_49), .second, .val (.ref b50), .unset, .unset, .unset, .unset, .unset, .unset] [(.ref b50), (.int p1), (.double v11_49), (.long q0), (.ref b56), (.ref b56)])
    refine ogo (fun _ z_ => XS.lload X56.here hx rfl (hb hby at_86) rfl z_) ?_
    show OWay p e below G T56 (mkF m 88 #[.val (.long q0), .second, .val (.int p1), .val (.long q2), .second, .val (.long q3), .second, .val (.long q4), .second, .val (.int p5), .val (.int (1 : Int32)), .val (.double v11_49), .second, .val (.ref b50), .unset, .unset, .unset, .unset, .unset, .unset] [(.long q4), (.ref b50), (.int p1), (.double v11_49), (.long q0), (.ref b56), (.ref b56)])
    have F58 : Arv Z h56 b50 k50 .long (1 : Int32) [(.long q2)] (.long (0 : Int64)) := (V_54.ext E56)
    obtain ⟨_, T59, L59, X59, hQ59, st59⟩ := wInit X56 hx hZ (y := (⟨"com/example/sito/sito/Slice", "<init>", "(JDI[JJ)V"⟩ : MethodName)) rfl hown (hw _ (List.mem_of_getElem? (i := 6) rfl)) (hw _ (List.mem_of_getElem? (i := 7) rfl)) (hw _ (List.mem_of_getElem? (i := 5) rfl)) (hw _ (List.mem_of_getElem? (i := 8) rfl)) (by decide) (ctor_1_c l Z az hw [] b56 q0 v11_49 p1 b50 q4 k50 (.long q2) h56 n0 (Nat.le_trans (Nat.le_trans (Nat.le_trans Z0 E50.1) (Keep.of_wr W54).1) E56.1) F58 (Nat.ne_of_lt (Nat.lt_of_lt_of_le V_54.lt (Nat.le_of_eq g56.symm))) A56 g_b56 F_capacity_b56 F_bound_b56 F_hashCount_b56 F_bitCount_b56 F_words_b56 F_items_b56) 1 (by decide) (by decide) (g := (mkF m 88 #[.val (.long q0), .second, .val (.int p1), .val (.long q2), .second, .val (.long q3), .second, .val (.long q4), .second, .val (.int p5), .val (.int (1 : Int32)), .val (.double v11_49), .second, .val (.ref b50), .unset, .unset, .unset, .unset, .unset, .unset] [(.long q4), (.ref b50), (.int p1), (.double v11_49), (.long q0), (.ref b56), (.ref b56)])) rfl (by rw [hml]; rfl) (a := b56) (argsL := [(.long q0), (.double v11_49), (.int p1), (.ref b50), (.long q4)]) (rest := [(.ref b56)]) (lenOf pd__JDI_JJ_V rfl) rfl (by show 2 * 0 + _ ≤ _; exact Nat.le_of_eq rfl) (hb hby at_88) rfl eT56 (by decide) (by decide)
    obtain ⟨rfl, N59q, Kq59, P60, P61, P62, P63, P64, P65⟩ := hQ59
    have N59 := Fr.app N54 N59q
    have K66 : Keep h0 T59.heap [] := K57.trans Kq59 (allS (Or.inr sz_b56) all0)
    refine ogoS st59 ?_
    show OWay p e below G T59 (mkF m 91 #[.val (.long q0), .second, .val (.int p1), .val (.long q2), .second, .val (.long q3), .second, .val (.long q4), .second, .val (.int p5), .val (.int (1 : Int32)), .val (.double v11_49), .second, .val (.ref b50), .unset, .unset, .unset, .unset, .unset, .unset] [(.ref b56)])
    refine ogo (fun _ z_ => XS.astore X59.here hx rfl (hb hby at_91) rfl rfl (l' := #[.val (.long q0), .second, .val (.int p1), .val (.long q2), .second, .val (.long q3), .second, .val (.long q4), .second, .val (.int p5), .val (.int (1 : Int32)), .val (.double v11_49), .second, .val (.ref b50), .val (.ref b56), .unset, .unset, .unset, .unset, .unset]) rfl z_) ?_
    show OWay p e below G T59 (mkF m 93 #[.val (.long q0), .second, .val (.int p1), .val (.long q2), .second, .val (.long q3), .second, .val (.long q4), .second, .val (.int p5), .val (.int (1 : Int32)), .val (.double v11_49), .second, .val (.ref b50), .val (.ref b56), .unset, .unset, .unset, .unset, .unset] [])
    refine ogo (fun _ z_ => XS.aload X59.here hx rfl (hb hby at_93) rfl rfl z_) ?_
    show OWay p e below G T59 (mkF m 95 #[.val (.long q0), .second, .val (.int p1), .val (.long q2), .second, .val (.long q3), .second, .val (.long q4), .second, .val (.int p5), .val (.int (1 : Int32)), .val (.double v11_49), .second, .val (.ref b50), .val (.ref b56), .unset, .unset, .unset, .unset, .unset] [(.ref b56)])
    have F67 : Arv Z T59.heap b50 k50 .long (1 : Int32) [(.long q2)] (.long (0 : Int64)) := (F58.keep Kq59 (ninS (Nat.ne_of_lt (Nat.lt_of_lt_of_le V_54.lt (Nat.le_of_eq g56.symm))) nin0))
    have F68 : Exa Z T59.heap b50 "[J" := (((Ex_b50.wr W54).ext E56).keep Kq59)
    have F70 : Exa Z T59.heap b56 "com/example/sito/sito/Slice" := (A56.keep Kq59)
    obtain ⟨_, T69, L69, X69, hQ69, st69⟩ := wVirtual X59 hx hZ (y := (⟨"com/example/sito/sito/Slice", "copy", "()Lcom/example/sito/sito/Slice;"⟩ : MethodName)) (z := (⟨"com/example/sito/sito/Slice", "copy", "()Lcom/example/sito/sito/Slice;"⟩ : MethodName)) hown (hw _ (List.mem_of_getElem? (i := 25) rfl)) (hw _ (List.mem_of_getElem? (i := 26) rfl)) (notFace_of_selects (args := #[]) (mvT hZ (hw _ (List.mem_of_getElem? (i := 28) rfl)))) (hw _ (List.mem_of_getElem? (i := 28) rfl)) (hw _ (List.mem_of_getElem? (i := 27) rfl)) (hw _ (List.mem_of_getElem? (i := 5) rfl)) (hw _ (List.mem_of_getElem? (i := 29) rfl)) (by decide) (copy1_c l Z az hw [] b56 q0 v11_49 p1 b50 q4 k50 q2 T59.heap n0 (Nat.le_trans (Nat.le_trans (Nat.le_trans (Nat.le_trans Z0 E50.1) (Keep.of_wr W54).1) E56.1) Kq59.1) P60 P61 P62 P64 P65 F67 F68) 0 (by decide) (by decide) F70 (g := (mkF m 95 #[.val (.long q0), .second, .val (.int p1), .val (.long q2), .second, .val (.long q3), .second, .val (.long q4), .second, .val (.int p5), .val (.int (1 : Int32)), .val (.double v11_49), .second, .val (.ref b50), .val (.ref b56), .unset, .unset, .unset, .unset, .unset] [(.ref b56)])) rfl (by rw [hml]; rfl) (argsL := []) (rest := []) (lenOf pd___Lcom_example_sito_sito_Slice_ rfl) rfl (by show 2 * 0 + _ ≤ _; exact Nat.le_of_eq rfl) (hb hby at_95) rfl rfl (by decide) (by decide)
    obtain ⟨b_71, c_72, kc_73, rfl, N69q, Kq69, P74, P75, P76, P77, P78, P79, P80, P81, P82, P83, P84, P85, P86⟩ := hQ69
    have N69 := Fr.app N59 N69q
    have K87 : Keep h0 T69.heap [] := K66.trans Kq69 all0
    have g_b_71 := P74
    have sz_b_71 : h0.size ≤ b_71 := Nat.le_trans K66.1 P75
    have g_c_72 := P76
    have sz_c_72 : h0.size ≤ c_72 := Nat.le_trans K66.1 P77
    refine ogoS st69 ?_
    show OWay p e below G T69 (mkF m 98 #[.val (.long q0), .second, .val (.int p1), .val (.long q2), .second, .val (.long q3), .second, .val (.long q4), .second, .val (.int p5), .val (.int (1 : Int32)), .val (.double v11_49), .second, .val (.ref b50), .val (.ref b56), .unset, .unset, .unset, .unset, .unset] [(.ref b_71)])
    refine ogo (fun _ z_ => XS.astore X69.here hx rfl (hb hby at_98) rfl rfl (l' := #[.val (.long q0), .second, .val (.int p1), .val (.long q2), .second, .val (.long q3), .second, .val (.long q4), .second, .val (.int p5), .val (.int (1 : Int32)), .val (.double v11_49), .second, .val (.ref b50), .val (.ref b56), .val (.ref b_71), .unset, .unset, .unset, .unset]) rfl z_) ?_
    show OWay p e below G T69 (mkF m 100 #[.val (.long q0), .second, .val (.int p1), .val (.long q2), .second, .val (.long q3), .second, .val (.long q4), .second, .val (.int p5), .val (.int (1 : Int32)), .val (.double v11_49), .second, .val (.ref b50), .val (.ref b56), .val (.ref b_71), .unset, .unset, .unset, .unset] [])
    refine ogo (fun _ z_ => XS.aload X69.here hx rfl (hb hby at_100) rfl rfl z_) ?_
    show OWay p e below G T69 (mkF m 102 #[.val (.long q0), .second, .val (.int p1), .val (.long q2), .second, .val (.long q3), .second, .val (.long q4), .second, .val (.int p5), .val (.int (1 : Int32)), .val (.double v11_49), .second, .val (.ref b50), .val (.ref b56), .val (.ref b_71), .unset, .unset, .unset, .unset] [(.ref b_71)])
    refine ogo (fun _ z_ => XS.ifnullNo X69.here hx rfl (hb hby at_102) rfl z_) ?_
    show OWay p e below G T69 (mkF m 105 #[.val (.long q0), .second, .val (.int p1), .val (.long q2), .second, .val (.long q3), .second, .val (.long q4), .second, .val (.int p5), .val (.int (1 : Int32)), .val (.double v11_49), .second, .val (.ref b50), .val (.ref b56), .val (.ref b_71), .unset, .unset, .unset, .unset] [])
    refine ogo (fun _ z_ => XS.aload X69.here hx rfl (hb hby at_105) rfl rfl z_) ?_
    show OWay p e below G T69 (mkF m 107 #[.val (.long q0), .second, .val (.int p1), .val (.long q2), .second, .val (.long q3), .second, .val (.long q4), .second, .val (.int p5), .val (.int (1 : Int32)), .val (.double v11_49), .second, .val (.ref b50), .val (.ref b56), .val (.ref b_71), .unset, .unset, .unset, .unset] [(.ref b_71)])
    refine ogo (fun _ z_ => XS.aload X69.here hx rfl (hb hby at_107) rfl rfl z_) ?_
    show OWay p e below G T69 (mkF m 109 #[.val (.long q0), .second, .val (.int p1), .val (.long q2), .second, .val (.long q3), .second, .val (.long q4), .second, .val (.int p5), .val (.int (1 : Int32)), .val (.double v11_49), .second, .val (.ref b50), .val (.ref b56), .val (.ref b_71), .unset, .unset, .unset, .unset] [(.ref b56), (.ref b_71)])
    refine ogo (fun _ z_ => Jvm.RoadKit.acmp (g := (mkF m 109 #[.val (.long q0), .second, .val (.int p1), .val (.long q2), .second, .val (.long q3), .second, .val (.long q4), .second, .val (.int p5), .val (.int (1 : Int32)), .val (.double v11_49), .second, .val (.ref b50), .val (.ref b56), .val (.ref b_71), .unset, .unset, .unset, .unset] [(.ref b56), (.ref b_71)])) X69 hx rfl rfl rfl (pc0 := 109) (pc' := 114) (same := false) rfl (hb hby at_109) rfl (decide_eq_false fun q => (Ne.symm (Nat.ne_of_lt (Nat.lt_of_lt_of_le F70.lt P75))) (Value.ref.inj q)) (by decide) (by decide) z_) ?_
    show OWay p e below G T69 (mkF m 114 #[.val (.long q0), .second, .val (.int p1), .val (.long q2), .second, .val (.long q3), .second, .val (.long q4), .second, .val (.int p5), .val (.int (1 : Int32)), .val (.double v11_49), .second, .val (.ref b50), .val (.ref b56), .val (.ref b_71), .unset, .unset, .unset, .unset] [])
    refine ogo (fun _ z_ => XS.aload X69.here hx rfl (hb hby at_114) rfl rfl z_) ?_
    show OWay p e below G T69 (mkF m 116 #[.val (.long q0), .second, .val (.int p1), .val (.long q2), .second, .val (.long q3), .second, .val (.long q4), .second, .val (.int p5), .val (.int (1 : Int32)), .val (.double v11_49), .second, .val (.ref b50), .val (.ref b56), .val (.ref b_71), .unset, .unset, .unset, .unset] [(.ref b_71)])
    obtain ⟨_, T88, L88, X88, hQ88, st88⟩ := wVirtual X69 hx hZ (y := (⟨"com/example/sito/sito/Slice", "getCapacity", "()J"⟩ : MethodName)) (z := (⟨"com/example/sito/sito/Slice", "getCapacity", "()J"⟩ : MethodName)) hown (hw _ (List.mem_of_getElem? (i := 41) rfl)) (hw _ (List.mem_of_getElem? (i := 42) rfl)) (notFace_of_selects (args := #[]) (mvT hZ (hw _ (List.mem_of_getElem? (i := 44) rfl)))) (hw _ (List.mem_of_getElem? (i := 44) rfl)) (hw _ (List.mem_of_getElem? (i := 43) rfl)) (hw _ (List.mem_of_getElem? (i := 5) rfl)) (hw _ (List.mem_of_getElem? (i := 45) rfl)) (by decide) (get4_c l Z az hw [] b_71 q0 T69.heap n0 (Nat.le_trans (Nat.le_trans (Nat.le_trans (Nat.le_trans (Nat.le_trans Z0 E50.1) (Keep.of_wr W54).1) E56.1) Kq59.1) Kq69.1) P80) 0 (by decide) (by decide) P79 (g := (mkF m 116 #[.val (.long q0), .second, .val (.int p1), .val (.long q2), .second, .val (.long q3), .second, .val (.long q4), .second, .val (.int p5), .val (.int (1 : Int32)), .val (.double v11_49), .second, .val (.ref b50), .val (.ref b56), .val (.ref b_71), .unset, .unset, .unset, .unset] [(.ref b_71)])) rfl (by rw [hml]; rfl) (argsL := []) (rest := []) (lenOf pd___J rfl) rfl (by show 2 * 0 + _ ≤ _; exact Nat.le_of_eq rfl) (hb hby at_116) rfl rfl (by decide) (by decide)
    obtain ⟨rfl, N88q, eq88⟩ := hQ88
    have N88 := Fr.app N69 N88q
    refine ogoS st88 ?_
    show OWay p e below G T88 (mkF m 119 #[.val (.long q0), .second, .val (.int p1), .val (.long q2), .second, .val (.long q3), .second, .val (.long q4), .second, .val (.int p5), .val (.int (1 : Int32)), .val (.double v11_49), .second, .val (.ref b50), .val (.ref b56), .val (.ref b_71), .unset, .unset, .unset, .unset] [(.long q0)])
    refine ogo (fun _ z_ => XS.lloadN X88.here hx rfl (hb hby at_119) rfl z_) ?_
    show OWay p e below G T88 (mkF m 120 #[.val (.long q0), .second, .val (.int p1), .val (.long q2), .second, .val (.long q3), .second, .val (.long q4), .second, .val (.int p5), .val (.int (1 : Int32)), .val (.double v11_49), .second, .val (.ref b50), .val (.ref b56), .val (.ref b_71), .unset, .unset, .unset, .unset] [(.long q0), (.long q0)])
    refine ogo (fun _ z_ => XS.lcmp X88.here hx rfl (hb hby at_120) rfl z_) ?_
    show OWay p e below G T88 (mkF m 121 #[.val (.long q0), .second, .val (.int p1), .val (.long q2), .second, .val (.long q3), .second, .val (.long q4), .second, .val (.int p5), .val (.int (1 : Int32)), .val (.double v11_49), .second, .val (.ref b50), .val (.ref b56), .val (.ref b_71), .unset, .unset, .unset, .unset] [(.int (lcmpW q0 q0))])
    refine ogo (fun _ z_ => XS.ifNo X88.here hx rfl (hb hby at_121) rfl ((if0 _ _).trans (teq ((lw_eq _ _).mpr rfl)).2) z_) ?_
    show OWay p e below G T88 (mkF m 124 #[.val (.long q0), .second, .val (.int p1), .val (.long q2), .second, .val (.long q3), .second, .val (.long q4), .second, .val (.int p5), .val (.int (1 : Int32)), .val (.double v11_49), .second, .val (.ref b50), .val (.ref b56), .val (.ref b_71), .unset, .unset, .unset, .unset] [])
    refine ogo (fun _ z_ => XS.aload X88.here hx rfl (hb hby at_124) rfl rfl z_) ?_
    show OWay p e below G T88 (mkF m 126 #[.val (.long q0), .second, .val (.int p1), .val (.long q2), .second, .val (.long q3), .second, .val (.long q4), .second, .val (.int p5), .val (.int (1 : Int32)), .val (.double v11_49), .second, .val (.ref b50), .val (.ref b56), .val (.ref b_71), .unset, .unset, .unset, .unset] [(.ref b_71)])
    obtain ⟨_, T89, L89, X89, hQ89, st89⟩ := wVirtual X88 hx hZ (y := (⟨"com/example/sito/sito/Slice", "getBound", "()D"⟩ : MethodName)) (z := (⟨"com/example/sito/sito/Slice", "getBound", "()D"⟩ : MethodName)) hown (hw _ (List.mem_of_getElem? (i := 46) rfl)) (hw _ (List.mem_of_getElem? (i := 47) rfl)) (notFace_of_selects (args := #[]) (mvT hZ (hw _ (List.mem_of_getElem? (i := 49) rfl)))) (hw _ (List.mem_of_getElem? (i := 49) rfl)) (hw _ (List.mem_of_getElem? (i := 48) rfl)) (hw _ (List.mem_of_getElem? (i := 5) rfl)) (hw _ (List.mem_of_getElem? (i := 50) rfl)) (by decide) (get5_c l Z az hw [] b_71 v11_49 T69.heap n0 (Nat.le_trans (Nat.le_trans (Nat.le_trans (Nat.le_trans (Nat.le_trans Z0 E50.1) (Keep.of_wr W54).1) E56.1) Kq59.1) Kq69.1) P81) 0 (by decide) (by decide) P79 (g := (mkF m 126 #[.val (.long q0), .second, .val (.int p1), .val (.long q2), .second, .val (.long q3), .second, .val (.long q4), .second, .val (.int p5), .val (.int (1 : Int32)), .val (.double v11_49), .second, .val (.ref b50), .val (.ref b56), .val (.ref b_71), .unset, .unset, .unset, .unset] [(.ref b_71)])) rfl (by rw [hml]; rfl) (argsL := []) (rest := []) (lenOf pd___D rfl) rfl (by show 2 * 0 + _ ≤ _; exact Nat.le_of_eq rfl) (hb hby at_126) rfl eq88 (by decide) (by decide)
    obtain ⟨rfl, N89q, eq89⟩ := hQ89
    have N89 := Fr.app N88 N89q
    refine ogoS st89 ?_
    show OWay p e below G T89 (mkF m 129 #[.val (.long q0), .second, .val (.int p1), .val (.long q2), .second, .val (.long q3), .second, .val (.long q4), .second, .val (.int p5), .val (.int (1 : Int32)), .val (.double v11_49), .second, .val (.ref b50), .val (.ref b56), .val (.ref b_71), .unset, .unset, .unset, .unset] [(.double v11_49)])
    refine ogo (fun _ z_ => XS.dload X89.here hx rfl (hb hby at_129) rfl z_) ?_
    show OWay p e below G T89 (mkF m 131 #[.val (.long q0), .second, .val (.int p1), .val (.long q2), .second, .val (.long q3), .second, .val (.long q4), .second, .val (.int p5), .val (.int (1 : Int32)), .val (.double v11_49), .second, .val (.ref b50), .val (.ref b56), .val (.ref b_71), .unset, .unset, .unset, .unset] [(.double v11_49), (.double v11_49)])
    refine ogo (fun _ z_ => XS.dcmpS X89.here hx rfl (hb hby at_131) rfl rfl z_) ?_
    show OWay p e below G T89 (mkF m 132 #[.val (.long q0), .second, .val (.int p1), .val (.long q2), .second, .val (.long q3), .second, .val (.long q4), .second, .val (.int p5), .val (.int (1 : Int32)), .val (.double v11_49), .second, .val (.ref b50), .val (.ref b56), .val (.ref b_71), .unset, .unset, .unset, .unset] [(.int (cmpValue (FP.dcmp v11_49 v11_49) .l))])
    refine ogo (fun _ z_ => XS.ifNo X89.here hx rfl (hb hby at_132) rfl ((if0 _ _).trans (teq (dcmpV_self (by rw [hv11_49]; exact own_nn _) .l)).2) z_) ?_
    show OWay p e below G T89 (mkF m 135 #[.val (.long q0), .second, .val (.int p1), .val (.long q2), .second, .val (.long q3), .second, .val (.long q4), .second, .val (.int p5), .val (.int (1 : Int32)), .val (.double v11_49), .second, .val (.ref b50), .val (.ref b56), .val (.ref b_71), .unset, .unset, .unset, .unset] [])
    refine ogo (fun _ z_ => XS.aload X89.here hx rfl (hb hby at_135) rfl rfl z_) ?_
    show OWay p e below G T89 (mkF m 137 #[.val (.long q0), .second, .val (.int p1), .val (.long q2), .second, .val (.long q3), .second, .val (.long q4), .second, .val (.int p5), .val (.int (1 : Int32)), .val (.double v11_49), .second, .val (.ref b50), .val (.ref b56), .val (.ref b_71), .unset, .unset, .unset, .unset] [(.ref b_71)])
    obtain ⟨_, T90, L90, X90, hQ90, st90⟩ := wVirtual X89 hx hZ (y := (⟨"com/example/sito/sito/Slice", "getHashCount", "()I"⟩ : MethodName)) (z := (⟨"com/example/sito/sito/Slice", "getHashCount", "()I"⟩ : MethodName)) hown (hw _ (List.mem_of_getElem? (i := 51) rfl)) (hw _ (List.mem_of_getElem? (i := 52) rfl)) (notFace_of_selects (args := #[]) (mvT hZ (hw _ (List.mem_of_getElem? (i := 54) rfl)))) (hw _ (List.mem_of_getElem? (i := 54) rfl)) (hw _ (List.mem_of_getElem? (i := 53) rfl)) (hw _ (List.mem_of_getElem? (i := 5) rfl)) (hw _ (List.mem_of_getElem? (i := 55) rfl)) (by decide) (get6_c l Z az hw [] b_71 p1 T69.heap n0 (Nat.le_trans (Nat.le_trans (Nat.le_trans (Nat.le_trans (Nat.le_trans Z0 E50.1) (Keep.of_wr W54).1) E56.1) Kq59.1) Kq69.1) P82) 0 (by decide) (by decide) P79 (g := (mkF m 137 #[.val (.long q0), .second, .val (.int p1), .val (.long q2), .second, .val (.long q3), .second, .val (.long q4), .second, .val (.int p5), .val (.int (1 : Int32)), .val (.double v11_49), .second, .val (.ref b50), .val (.ref b56), .val (.ref b_71), .unset, .unset, .unset, .unset] [(.ref b_71)])) rfl (by rw [hml]; rfl) (argsL := []) (rest := []) (lenOf pd___I rfl) rfl (by show 2 * 0 + _ ≤ _; exact Nat.le_of_eq rfl) (hb hby at_137) rfl eq89 (by decide) (by decide)
    obtain ⟨rfl, N90q, eq90⟩ := hQ90
    have N90 := Fr.app N89 N90q
    refine ogoS st90 ?_
    show OWay p e below G T90 (mkF m 140 #[.val (.long q0), .second, .val (.int p1), .val (.long q2), .second, .val (.long q3), .second, .val (.long q4), .second, .val (.int p5), .val (.int (1 : Int32)), .val (.double v11_49), .second, .val (.ref b50), .val (.ref b56), .val (.ref b_71), .unset, .unset, .unset, .unset] [(.int p1)])
    refine ogo (fun _ z_ => XS.iloadN X90.here hx rfl (hb hby at_140) rfl z_) ?_
    show OWay p e below G T90 (mkF m 141 #[.val (.long q0), .second, .val (.int p1), .val (.long q2), .second, .val (.long q3), .second, .val (.long q4), .second, .val (.int p5), .val (.int (1 : Int32)), .val (.double v11_49), .second, .val (.ref b50), .val (.ref b56), .val (.ref b_71), .unset, .unset, .unset, .unset] [(.int p1), (.int p1)])
    refine ogo (fun _ z_ => XS.icmpNo X90.here hx rfl (hb hby at_141) rfl (teq rfl).2 z_) ?_
    show OWay p e below G T90 (mkF m 144 #[.val (.long q0), .second, .val (.int p1), .val (.long q2), .second, .val (.long q3), .second, .val (.long q4), .second, .val (.int p5), .val (.int (1 : Int32)), .val (.double v11_49), .second, .val (.ref b50), .val (.ref b56), .val (.ref b_71), .unset, .unset, .unset, .unset] [])
    refine ogo (fun _ z_ => XS.aload X90.here hx rfl (hb hby at_144) rfl rfl z_) ?_
    show OWay p e below G T90 (mkF m 146 #[.val (.long q0), .second, .val (.int p1), .val (.long q2), .second, .val (.long q3), .second, .val (.long q4), .second, .val (.int p5), .val (.int (1 : Int32)), .val (.double v11_49), .second, .val (.ref b50), .val (.ref b56), .val (.ref b_71), .unset, .unset, .unset, .unset] [(.ref b_71)])
    obtain ⟨_, T91, L91, X91, hQ91, st91⟩ := wVirtual X90 hx hZ (y := (⟨"com/example/sito/sito/Slice", "getBitCount", "()J"⟩ : MethodName)) (z := (⟨"com/example/sito/sito/Slice", "getBitCount", "()J"⟩ : MethodName)) hown (hw _ (List.mem_of_getElem? (i := 56) rfl)) (hw _ (List.mem_of_getElem? (i := 57) rfl)) (notFace_of_selects (args := #[]) (mvT hZ (hw _ (List.mem_of_getElem? (i := 59) rfl)))) (hw _ (List.mem_of_getElem? (i := 59) rfl)) (hw _ (List.mem_of_getElem? (i := 58) rfl)) (hw _ (List.mem_of_getElem? (i := 5) rfl)) (hw _ (List.mem_of_getElem? (i := 60) rfl)) (by decide) (get7_c l Z az hw [] b_71 (64 : Int64) T69.heap n0 (Nat.le_trans (Nat.le_trans (Nat.le_trans (Nat.le_trans (Nat.le_trans Z0 E50.1) (Keep.of_wr W54).1) E56.1) Kq59.1) Kq69.1) P83) 0 (by decide) (by decide) P79 (g := (mkF m 146 #[.val (.long q0), .second, .val (.int p1), .val (.long q2), .second, .val (.long q3), .second, .val (.long q4), .second, .val (.int p5), .val (.int (1 : Int32)), .val (.double v11_49), .second, .val (.ref b50), .val (.ref b56), .val (.ref b_71), .unset, .unset, .unset, .unset] [(.ref b_71)])) rfl (by rw [hml]; rfl) (argsL := []) (rest := []) (lenOf pd___J rfl) rfl (by show 2 * 0 + _ ≤ _; exact Nat.le_of_eq rfl) (hb hby at_146) rfl eq90 (by decide) (by decide)
    obtain ⟨rfl, N91q, eq91⟩ := hQ91
    have N91 := Fr.app N90 N91q
    refine ogoS st91 ?_
    show OWay p e below G T91 (mkF m 149 #[.val (.long q0), .second, .val (.int p1), .val (.long q2), .second, .val (.long q3), .second, .val (.long q4), .second, .val (.int p5), .val (.int (1 : Int32)), .val (.double v11_49), .second, .val (.ref b50), .val (.ref b56), .val (.ref b_71), .unset, .unset, .unset, .unset] [(.long (64 : Int64))])
    refine ogo (fun _ z_ => X91.ldc2Long hx hown (mvT hZ (hw _ (List.mem_of_getElem? (i := 61) rfl))) (g := (mkF m 149 #[.val (.long q0), .second, .val (.int p1), .val (.long q2), .second, .val (.long q3), .second, .val (.long q4), .second, .val (.int p5), .val (.int (1 : Int32)), .val (.double v11_49), .second, .val (.ref b50), .val (.ref b56), .val (.ref b_71), .unset, .unset, .unset, .unset] [(.long (64 : Int64))])) rfl (hb hby at_149) _ z_) ?_
    show OWay p e below G T91 (mkF m 152 #[.val (.long q0), .second, .val (.int p1), .val (.long q2), .second, .val (.long q3), .second, .val (.long q4), .second, .val (.int p5), .val (.int (1 : Int32)), .val (.double v11_49), .second, .val (.ref b50), .val (.ref b56), .val (.ref b_71), .unset, .unset, .unset, .unset] [(.long (64 : Int64)), (.long (64 : Int64))])
    refine ogo (fun _ z_ => XS.iload X91.here hx rfl (hb hby at_152) rfl z_) ?_
    show OWay p e below G T91 (mkF m 154 #[.val (.long q0), .second, .val (.int p1), .val (.long q2), .second, .val (.long q3), .second, .val (.long q4), .second, .val (.int p5), .val (.int (1 : Int32)), .val (.double v11_49), .second, .val (.ref b50), .val (.ref b56), .val (.ref b_71), .unset, .unset, .unset, .unset] [(.int (1 : Int32)), (.long (64 : Int64)), (.long (64 : Int64))])
    refine ogo (fun _ z_ => XS.i2l X91.here hx rfl (hb hby at_154) rfl z_) ?_
    show OWay p e below G T91 (mkF m 155 #[.val (.long q0), .second, .val (.int p1), .val (.long q2), .second, .val (.long q3), .second, .val (.long q4), .second, .val (.int p5), .val (.int (1 : Int32)), .val (.double v11_49), .second, .val (.ref b50), .val (.ref b56), .val (.ref b_71), .unset, .unset, .unset, .unset] [(.long ((1 : Int32).toInt64)), (.long (64 : Int64)), (.long (64 : Int64))])
    refine ogoE (g' := (mkF m 155 #[.val (.long q0), .second, .val (.int p1), .val (.long q2), .second, .val (.long q3), .second, .val (.long q4), .second, .val (.int p5), .val (.int (1 : Int32)), .val (.double v11_49), .second, .val (.ref b50), .val (.ref b56), .val (.ref b_71), .unset, .unset, .unset, .unset] [(.long (1 : Int64)), (.long (64 : Int64)), (.long (64 : Int64))])) (by rw [show ((1 : Int32).toInt64) = (1 : Int64) from by decide]) ?_
    refine ogo (fun _ z_ => XS.lmul X91.here hx rfl (hb hby at_155) rfl z_) ?_
    show OWay p e below G T91 (mkF m 156 #[.val (.long q0), .second, .val (.int p1), .val (.long q2), .second, .val (.long q3), .second, .val (.long q4), .second, .val (.int p5), .val (.int (1 : Int32)), .val (.double v11_49), .second, .val (.ref b50), .val (.ref b56), .val (.ref b_71), .unset, .unset, .unset, .unset] [(.long ((64 : Int64) * (1 : Int64))), (.long (64 : Int64))])
    refine ogoE (g' := (mkF m 156 #[.val (.long q0), .second, .val (.int p1), .val (.long q2), .second, .val (.long q3), .second, .val (.long q4), .second, .val (.int p5), .val (.int (1 : Int32)), .val (.double v11_49), .second, .val (.ref b50), .val (.ref b56), .val (.ref b_71), .unset, .unset, .unset, .unset] [(.long (64 : Int64)), (.long (64 : Int64))])) (by rw [show ((64 : Int64) * (1 : Int64)) = (64 : Int64) from by decide]) ?_
    refine ogo (fun _ z_ => XS.lcmp X91.here hx rfl (hb hby at_156) rfl z_) ?_
    show OWay p e below G T91 (mkF m 157 #[.val (.long q0), .second, .val (.int p1), .val (.long q2), .second, .val (.long q3), .second, .val (.long q4), .second, .val (.int p5), .val (.int (1 : Int32)), .val (.double v11_49), .second, .val (.ref b50), .val (.ref b56), .val (.ref b_71), .unset, .unset, .unset, .unset] [(.int (lcmpW (64 : Int64) (64 : Int64)))])
    refine ogo (fun _ z_ => XS.ifNo X91.here hx rfl (hb hby at_157) rfl ((if0 _ _).trans (teq ((lw_eq _ _).mpr rfl)).2) z_) ?_
    show OWay p e below G T91 (mkF m 160 #[.val (.long q0), .second, .val (.int p1), .val (.long q2), .second, .val (.long q3), .second, .val (.long q4), .second, .val (.int p5), .val (.int (1 : Int32)), .val (.double v11_49), .second, .val (.ref b50), .val (.ref b56), .val (.ref b_71), .unset, .unset, .unset, .unset] [])
    refine ogo (fun _ z_ => XS.aload X91.here hx rfl (hb hby at_160) rfl rfl z_) ?_
    show OWay p e below G T91 (mkF m 162 #[.val (.long q0), .second, .val (.int p1), .val (.long q2), .second, .val (.long q3), .second, .val (.long q4), .second, .val (.int p5), .val (.int (1 : Int32)), .val (.double v11_49), .second, .val (.ref b50), .val (.ref b56), .val (.ref b_71), .unset, .unset, .unset, .unset] [(.ref b_71)])
    obtain ⟨_, T92, L92, X92, hQ92, st92⟩ := wVirtual X91 hx hZ (y := (⟨"com/example/sito/sito/Slice", "getItems", "()J"⟩ : MethodName)) (z := (⟨"com/example/sito/sito/Slice", "getItems", "()J"⟩ : MethodName)) hown (hw _ (List.mem_of_getElem? (i := 62) rfl)) (hw _ (List.mem_of_getElem? (i := 63) rfl)) (notFace_of_selects (args := #[]) (mvT hZ (hw _ (List.mem_of_getElem? (i := 65) rfl)))) (hw _ (List.mem_of_getElem? (i := 65) rfl)) (hw _ (List.mem_of_getElem? (i := 64) rfl)) (hw _ (List.mem_of_getElem? (i := 5) rfl)) (hw _ (List.mem_of_getElem? (i := 66) rfl)) (by decide) (get8_c l Z az hw [] b_71 q4 T69.heap n0 (Nat.le_trans (Nat.le_trans (Nat.le_trans (Nat.le_trans (Nat.le_trans Z0 E50.1) (Keep.of_wr W54).1) E56.1) Kq59.1) Kq69.1) P85) 0 (by decide) (by decide) P79 (g := (mkF m 162 #[.val (.long q0), .second, .val (.int p1), .val (.long q2), .second, .val (.long q3), .second, .val (.long q4), .second, .val (.int p5), .val (.int (1 : Int32)), .val (.double v11_49), .second, .val (.ref b50), .val (.ref b56), .val (.ref b_71), .unset, .unset, .unset, .unset] [(.ref b_71)])) rfl (by rw [hml]; rfl) (argsL := []) (rest := []) (lenOf pd___J rfl) rfl (by show 2 * 0 + _ ≤ _; exact Nat.le_of_eq rfl) (hb hby at_162) rfl eq91 (by decide) (by decide)
    obtain ⟨rfl, N92q, eq92⟩ := hQ92
    have N92 := Fr.app N91 N92q
    refine ogoS st92 ?_
    show OWay p e below G T92 (mkF m 165 #[.val (.long q0), .second, .val (.int p1), .val (.long q2), .second, .val (.long q3), .second, .val (.long q4), .second, .val (.int p5), .val (.int (1 : Int32)), .val (.double v11_49), .second, .val (.ref b50), .val (.ref b56), .val (.ref b_71), .unset, .unset, .unset, .unset] [(.long q4)])
    refine ogo (fun _ z_ => XS.lload X92.here hx rfl (hb hby at_165) rfl z_) ?_
    show OWay p e below G T92 (mkF m 167 #[.val (.long q0), .second, .val (.int p1), .val (.long q2), .second, .val (.long q3), .second, .val (.long q4), .second, .val (.int p5), .val (.int (1 : Int32)), .val (.double v11_49), .second, .val (.ref b50), .val (.ref b56), .val (.ref b_71), .unset, .unset, .unset, .unset] [(.long q4), (.long q4)])
    refine ogo (fun _ z_ => XS.lcmp X92.here hx rfl (hb hby at_167) rfl z_) ?_
    show OWay p e below G T92 (mkF m 168 #[.val (.long q0), .second, .val (.int p1), .val (.long q2), .second, .val (.long q3), .second, .val (.long q4), .second, .val (.int p5), .val (.int (1 : Int32)), .val (.double v11_49), .second, .val (.ref b50), .val (.ref b56), .val (.ref b_71), .unset, .unset, .unset, .unset] [(.int (lcmpW q4 q4))])
    refine ogo (fun _ z_ => XS.ifNo X92.here hx rfl (hb hby at_168) rfl ((if0 _ _).trans (teq ((lw_eq _ _).mpr rfl)).2) z_) ?_
    show OWay p e below G T92 (mkF m 171 #[.val (.long q0), .second, .val (.int p1), .val (.long q2), .second, .val (.long q3), .second, .val (.long q4), .second, .val (.int p5), .val (.int (1 : Int32)), .val (.double v11_49), .second, .val (.ref b50), .val (.ref b56), .val (.ref b_71), .unset, .unset, .unset, .unset] [])
    refine ogo (fun _ z_ => XS.iconst X92.here hx rfl (hb hby at_171) z_) ?_
    show OWay p e below G T92 (mkF m 172 #[.val (.long q0), .second, .val (.int p1), .val (.long q2), .second, .val (.long q3), .second, .val (.long q4), .second, .val (.int p5), .val (.int (1 : Int32)), .val (.double v11_49), .second, .val (.ref b50), .val (.ref b56), .val (.ref b_71), .unset, .unset, .unset, .unset] [(.int (1 : Int32))])
    refine ogo (fun _ z_ => XS.goto X92.here hx rfl (pc0 := 172) (pc' := 176) rfl (hb hby at_172) (by decide) (by decide) z_) ?_
    show OWay p e below G T92 (mkF m 176 #[.val (.long q0), .second, .val (.int p1), .val (.long q2), .second, .val (.long q3), .second, .val (.long q4), .second, .val (.int p5), .val (.int (1 : Int32)), .val (.double v11_49), .second, .val (.ref b50), .val (.ref b56), .val (.ref b_71), .unset, .unset, .unset, .unset] [(.int (1 : Int32))])
    refine ogo (fun _ z_ => XS.istore X92.here hx rfl (hb hby at_176) rfl (l' := #[.val (.long q0), .second, .val (.int p1), .val (.long q2), .second, .val (.long q3), .second, .val (.long q4), .second, .val (.int p5), .val (.int (1 : Int32)), .val (.double v11_49), .second, .val (.ref b50), .val (.ref b56), .val (.ref b_71), .val (.int (1 : Int32)), .unset, .unset, .unset]) rfl z_) ?_
    show OWay p e below G T92 (mkF m 178 #[.val (.long q0), .second, .val (.int p1), .val (.long q2), .second, .val (.long q3), .second, .val (.long q4), .second, .val (.int p5), .val (.int (1 : Int32)), .val (.double v11_49), .second, .val (.ref b50), .val (.ref b56), .val (.ref b_71), .val (.int (1 : Int32)), .unset, .unset, .unset] [])
    refine ogo (fun _ z_ => XS.aload X92.here hx rfl (hb hby at_178) rfl rfl z_) ?_
    show OWay p e below G T92 (mkF m 180 #[.val (.long q0), .second, .val (.int p1), .val (.long q2), .second, .val (.long q3), .second, .val (.long q4), .second, .val (.int p5), .val (.int (1 : Int32)), .val (.double v11_49), .second, .val (.ref b50), .val (.ref b56), .val (.ref b_71), .val (.int (1 : Int32)), .unset, .unset, .unset] [(.ref b_71)])
    obtain ⟨_, T93, L93, X93, hQ93, st93⟩ := wVirtual X92 hx hZ (y := (⟨"com/example/sito/sito/Slice", "getWords", "()[J"⟩ : MethodName)) (z := (⟨"com/example/sito/sito/Slice", "getWords", "()[J"⟩ : MethodName)) hown (hw _ (List.mem_of_getElem? (i := 67) rfl)) (hw _ (List.mem_of_getElem? (i := 68) rfl)) (notFace_of_selects (args := #[]) (mvT hZ (hw _ (List.mem_of_getElem? (i := 70) rfl)))) (hw _ (List.mem_of_getElem? (i := 70) rfl)) (hw _ (List.mem_of_getElem? (i := 69) rfl)) (hw _ (List.mem_of_getElem? (i := 5) rfl)) (hw _ (List.mem_of_getElem? (i := 71) rfl)) (by decide) (get9_c l Z az hw [] b_71 c_72 T69.heap n0 (Nat.le_trans (Nat.le_trans (Nat.le_trans (Nat.le_trans (Nat.le_trans Z0 E50.1) (Keep.of_wr W54).1) E56.1) Kq59.1) Kq69.1) P84) 0 (by decide) (by decide) P79 (g := (mkF m 180 #[.val (.long q0), .second, .val (.int p1), .val (.long q2), .second, .val (.long q3), .second, .val (.long q4), .second, .val (.int p5), .val (.int (1 : Int32)), .val (.double v11_49), .second, .val (.ref b50), .val (.ref b56), .val (.ref b_71), .val (.int (1 : Int32)), .unset, .unset, .unset] [(.ref b_71)])) rfl (by rw [hml]; rfl) (argsL := []) (rest := []) (lenOf pd____J rfl) rfl (by show 2 * 0 + _ ≤ _; exact Nat.le_of_eq rfl) (hb hby at_180) rfl eq92 (by decide) (by decide)
    obtain ⟨rfl, N93q, eq93⟩ := hQ93
    have N93 := Fr.app N92 N93q
    refine ogoS st93 ?_
    show OWay p e below G T93 (mkF m 183 #[.val (.long q0), .second, .val (.int p1), .val (.long q2), .second, .val (.long q3), .second, .val (.long q4), .second, .val (.int p5), .val (.int (1 : Int32)), .val (.double v11_49), .second, .val (.ref b50), .val (.ref b56), .val (.ref b_71), .val (.int (1 : Int32)), .unset, .unset, .unset] [(.ref c_72)])
    refine ogo (fun _ z_ => XS.astore X93.here hx rfl (hb hby at_183) rfl rfl (l' := #[.val (.long q0), .second, .val (.int p1), .val (.long q2), .second, .val (.long q3), .second, .val (.long q4), .second, .val (.int p5), .val (.int (1 : Int32)), .val (.double v11_49), .second, .val (.ref b50), .val (.ref b56), .val (.ref b_71), .val (.int (1 : Int32)), .val (.ref c_72), .unset, .unset]) rfl z_) ?_
    show OWay p e below G T93 (mkF m 185 #[.val (.long q0), .second, .val (.int p1), .val (.long q2), .second, .val (.long q3), .second, .val (.long q4), .second, .val (.int p5), .val (.int (1 : Int32)), .val (.double v11_49), .second, .val (.ref b50), .val (.ref b56), .val (.ref b_71), .val (.int (1 : Int32)), .val (.ref c_72), .unset, .unset] [])
    refine ogo (fun _ z_ => XS.iload X93.here hx rfl (hb hby at_185) rfl z_) ?_
    show OWay p e below G T93 (mkF m 187 #[.val (.long q0), .second, .val (.int p1), .val (.long q2), .second, .val (.long q3), .second, .val (.long q4), .second, .val (.int p5), .val (.int (1 : Int32)), .val (.double v11_49), .second, .val (.ref b50), .val (.ref b56), .val (.ref b_71), .val (.int (1 : Int32)), .val (.ref c_72), .unset, .unset] [(.int (1 : Int32))])
    refine ogo (fun _ z_ => XS.ifNo X93.here hx rfl (hb hby at_187) rfl ((if0 _ _).trans (feq (by decide)).1) z_) ?_
    show OWay p e below G T93 (mkF m 190 #[.val (.long q0), .second, .val (.int p1), .val (.long q2), .second, .val (.long q3), .second, .val (.long q4), .second, .val (.int p5), .val (.int (1 : Int32)), .val (.double v11_49), .second, .val (.ref b50), .val (.ref b56), .val (.ref b_71), .val (.int (1 : Int32)), .val (.ref c_72), .unset, .unset] [])
    refine ogo (fun _ z_ => XS.aload X93.here hx rfl (hb hby at_190) rfl rfl z_) ?_
    show OWay p e below G T93 (mkF m 192 #[.val (.long q0), .second, .val (.int p1), .val (.long q2), .second, .val (.long q3), .second, .val (.long q4), .second, .val (.int p5), .val (.int (1 : Int32)), .val (.double v11_49), .second, .val (.ref b50), .val (.ref b56), .val (.ref b_71), .val (.int (1 : Int32)), .val (.ref c_72), .unset, .unset] [(.ref c_72)])
    refine ogo (fun _ z_ => XS.ifnullNo X93.here hx rfl (hb hby at_192) rfl z_) ?_
    show OWay p e below G T93 (mkF m 195 #[.val (.long q0), .second, .val (.int p1), .val (.long q2), .second, .val (.long q3), .second, .val (.long q4), .second, .val (.int p5), .val (.int (1 : Int32)), .val (.double v11_49), .second, .val (.ref b50), .val (.ref b56), .val (.ref b_71), .val (.int (1 : Int32)), .val (.ref c_72), .unset, .unset] [])
    refine ogo (fun _ z_ => XS.aload X93.here hx rfl (hb hby at_195) rfl rfl z_) ?_
    show OWay p e below G T93 (mkF m 197 #[.val (.long q0), .second, .val (.int p1), .val (.long q2), .second, .val (.long q3), .second, .val (.long q4), .second, .val (.int p5), .val (.int (1 : Int32)), .val (.double v11_49), .second, .val (.ref b50), .val (.ref b56), .val (.ref b_71), .val (.int (1 : Int32)), .val (.ref c_72), .unset, .unset] [(.ref c_72)])
    refine ogo (fun _ z_ => XS.aload X93.here hx rfl (hb hby at_197) rfl rfl z_) ?_
    show OWay p e below G T93 (mkF m 199 #[.val (.long q0), .second, .val (.int p1), .val (.long q2), .second, .val (.long q3), .second, .val (.long q4), .second, .val (.int p5), .val (.int (1 : Int32)), .val (.double v11_49), .second, .val (.ref b50), .val (.ref b56), .val (.ref b_71), .val (.int (1 : Int32)), .val (.ref c_72), .unset, .unset] [(.ref b50), (.ref c_72)])
    refine ogo (fun _ z_ => Jvm.RoadKit.acmp (g := (mkF m 199 #[.val (.long q0), .second, .val (.int p1), .val (.long q2), .second, .val (.long q3), .second, .val (.long q4), .second, .val (.int p5), .val (.int (1 : Int32)), .val (.double v11_49), .second, .val (.ref b50), .val (.ref b56), .val (.ref b_71), .val (.int (1 : Int32)), .val (.ref c_72), .unset, .unset] [(.ref b50), (.ref c_72)])) X93 hx rfl rfl rfl (pc0 := 199) (pc' := 202) (same := false) rfl (hb hby at_199) rfl (decide_eq_false fun q => (Ne.symm (Nat.ne_of_lt (Nat.lt_of_lt_of_le F67.lt P77))) (Value.ref.inj q)) (by decide) (by decide) z_) ?_
    show OWay p e below G T93 (mkF m 202 #[.val (.long q0), .second, .val (.int p1), .val (.long q2), .second, .val (.long q3), .second, .val (.long q4), .second, .val (.int p5), .val (.int (1 : Int32)), .val (.double v11_49), .second, .val (.ref b50), .val (.ref b56), .val (.ref b_71), .val (.int (1 : Int32)), .val (.ref c_72), .unset, .unset] [])
    refine ogo (fun _ z_ => XS.aload X93.here hx rfl (hb hby at_202) rfl rfl z_) ?_
    show OWay p e below G T93 (mkF m 204 #[.val (.long q0), .second, .val (.int p1), .val (.long q2), .second, .val (.long q3), .second, .val (.long q4), .second, .val (.int p5), .val (.int (1 : Int32)), .val (.double v11_49), .second, .val (.ref b50), .val (.ref b56), .val (.ref b_71), .val (.int (1 : Int32)), .val (.ref c_72), .unset, .unset] [(.ref c_72)])
    obtain ⟨cl_o94, Ar_o94, -, S_o94, N_o94, -, -⟩ := id P86
    refine ogo (fun _ z_ => X93.arraylength hx (by rw [eq93]; exact Ar_o94.1) (State.isArrayOf_alike hZ.alike Ar_o94.2.1) (g := (mkF m 204 #[.val (.long q0), .second, .val (.int p1), .val (.long q2), .second, .val (.long q3), .second, .val (.long q4), .second, .val (.int p5), .val (.int (1 : Int32)), .val (.double v11_49), .second, .val (.ref b50), .val (.ref b56), .val (.ref b_71), .val (.int (1 : Int32)), .val (.ref c_72), .unset, .unset] [(.ref c_72)])) rfl rfl (hb hby at_204) _ z_) ?_
    rw [len_of S_o94 N_o94]
    show OWay p e below G T93 (mkF m 205 #[.val (.long q0), .second, .val (.int p1), .val (.long q2), .second, .val (.long q3), .second, .val (.long q4), .second, .val (.int p5), .val (.int (1 : Int32)), .val (.double v11_49), .second, .val (.ref b50), .val (.ref b56), .val (.ref b_71), .val (.int (1 : Int32)), .val (.ref c_72), .unset, .unset] [(.int (1 : Int32))])
    refine ogo (fun _ z_ => XS.iload X93.here hx rfl (hb hby at_205) rfl z_) ?_
    show OWay p e below G T93 (mkF m 207 #[.val (.long q0), .second, .val (.int p1), .val (.long q2), .second, .val (.long q3), .second, .val (.long q4), .second, .val (.int p5), .val (.int (1 : Int32)), .val (.double v11_49), .second, .val (.ref b50), .val (.ref b56), .val (.ref b_71), .val (.int (1 : Int32)), .val (.ref c_72), .unset, .unset] [(.int (1 : Int32)), (.int (1 : Int32))])
    refine ogo (fun _ z_ => XS.icmpNo X93.here hx rfl (hb hby at_207) rfl (teq rfl).2 z_) ?_
    show OWay p e below G T93 (mkF m 210 #[.val (.long q0), .second, .val (.int p1), .val (.long q2), .second, .val (.long q3), .second, .val (.long q4), .second, .val (.int p5), .val (.int (1 : Int32)), .val (.double v11_49), .second, .val (.ref b50), .val (.ref b56), .val (.ref b_71), .val (.int (1 : Int32)), .val (.ref c_72), .unset, .unset] [])
    refine ogo (fun _ z_ => XS.iconst X93.here hx rfl (hb hby at_210) z_) ?_
    show OWay p e below G T93 (mkF m 211 #[.val (.long q0), .second, .val (.int p1), .val (.long q2), .second, .val (.long q3), .second, .val (.long q4), .second, .val (.int p5), .val (.int (1 : Int32)), .val (.double v11_49), .second, .val (.ref b50), .val (.ref b56), .val (.ref b_71), .val (.int (1 : Int32)), .val (.ref c_72), .unset, .unset] [(.int (1 : Int32))])
    refine ogo (fun _ z_ => XS.goto X93.here hx rfl (pc0 := 211) (pc' := 215) rfl (hb hby at_211) (by decide) (by decide) z_) ?_
    show OWay p e below G T93 (mkF m 215 #[.val (.long q0), .second, .val (.int p1), .val (.long q2), .second, .val (.long q3), .second, .val (.long q4), .second, .val (.int p5), .val (.int (1 : Int32)), .val (.double v11_49), .second, .val (.ref b50), .val (.ref b56), .val (.ref b_71), .val (.int (1 : Int32)), .val (.ref c_72), .unset, .unset] [(.int (1 : Int32))])
    refine ogo (fun _ z_ => XS.istore X93.here hx rfl (hb hby at_215) rfl (l' := #[.val (.long q0), .second, .val (.int p1), .val (.long q2), .second, .val (.long q3), .second, .val (.long q4), .second, .val (.int p5), .val (.int (1 : Int32)), .val (.double v11_49), .second, .val (.ref b50), .val (.ref b56), .val (.ref b_71), .val (.int (1 : Int32)), .val (.ref c_72), .unset, .unset]) rfl z_) ?_
    show OWay p e below G T93 (mkF m 217 #[.val (.long q0), .second, .val (.int p1), .val (.long q2), .second, .val (.long q3), .second, .val (.long q4), .second, .val (.int p5), .val (.int (1 : Int32)), .val (.double v11_49), .second, .val (.ref b50), .val (.ref b56), .val (.ref b_71), .val (.int (1 : Int32)), .val (.ref c_72), .unset, .unset] [])
    refine ogo (fun _ z_ => XS.iload X93.here hx rfl (hb hby at_217) rfl z_) ?_
    show OWay p e below G T93 (mkF m 219 #[.val (.long q0), .second, .val (.int p1), .val (.long q2), .second, .val (.long q3), .second, .val (.long q4), .second, .val (.int p5), .val (.int (1 : Int32)), .val (.double v11_49), .second, .val (.ref b50), .val (.ref b56), .val (.ref b_71), .val (.int (1 : Int32)), .val (.ref c_72), .unset, .unset] [(.int (1 : Int32))])
    refine ogo (fun _ z_ => XS.ifNo X93.here hx rfl (hb hby at_219) rfl ((if0 _ _).trans (feq (by decide)).1) z_) ?_
    show OWay p e below G T93 (mkF m 222 #[.val (.long q0), .second, .val (.int p1), .val (.long q2), .second, .val (.long q3), .second, .val (.long q4), .second, .val (.int p5), .val (.int (1 : Int32)), .val (.double v11_49), .second, .val (.ref b50), .val (.ref b56), .val (.ref b_71), .val (.int (1 : Int32)), .val (.ref c_72), .unset, .unset] [])
    refine ogo (fun _ z_ => XS.aload X93.here hx rfl (hb hby at_222) rfl rfl z_) ?_
    show OWay p e below G T93 (mkF m 224 #[.val (.long q0), .second, .val (.int p1), .val (.long q2), .second, .val (.long q3), .second, .val (.long q4), .second, .val (.int p5), .val (.int (1 : Int32)), .val (.double v11_49), .second, .val (.ref b50), .val (.ref b56), .val (.ref b_71), .val (.int (1 : Int32)), .val (.ref c_72), .unset, .unset] [(.ref b56)])
    have F95 : Fld Z T69.heap b56 "com/example/sito/sito/Slice" "words" "[J" (.ref b50) := (P64.keep Kq69 nin0)
    have F97 : Exa Z T69.heap b56 "com/example/sito/sito/Slice" := (F70.keep Kq69)
    obtain ⟨_, T96, L96, X96, hQ96, st96⟩ := wVirtual X93 hx hZ (y := (⟨"com/example/sito/sito/Slice", "getWords", "()[J"⟩ : MethodName)) (z := (⟨"com/example/sito/sito/Slice", "getWords", "()[J"⟩ : MethodName)) hown (hw _ (List.mem_of_getElem? (i := 67) rfl)) (hw _ (List.mem_of_getElem? (i := 68) rfl)) (notFace_of_selects (args := #[]) (mvT hZ (hw _ (List.mem_of_getElem? (i := 70) rfl)))) (hw _ (List.mem_of_getElem? (i := 70) rfl)) (hw _ (List.mem_of_getElem? (i := 69) rfl)) (hw _ (List.mem_of_getElem? (i := 5) rfl)) (hw _ (List.mem_of_getElem? (i := 71) rfl)) (by decide) (get9_c l Z az hw [] b56 b50 T69.heap n0 (Nat.le_trans (Nat.le_trans (Nat.le_trans (Nat.le_trans (Nat.le_trans Z0 E50.1) (Keep.of_wr W54).1) E56.1) Kq59.1) Kq69.1) F95) 0 (by decide) (by decide) F97 (g := (mkF m 224 #[.val (.long q0), .second, .val (.int p1), .val (.long q2), .second, .val (.long q3), .second, .val (.long q4), .second, .val (.int p5), .val (.int (1 : Int32)), .val (.double v11_49), .second, .val (.ref b50), .val (.ref b56), .val (.ref b_71), .val (.int (1 : Int32)), .val (.ref c_72), .unset, .unset] [(.ref b56)])) rfl (by rw [hml]; rfl) (argsL := []) (rest := []) (lenOf pd____J rfl) rfl (by show 2 * 0 + _ ≤ _; exact Nat.le_of_eq rfl) (hb hby at_224) rfl eq93 (by decide) (by decide)
    obtain ⟨rfl, N96q, eq96⟩ := hQ96
    have N96 := Fr.app N93 N96q
    refine ogoS st96 ?_
    show OWay p e below G T96 (mkF m 227 #[.val (.long q0), .second, .val (.int p1), .val (.long q2), .second, .val (.long q3), .second, .val (.long q4), .second, .val (.int p5), .val (.int (1 : Int32)), .val (.double v11_49), .second, .val (.ref b50), .val (.ref b56), .val (.ref b_71), .val (.int (1 : Int32)), .val (.ref c_72), .unset, .unset] [(.ref b50)])
    refine ogo (fun _ z_ => XS.aload X96.here hx rfl (hb hby at_227) rfl rfl z_) ?_
    show OWay p e below G T96 (mkF m 229 #[.val (.long q0), .second, .val (.int p1), .val (.long q2), .second, .val (.long q3), .second, .val (.long q4), .second, .val (.int p5), .val (.int (1 : Int32)), .val (.double v11_49), .second, .val (.ref b50), .val (.ref b56), .val (.ref b_71), .val (.int (1 : Int32)), .val (.ref c_72), .unset, .unset] [(.ref b50), (.ref b50)])
    refine ogo (fun _ z_ => Jvm.RoadKit.acmp (g := (mkF m 229 #[.val (.long q0), .second, .val (.int p1), .val (.long q2), .second, .val (.long q3), .second, .val (.long q4), .second, .val (.int p5), .val (.int (1 : Int32)), .val (.double v11_49), .second, .val (.ref b50), .val (.ref b56), .val (.ref b_71), .val (.int (1 : Int32)), .val (.ref c_72), .unset, .unset] [(.ref b50), (.ref b50)])) X96 hx rfl rfl rfl (pc0 := 229) (pc' := 232) (same := true) rfl (hb hby at_229) rfl (decide_eq_true rfl) (by decide) (by decide) z_) ?_
    show OWay p e below G T96 (mkF m 232 #[.val (.long q0), .second, .val (.int p1), .val (.long q2), .second, .val (.long q3), .second, .val (.long q4), .second, .val (.int p5), .val (.int (1 : Int32)), .val (.double v11_49), .second, .val (.ref b50), .val (.ref b56), .val (.ref b_71), .val (.int (1 : Int32)), .val (.ref c_72), .unset, .unset] [])
    refine ogo (fun _ z_ => XS.aload X96.here hx rfl (hb hby at_232) rfl rfl z_) ?_
    show OWay p e below G T96 (mkF m 234 #[.val (.long q0), .second, .val (.int p1), .val (.long q2), .second, .val (.long q3), .second, .val (.long q4), .second, .val (.int p5), .val (.int (1 : Int32)), .val (.double v11_49), .second, .val (.ref b50), .val (.ref b56), .val (.ref b_71), .val (.int (1 : Int32)), .val (.ref c_72), .unset, .unset] [(.ref b56)])
    have F98 : Fld Z T69.heap b56 "com/example/sito/sito/Slice" "items" "J" (.long q4) := (P65.keep Kq69 nin0)
    obtain ⟨_, T99, L99, X99, hQ99, st99⟩ := wVirtual X96 hx hZ (y := (⟨"com/example/sito/sito/Slice", "getItems", "()J"⟩ : MethodName)) (z := (⟨"com/example/sito/sito/Slice", "getItems", "()J"⟩ : MethodName)) hown (hw _ (List.mem_of_getElem? (i := 62) rfl)) (hw _ (List.mem_of_getElem? (i := 63) rfl)) (notFace_of_selects (args := #[]) (mvT hZ (hw _ (List.mem_of_getElem? (i := 65) rfl)))) (hw _ (List.mem_of_getElem? (i := 65) rfl)) (hw _ (List.mem_of_getElem? (i := 64) rfl)) (hw _ (List.mem_of_getElem? (i := 5) rfl)) (hw _ (List.mem_of_getElem? (i := 66) rfl)) (by decide) (get8_c l Z az hw [] b56 q4 T69.heap n0 (Nat.le_trans (Nat.le_trans (Nat.le_trans (Nat.le_trans (Nat.le_trans Z0 E50.1) (Keep.of_wr W54).1) E56.1) Kq59.1) Kq69.1) F98) 0 (by decide) (by decide) F97 (g := (mkF m 234 #[.val (.long q0), .second, .val (.int p1), .val (.long q2), .second, .val (.long q3), .second, .val (.long q4), .second, .val (.int p5), .val (.int (1 : Int32)), .val (.double v11_49), .second, .val (.ref b50), .val (.ref b56), .val (.ref b_71), .val (.int (1 : Int32)), .val (.ref c_72), .unset, .unset] [(.ref b56)])) rfl (by rw [hml]; rfl) (argsL := []) (rest := []) (lenOf pd___J rfl) rfl (by show 2 * 0 + _ ≤ _; exact Nat.le_of_eq rfl) (hb hby at_234) rfl eq96 (by decide) (by decide)
    obtain ⟨rfl, N99q, eq99⟩ := hQ99
    have N99 := Fr.app N96 N99q
    refine ogoS st99 ?_
    show OWay p e below G T99 (mkF m 237 #[.val (.long q0), .second, .val (.int p1), .val (.long q2), .second, .val (.long q3), .second, .val (.long q4), .second, .val (.int p5), .val (.int (1 : Int32)), .val (.double v11_49), .second, .val (.ref b50), .val (.ref b56), .val (.ref b_71), .val (.int (1 : Int32)), .val (.ref c_72), .unset, .unset] [(.long q4)])
    refine ogo (fun _ z_ => XS.lload X99.here hx rfl (hb hby at_237) rfl z_) ?_
    show OWay p e below G T99 (mkF m 239 #[.val (.long q0), .second, .val (.int p1), .val (.long q2), .second, .val (.long q3), .second, .val (.long q4), .second, .val (.int p5), .val (.int (1 : Int32)), .val (.double v11_49), .second, .val (.ref b50), .val (.ref b56), .val (.ref b_71), .val (.int (1 : Int32)), .val (.ref c_72), .unset, .unset] [(.long q4), (.long q4)])
    refine ogo (fun _ z_ => XS.lcmp X99.here hx rfl (hb hby at_239) rfl z_) ?_
    show OWay p e below G T99 (mkF m 240 #[.val (.long q0), .second, .val (.int p1), .val (.long q2), .second, .val (.long q3), .second, .val (.long q4), .second, .val (.int p5), .val (.int (1 : Int32)), .val (.double v11_49), .second, .val (.ref b50), .val (.ref b56), .val (.ref b_71), .val (.int (1 : Int32)), .val (.ref c_72), .unset, .unset] [(.int (lcmpW q4 q4))])
    refine ogo (fun _ z_ => XS.ifNo X99.here hx rfl (hb hby at_240) rfl ((if0 _ _).trans (teq ((lw_eq _ _).mpr rfl)).2) z_) ?_
    show OWay p e below G T99 (mkF m 243 #[.val (.long q0), .second, .val (.int p1), .val (.long q2), .second, .val (.long q3), .second, .val (.long q4), .second, .val (.int p5), .val (.int (1 : Int32)), .val (.double v11_49), .second, .val (.ref b50), .val (.ref b56), .val (.ref b_71), .val (.int (1 : Int32)), .val (.ref c_72), .unset, .unset] [])
    refine ogo (fun _ z_ => XS.iconst X99.here hx rfl (hb hby at_243) z_) ?_
    show OWay p e below G T99 (mkF m 244 #[.val (.long q0), .second, .val (.int p1), .val (.long q2), .second, .val (.long q3), .second, .val (.long q4), .second, .val (.int p5), .val (.int (1 : Int32)), .val (.double v11_49), .second, .val (.ref b50), .val (.ref b56), .val (.ref b_71), .val (.int (1 : Int32)), .val (.ref c_72), .unset, .unset] [(.int (1 : Int32))])
    refine ogo (fun _ z_ => XS.goto X99.here hx rfl (pc0 := 244) (pc' := 248) rfl (hb hby at_244) (by decide) (by decide) z_) ?_
    show OWay p e below G T99 (mkF m 248 #[.val (.long q0), .second, .val (.int p1), .val (.long q2), .second, .val (.long q3), .second, .val (.long q4), .second, .val (.int p5), .val (.int (1 : Int32)), .val (.double v11_49), .second, .val (.ref b50), .val (.ref b56), .val (.ref b_71), .val (.int (1 : Int32)), .val (.ref c_72), .unset, .unset] [(.int (1 : Int32))])
    refine ogo (fun _ z_ => XS.istore X99.here hx rfl (hb hby at_248) rfl (l' := #[.val (.long q0), .second, .val (.int p1), .val (.long q2), .second, .val (.long q3), .second, .val (.long q4), .second, .val (.int p5), .val (.int (1 : Int32)), .val (.double v11_49), .second, .val (.ref b50), .val (.ref b56), .val (.ref b_71), .val (.int (1 : Int32)), .val (.ref c_72), .unset, .unset]) rfl z_) ?_
    show OWay p e below G T99 (mkF m 250 #[.val (.long q0), .second, .val (.int p1), .val (.long q2), .second, .val (.long q3), .second, .val (.long q4), .second, .val (.int p5), .val (.int (1 : Int32)), .val (.double v11_49), .second, .val (.ref b50), .val (.ref b56), .val (.ref b_71), .val (.int (1 : Int32)), .val (.ref c_72), .unset, .unset] [])
    refine ogo (fun _ z_ => XS.iload X99.here hx rfl (hb hby at_250) rfl z_) ?_
    show OWay p e below G T99 (mkF m 252 #[.val (.long q0), .second, .val (.int p1), .val (.long q2), .second, .val (.long q3), .second, .val (.long q4), .second, .val (.int p5), .val (.int (1 : Int32)), .val (.double v11_49), .second, .val (.ref b50), .val (.ref b56), .val (.ref b_71), .val (.int (1 : Int32)), .val (.ref c_72), .unset, .unset] [(.int (1 : Int32))])
    refine ogo (fun _ z_ => XS.ifYes X99.here hx rfl (pc0 := 252) (pc' := 257) rfl (hb hby at_252) rfl ((if0 _ _).trans (feq (by decide)).2) (by decide) (by decide) z_) ?_
    show OWay p e below G T99 (mkF m 257 #[.val (.long q0), .second, .val (.int p1), .val (.long q2), .second, .val (.long q3), .second, .val (.long q4), .second, .val (.int p5), .val (.int (1 : Int32)), .val (.double v11_49), .second, .val (.ref b50), .val (.ref b56), .val (.ref b_71), .val (.int (1 : Int32)), .val (.ref c_72), .unset, .unset] [])
    refine ogo (fun _ z_ => XS.iload X99.here hx rfl (hb hby at_257) rfl z_) ?_
    show OWay p e below G T99 (mkF m 259 #[.val (.long q0), .second, .val (.int p1), .val (.long q2), .second, .val (.long q3), .second, .val (.long q4), .second, .val (.int p5), .val (.int (1 : Int32)), .val (.double v11_49), .second, .val (.ref b50), .val (.ref b56), .val (.ref b_71), .val (.int (1 : Int32)), .val (.ref c_72), .unset, .unset] [(.int (1 : Int32))])
    refine ogo (fun _ z_ => XS.ifNo X99.here hx rfl (hb hby at_259) rfl ((if0 _ _).trans (tlt (by decide)).2.2.2) z_) ?_
    show OWay p e below G T99 (mkF m 262 #[.val (.long q0), .second, .val (.int p1), .val (.long q2), .second, .val (.long q3), .second, .val (.long q4), .second, .val (.int p5), .val (.int (1 : Int32)), .val (.double v11_49), .second, .val (.ref b50), .val (.ref b56), .val (.ref b_71), .val (.int (1 : Int32)), .val (.ref c_72), .unset, .unset] [])
    refine ogo (fun _ z_ => XS.iload X99.here hx rfl (hb hby at_262) rfl z_) ?_
    show OWay p e below G T99 (mkF m 264 #[.val (.long q0), .second, .val (.int p1), .val (.long q2), .second, .val (.long q3), .second, .val (.long q4), .second, .val (.int p5), .val (.int (1 : Int32)), .val (.double v11_49), .second, .val (.ref b50), .val (.ref b56), .val (.ref b_71), .val (.int (1 : Int32)), .val (.ref c_72), .unset, .unset] [(.int (1 : Int32))])
    refine ogo (fun _ z_ => XS.ifNo X99.here hx rfl (hb hby at_264) rfl ((if0 _ _).trans (feq (by decide)).1) z_) ?_
    show OWay p e below G T99 (mkF m 267 #[.val (.long q0), .second, .val (.int p1), .val (.long q2), .second, .val (.long q3), .second, .val (.long q4), .second, .val (.int p5), .val (.int (1 : Int32)), .val (.double v11_49), .second, .val (.ref b50), .val (.ref b56), .val (.ref b_71), .val (.int (1 : Int32)), .val (.ref c_72), .unset, .unset] [])
    refine ogo (fun _ z_ => XS.aload X99.here hx rfl (hb hby at_267) rfl rfl z_) ?_
    show OWay p e below G T99 (mkF m 269 #[.val (.long q0), .second, .val (.int p1), .val (.long q2), .second, .val (.long q3), .second, .val (.long q4), .second, .val (.int p5), .val (.int (1 : Int32)), .val (.double v11_49), .second, .val (.ref b50), .val (.ref b56), .val (.ref b_71), .val (.int (1 : Int32)), .val (.ref c_72), .unset, .unset] [(.ref c_72)])
    refine ogo (fun _ z_ => XS.iconst X99.here hx rfl (hb hby at_269) z_) ?_
    show OWay p e below G T99 (mkF m 270 #[.val (.long q0), .second, .val (.int p1), .val (.long q2), .second, .val (.long q3), .second, .val (.long q4), .second, .val (.int p5), .val (.int (1 : Int32)), .val (.double v11_49), .second, .val (.ref b50), .val (.ref b56), .val (.ref b_71), .val (.int (1 : Int32)), .val (.ref c_72), .unset, .unset] [(.int (0 : Int32)), (.ref c_72)])
    obtain ⟨cl_o100, Ar_o100, q_o100, S_o100, N_o100, H_o100, G_o100⟩ := id P86
    have hin_o100 : ¬ ((0 : Int32) < 0 ∨ cl_o100.slots.size ≤ ((0 : Int32)).toNatClampNeg) := inb_of S_o100 ⟨by decide, by decide⟩
    have hat_o100 : cl_o100.slots[((0 : Int32)).toNatClampNeg]? = some (.long q2) := H_o100.at hin_o100 rfl
    refine ogo (fun _ z_ => X99.laload hx (j := (0 : Int32)) (v := (.long q2)) (by rw [eq99]; exact Ar_o100.1) (State.isArrayOf_alike hZ.alike Ar_o100.2.1) Ar_o100.2.2 hin_o100 hat_o100 (g := (mkF m 270 #[.val (.long q0), .second, .val (.int p1), .val (.long q2), .second, .val (.long q3), .second, .val (.long q4), .second, .val (.int p5), .val (.int (1 : Int32)), .val (.double v11_49), .second, .val (.ref b50), .val (.ref b56), .val (.ref b_71), .val (.int (1 : Int32)), .val (.ref c_72), .unset, .unset] [(.int (0 : Int32)), (.ref c_72)])) rfl rfl (hb hby at_270) _ z_) ?_
    show OWay p e below G T99 (mkF m 271 #[.val (.long q0), .second, .val (.int p1), .val (.long q2), .second, .val (.long q3), .second, .val (.long q4), .second, .val (.int p5), .val (.int (1 : Int32)), .val (.double v11_49), .second, .val (.ref b50), .val (.ref b56), .val (.ref b_71), .val (.int (1 : Int32)), .val (.ref c_72), .unset, .unset] [(.long q2)])
    refine ogo (fun _ z_ => XS.iconst X99.here hx rfl (hb hby at_271) z_) ?_
    show OWay p e below G T99 (mkF m 272 #[.val (.long q0), .second, .val (.int p1), .val (.long q2), .second, .val (.long q3), .second, .val (.long q4), .second, .val (.int p5), .val (.int (1 : Int32)), .val (.double v11_49), .second, .val (.ref b50), .val (.ref b56), .val (.ref b_71), .val (.int (1 : Int32)), .val (.ref c_72), .unset, .unset] [(.int (0 : Int32)), (.long q2)])
    refine ogo (fun _ z_ => XS.lloadN X99.here hx rfl (hb hby at_272) rfl z_) ?_
    show OWay p e below G T99 (mkF m 273 #[.val (.long q0), .second, .val (.int p1), .val (.long q2), .second, .val (.long q3), .second, .val (.long q4), .second, .val (.int p5), .val (.int (1 : Int32)), .val (.double v11_49), .second, .val (.ref b50), .val (.ref b56), .val (.ref b_71), .val (.int (1 : Int32)), .val (.ref c_72), .unset, .unset] [(.long q2), (.int (0 : Int32)), (.long q2)])
    refine ogo (fun _ z_ => XS.lload X99.here hx rfl (hb hby at_273) rfl z_) ?_
    show OWay p e below G T99 (mkF m 275 #[.val (.long q0), .second, .val (.int p1), .val (.long q2), .second, .val (.long q3), .second, .val (.long q4), .second, .val (.int p5), .val (.int (1 : Int32)), .val (.double v11_49), .second, .val (.ref b50), .val (.ref b56), .val (.ref b_71), .val (.int (1 : Int32)), .val (.ref c_72), .unset, .unset] [(.long q3), (.long q2), (.int (0 : Int32)), (.long q2)])
    obtain ⟨_, T101, L101, X101, hQ101, st101⟩ := wStatic X99 hx hZ (y := (⟨"com/example/sito/sito/SliceCopyPinLaw", "expected", "(IJJ)J"⟩ : MethodName)) hown (hw _ (List.mem_of_getElem? (i := 72) rfl)) (hw _ (List.mem_of_getElem? (i := 73) rfl)) (hw _ (List.mem_of_getElem? (i := 74) rfl)) (hw _ (List.mem_of_getElem? (i := 75) rfl)) (by decide) (exp0_c l Z az hw [] q2 q3 T69.heap n0 (Nat.le_trans (Nat.le_trans (Nat.le_trans (Nat.le_trans (Nat.le_trans Z0 E50.1) (Keep.of_wr W54).1) E56.1) Kq59.1) Kq69.1)) 2 (by decide) (by decide) (g := (mkF m 275 #[.val (.long q0), .second, .val (.int p1), .val (.long q2), .second, .val (.long q3), .second, .val (.long q4), .second, .val (.int p5), .val (.int (1 : Int32)), .val (.double v11_49), .second, .val (.ref b50), .val (.ref b56), .val (.ref b_71), .val (.int (1 : Int32)), .val (.ref c_72), .unset, .unset] [(.long q3), (.long q2), (.int (0 : Int32)), (.long q2)])) rfl (by rw [hml]; rfl) (argsL := [(.int (0 : Int32)), (.long q2), (.long q3)]) (rest := [(.long q2)]) (lenOf pd__IJJ_J rfl) rfl (by show 2 * 0 + _ ≤ _; exact Nat.le_of_eq rfl) (hb hby at_275) rfl eq99 (by decide) (by decide)
    obtain ⟨rfl, N101q, eq101⟩ := hQ101
    have N101 := Fr.app N99 N101q
    refine ogo st101 ?_
    show OWay p e below G T101 (mkF m 278 #[.val (.long q0), .second, .val (.int p1), .val (.long q2), .second, .val (.long q3), .second, .val (.long q4), .second, .val (.int p5), .val (.int (1 : Int32)), .val (.double v11_49), .second, .val (.ref b50), .val (.ref b56), .val (.ref b_71), .val (.int (1 : Int32)), .val (.ref c_72), .unset, .unset] [(.long q2), (.long q2)])
    refine ogo (fun _ z_ => XS.lcmp X101.here hx rfl (hb hby at_278) rfl z_) ?_
    show OWay p e below G T101 (mkF m 279 #[.val (.long q0), .second, .val (.int p1), .val (.long q2), .second, .val (.long q3), .second, .val (.long q4), .second, .val (.int p5), .val (.int (1 : Int32)), .val (.double v11_49), .second, .val (.ref b50), .val (.ref b56), .val (.ref b_71), .val (.int (1 : Int32)), .val (.ref c_72), .unset, .unset] [(.int (lcmpW q2 q2))])
    refine ogo (fun _ z_ => XS.ifNo X101.here hx rfl (hb hby at_279) rfl ((if0 _ _).trans (teq ((lw_eq _ _).mpr rfl)).2) z_) ?_
    show OWay p e below G T101 (mkF m 282 #[.val (.long q0), .second, .val (.int p1), .val (.long q2), .second, .val (.long q3), .second, .val (.long q4), .second, .val (.int p5), .val (.int (1 : Int32)), .val (.double v11_49), .second, .val (.ref b50), .val (.ref b56), .val (.ref b_71), .val (.int (1 : Int32)), .val (.ref c_72), .unset, .unset] [])
    refine ogo (fun _ z_ => XS.iconst X101.here hx rfl (hb hby at_282) z_) ?_
    show OWay p e below G T101 (mkF m 283 #[.val (.long q0), .second, .val (.int p1), .val (.long q2), .second, .val (.long q3), .second, .val (.long q4), .second, .val (.int p5), .val (.int (1 : Int32)), .val (.double v11_49), .second, .val (.ref b50), .val (.ref b56), .val (.ref b_71), .val (.int (1 : Int32)), .val (.ref c_72), .unset, .unset] [(.int (1 : Int32))])
    refine ogo (fun _ z_ => XS.goto X101.here hx rfl (pc0 := 283) (pc' := 287) rfl (hb hby at_283) (by decide) (by decide) z_) ?_
    show OWay p e below G T101 (mkF m 287 #[.val (.long q0), .second, .val (.int p1), .val (.long q2), .second, .val (.long q3), .second, .val (.long q4), .second, .val (.int p5), .val (.int (1 : Int32)), .val (.double v11_49), .second, .val (.ref b50), .val (.ref b56), .val (.ref b_71), .val (.int (1 : Int32)), .val (.ref c_72), .unset, .unset] [(.int (1 : Int32))])
    refine ogo (fun _ z_ => XS.istore X101.here hx rfl (hb hby at_287) rfl (l' := #[.val (.long q0), .second, .val (.int p1), .val (.long q2), .second, .val (.long q3), .second, .val (.long q4), .second, .val (.int p5), .val (.int (1 : Int32)), .val (.double v11_49), .second, .val (.ref b50), .val (.ref b56), .val (.ref b_71), .val (.int (1 : Int32)), .val (.ref c_72), .unset, .unset]) rfl z_) ?_
    show OWay p e below G T101 (mkF m 289 #[.val (.long q0), .second, .val (.int p1), .val (.long q2), .second, .val (.long q3), .second, .val (.long q4), .second, .val (.int p5), .val (.int (1 : Int32)), .val (.double v11_49), .second, .val (.ref b50), .val (.ref b56), .val (.ref b_71), .val (.int (1 : Int32)), .val (.ref c_72), .unset, .unset] [])
    refine ogo (fun _ z_ => XS.iload X101.here hx rfl (hb hby at_289) rfl z_) ?_
    show OWay p e below G T101 (mkF m 291 #[.val (.long q0), .second, .val (.int p1), .val (.long q2), .second, .val (.long q3), .second, .val (.long q4), .second, .val (.int p5), .val (.int (1 : Int32)), .val (.double v11_49), .second, .val (.ref b50), .val (.ref b56), .val (.ref b_71), .val (.int (1 : Int32)), .val (.ref c_72), .unset, .unset] [(.int (1 : Int32))])
    refine ogo (fun _ z_ => XS.iconst X101.here hx rfl (hb hby at_291) z_) ?_
    show OWay p e below G T101 (mkF m 292 #[.val (.long q0), .second, .val (.int p1), .val (.long q2), .second, .val (.long q3), .second, .val (.long q4), .second, .val (.int p5), .val (.int (1 : Int32)), .val (.double v11_49), .second, .val (.ref b50), .val (.ref b56), .val (.ref b_71), .val (.int (1 : Int32)), .val (.ref c_72), .unset, .unset] [(.int (1 : Int32)), (.int (1 : Int32))])
    refine ogo (fun _ z_ => XS.icmpYes X101.here hx rfl (pc0 := 292) (pc' := 322) rfl (hb hby at_292) rfl (flt (by decide)).2.2.2 (by decide) (by decide) z_) ?_
    show OWay p e below G T101 (mkF m 322 #[.val (.long q0), .second, .val (.int p1), .val (.long q2), .second, .val (.long q3), .second, .val (.long q4), .second, .val (.int p5), .val (.int (1 : Int32)), .val (.double v11_49), .second, .val (.ref b50), .val (.ref b56), .val (.ref b_71), .val (.int (1 : Int32)), .val (.ref c_72), .unset, .unset] [])
    refine ogo (fun _ z_ => XS.iload X101.here hx rfl (hb hby at_322) rfl z_) ?_
    show OWay p e below G T101 (mkF m 324 #[.val (.long q0), .second, .val (.int p1), .val (.long q2), .second, .val (.long q3), .second, .val (.long q4), .second, .val (.int p5), .val (.int (1 : Int32)), .val (.double v11_49), .second, .val (.ref b50), .val (.ref b56), .val (.ref b_71), .val (.int (1 : Int32)), .val (.ref c_72), .unset, .unset] [(.int (1 : Int32))])
    refine ogo (fun _ z_ => XS.iconst X101.here hx rfl (hb hby at_324) z_) ?_
    show OWay p e below G T101 (mkF m 325 #[.val (.long q0), .second, .val (.int p1), .val (.long q2), .second, .val (.long q3), .second, .val (.long q4), .second, .val (.int p5), .val (.int (1 : Int32)), .val (.double v11_49), .second, .val (.ref b50), .val (.ref b56), .val (.ref b_71), .val (.int (1 : Int32)), .val (.ref c_72), .unset, .unset] [(.int (2 : Int32)), (.int (1 : Int32))])
    refine ogo (fun _ z_ => XS.icmpYes X101.here hx rfl (pc0 := 325) (pc' := 355) rfl (hb hby at_325) rfl (flt (by decide)).2.2.2 (by decide) (by decide) z_) ?_
    show OWay p e below G T101 (mkF m 355 #[.val (.long q0), .second, .val (.int p1), .val (.long q2), .second, .val (.long q3), .second, .val (.long q4), .second, .val (.int p5), .val (.int (1 : Int32)), .val (.double v11_49), .second, .val (.ref b50), .val (.ref b56), .val (.ref b_71), .val (.int (1 : Int32)), .val (.ref c_72), .unset, .unset] [])
    refine ogo (fun _ z_ => XS.iload X101.here hx rfl (hb hby at_355) rfl z_) ?_
    show OWay p e below G T101 (mkF m 357 #[.val (.long q0), .second, .val (.int p1), .val (.long q2), .second, .val (.long q3), .second, .val (.long q4), .second, .val (.int p5), .val (.int (1 : Int32)), .val (.double v11_49), .second, .val (.ref b50), .val (.ref b56), .val (.ref b_71), .val (.int (1 : Int32)), .val (.ref c_72), .unset, .unset] [(.int (1 : Int32))])
    refine ogo (fun _ z_ => XS.ifNo X101.here hx rfl (hb hby at_357) rfl ((if0 _ _).trans (feq (by decide)).1) z_) ?_
    show OWay p e below G T101 (mkF m 360 #[.val (.long q0), .second, .val (.int p1), .val (.long q2), .second, .val (.long q3), .second, .val (.long q4), .second, .val (.int p5), .val (.int (1 : Int32)), .val (.double v11_49), .second, .val (.ref b50), .val (.ref b56), .val (.ref b_71), .val (.int (1 : Int32)), .val (.ref c_72), .unset, .unset] [])
    refine ogo (fun _ z_ => XS.iload X101.here hx rfl (hb hby at_360) rfl z_) ?_
    show OWay p e below G T101 (mkF m 362 #[.val (.long q0), .second, .val (.int p1), .val (.long q2), .second, .val (.long q3), .second, .val (.long q4), .second, .val (.int p5), .val (.int (1 : Int32)), .val (.double v11_49), .second, .val (.ref b50), .val (.ref b56), .val (.ref b_71), .val (.int (1 : Int32)), .val (.ref c_72), .unset, .unset] [(.int (1 : Int32))])
    refine ogo (fun _ z_ => XS.ifNo X101.here hx rfl (hb hby at_362) rfl ((if0 _ _).trans (tlt (by decide)).2.2.2) z_) ?_
    show OWay p e below G T101 (mkF m 365 #[.val (.long q0), .second, .val (.int p1), .val (.long q2), .second, .val (.long q3), .second, .val (.long q4), .second, .val (.int p5), .val (.int (1 : Int32)), .val (.double v11_49), .second, .val (.ref b50), .val (.ref b56), .val (.ref b_71), .val (.int (1 : Int32)), .val (.ref c_72), .unset, .unset] [])
    refine ogo (fun _ z_ => XS.aload X101.here hx rfl (hb hby at_365) rfl rfl z_) ?_
    show OWay p e below G T101 (mkF m 367 #[.val (.long q0), .second, .val (.int p1), .val (.long q2), .second, .val (.long q3), .second, .val (.long q4), .second, .val (.int p5), .val (.int (1 : Int32)), .val (.double v11_49), .second, .val (.ref b50), .val (.ref b56), .val (.ref b_71), .val (.int (1 : Int32)), .val (.ref c_72), .unset, .unset] [(.ref c_72)])
    refine ogo (fun _ z_ => XS.iconst X101.here hx rfl (hb hby at_367) z_) ?_
    show OWay p e below G T101 (mkF m 368 #[.val (.long q0), .second, .val (.int p1), .val (.long q2), .second, .val (.long q3), .second, .val (.long q4), .second, .val (.int p5), .val (.int (1 : Int32)), .val (.double v11_49), .second, .val (.ref b50), .val (.ref b56), .val (.ref b_71), .val (.int (1 : Int32)), .val (.ref c_72), .unset, .unset] [(.int (0 : Int32)), (.ref c_72)])
    refine ogo (fun _ z_ => XS.aload X101.here hx rfl (hb hby at_368) rfl rfl z_) ?_
    show OWay p e below G T101 (mkF m 370 #[.val (.long q0), .second, .val (.int p1), .val (.long q2), .second, .val (.long q3), .second, .val (.long q4), .second, .val (.int p5), .val (.int (1 : Int32)), .val (.double v11_49), .second, .val (.ref b50), .val (.ref b56), .val (.ref b_71), .val (.int (1 : Int32)), .val (.ref c_72), .unset, .unset] [(.ref c_72), (.int (0 : Int32)), (.ref c_72)])
    refine ogo (fun _ z_ => XS.iconst X101.here hx rfl (hb hby at_370) z_) ?_
    show OWay p e below G T101 (mkF m 371 #[.val (.long q0), .second, .val (.int p1), .val (.long q2), .second, .val (.long q3), .second, .val (.long q4), .second, .val (.int p5), .val (.int (1 : Int32)), .val (.double v11_49), .second, .val (.ref b50), .val (.ref b56), .val (.ref b_71), .val (.int (1 : Int32)), .val (.ref c_72), .unset, .unset] [(.int (0 : Int32)), (.ref c_72), (.int (0 : Int32)), (.ref c_72)])
    obtain ⟨cl_o102, Ar_o102, q_o102, S_o102, N_o102, H_o102, G_o102⟩ := id P86
    have hin_o102 : ¬ ((0 : Int32) < 0 ∨ cl_o102.slots.size ≤ ((0 : Int32)).toNatClampNeg) := inb_of S_o102 ⟨by decide, by decide⟩
    have hat_o102 : cl_o102.slots[((0 : Int32)).toNatClampNeg]? = some (.long q2) := H_o102.at hin_o102 rfl
    refine ogo (fun _ z_ => X101.laload hx (j := (0 : Int32)) (v := (.long q2)) (by rw [eq101]; exact Ar_o102.1) (State.isArrayOf_alike hZ.alike Ar_o102.2.1) Ar_o102.2.2 hin_o102 hat_o102 (g := (mkF m 371 #[.val (.long q0), .second, .val (.int p1), .val (.long q2), .second, .val (.long q3), .second, .val (.long q4), .second, .val (.int p5), .val (.int (1 : Int32)), .val (.double v11_49), .second, .val (.ref b50), .val (.ref b56), .val (.ref b_71), .val (.int (1 : Int32)), .val (.ref c_72), .unset, .unset] [(.int (0 : Int32)), (.ref c_72), (.int (0 : Int32)), (.ref c_72)])) rfl rfl (hb hby at_371) _ z_) ?_
    show OWay p e below G T101 (mkF m 372 #[.val (.long q0), .second, .val (.int p1), .val (.long q2), .second, .val (.long q3), .second, .val (.long q4), .second, .val (.int p5), .val (.int (1 : Int32)), .val (.double v11_49), .second, .val (.ref b50), .val (.ref b56), .val (.ref b_71), .val (.int (1 : Int32)), .val (.ref c_72), .unset, .unset] [(.long q2), (.int (0 : Int32)), (.ref c_72)])
    refine ogo (fun _ z_ => X101.ldc2Long hx hown (mvT hZ (hw _ (List.mem_of_getElem? (i := 76) rfl))) (g := (mkF m 372 #[.val (.long q0), .second, .val (.int p1), .val (.long q2), .second, .val (.long q3), .second, .val (.long q4), .second, .val (.int p5), .val (.int (1 : Int32)), .val (.double v11_49), .second, .val (.ref b50), .val (.ref b56), .val (.ref b_71), .val (.int (1 : Int32)), .val (.ref c_72), .unset, .unset] [(.long q2), (.int (0 : Int32)), (.ref c_72)])) rfl (hb hby at_372) _ z_) ?_
    show OWay p e below G T101 (mkF m 375 #[.val (.long q0), .second, .val (.int p1), .val (.long q2), .second, .val (.long q3), .second, .val (.long q4), .second, .val (.int p5), .val (.int (1 : Int32)), .val (.double v11_49), .second, .val (.ref b50), .val (.ref b56), .val (.ref b_71), .val (.int (1 : Int32)), .val (.ref c_72), .unset, .unset] [(.long (-1 : Int64)), (.long q2), (.int (0 : Int32)), (.ref c_72)])
    refine ogo (fun _ z_ => XS.lxor X101.here hx rfl (hb hby at_375) rfl z_) ?_
    show OWay p e below G T101 (mkF m 376 #[.val (.long q0), .second, .val (.int p1), .val (.long q2), .second, .val (.long q3), .second, .val (.long q4), .second, .val (.int p5), .val (.int (1 : Int32)), .val (.double v11_49), .second, .val (.ref b50), .val (.ref b56), .val (.ref b_71), .val (.int (1 : Int32)), .val (.ref c_72), .unset, .unset] [(.long (q2 ^^^ (-1 : Int64))), (.int (0 : Int32)), (.ref c_72)])
    obtain ⟨cl_o103, Ar_o103, q_o103, S_o103, N_o103, H_o103, G_o103⟩ := id P86
    have hin_o103 : ¬ ((0 : Int32) < 0 ∨ cl_o103.slots.size ≤ ((0 : Int32)).toNatClampNeg) := inb_of S_o103 ⟨by decide, by decide⟩
    obtain ⟨T104, h104, X104, eT104, W104, st104⟩ := stJ X101 hx hZ eq101 Ar_o103 (j := (0 : Int32)) hin_o103 (g := (mkF m 376 #[.val (.long q0), .second, .val (.int p1), .val (.long q2), .second, .val (.long q3), .second, .val (.long q4), .second, .val (.int p5), .val (.int (1 : Int32)), .val (.double v11_49), .second, .val (.ref b50), .val (.ref b56), .val (.ref b_71), .val (.int (1 : Int32)), .val (.ref c_72), .unset, .unset] [(.long (q2 ^^^ (-1 : Int64))), (.int (0 : Int32)), (.ref c_72)])) rfl rfl (hb hby at_376)
    have K105 : Keep h0 h104 [] := K87.wr W104 (Or.inr sz_c_72)
    have V_104 : Arv Z h104 c_72 kc_73 .long (1 : Int32) [(.long (q2 ^^^ (-1 : Int64)))] (.long (0 : Int64)) := Arv.set Ar_o103 q_o103 S_o103 N_o103 H_o103 G_o103 rfl W104 0 rfl (Nat.le_of_ble_eq_true rfl)
    have N104 := Fr.snoc X104 N101 g_c_72
    refine ogo st104 ?_
    show OWay p e below G T104 (mkF m 377 #[.val (.long q0), .second, .val (.int p1), .val (.long q2), .second, .val (.long q3), .second, .val (.long q4), .second, .val (.int p5), .val (.int (1 : Int32)), .val (.double v11_49), .second, .val (.ref b50), .val (.ref b56), .val (.ref b_71), .val (.int (1 : Int32)), .val (.ref c_72), .unset, .unset] [])
    refine ogo (fun _ z_ => XS.aload X104.here hx rfl (hb hby at_377) rfl rfl z_) ?_
    show OWay p e below G T104 (mkF m 379 #[.val (.long q0), .second, .val (.int p1), .val (.long q2), .second, .val (.long q3), .second, .val (.long q4), .second, .val (.int p5), .val (.int (1 : Int32)), .val (.double v11_49), .second, .val (.ref b50), .val (.ref b56), .val (.ref b_71), .val (.int (1 : Int32)), .val (.ref c_72), .unset, .unset] [(.ref b50)])
    refine ogo (fun _ z_ => XS.iconst X104.here hx rfl (hb hby at_379) z_) ?_
    show OWay p e below G T104 (mkF m 380 #[.val (.long q0), .second, .val (.int p1), .val (.long q2), .second, .val (.long q3), .second, .val (.long q4), .second, .val (.int p5), .val (.int (1 : Int32)), .val (.double v11_49), .second, .val (.ref b50), .val (.ref b56), .val (.ref b_71), .val (.int (1 : Int32)), .val (.ref c_72), .unset, .unset] [(.int (0 : Int32)), (.ref b50)])
    have F106 : Arv Z h104 b50 k50 .long (1 : Int32) [(.long q2)] (.long (0 : Int64)) := ((F67.keep Kq69 nin0).other W104 (Nat.ne_of_lt (Nat.lt_of_lt_of_le F67.lt P77)))
    obtain ⟨cl_o107, Ar_o107, q_o107, S_o107, N_o107, H_o107, G_o107⟩ := id F106
    have hin_o107 : ¬ ((0 : Int32) < 0 ∨ cl_o107.slots.size ≤ ((0 : Int32)).toNatClampNeg) := inb_of S_o107 ⟨by decide, by decide⟩
    have hat_o107 : cl_o107.slots[((0 : Int32)).toNatClampNeg]? = some (.long q2) := H_o107.at hin_o107 rfl
    refine ogo (fun _ z_ => X104.laload hx (j := (0 : Int32)) (v := (.long q2)) (by rw [eT104]; exact Ar_o107.1) (State.isArrayOf_alike hZ.alike Ar_o107.2.1) Ar_o107.2.2 hin_o107 hat_o107 (g := (mkF m 380 #[.val (.long q0), .second, .val (.int p1), .val (.long q2), .second, .val (.long q3), .second, .val (.long q4), .second, .val (.int p5), .val (.int (1 : Int32)), .val (.double v11_49), .second, .val (.ref b50), .val (.ref b56), .val (.ref b_71), .val (.int (1 : Int32)), .val (.ref c_72), .unset, .unset] [(.int (0 : Int32)), (.ref b50)])) rfl rfl (hb hby at_380) _ z_) ?_
    show OWay p e below G T104 (mkF m 381 #[.val (.long q0), .second, .val (.int p1), .val (.long q2), .second, .val (.long q3), .second, .val (.long q4), .second, .val (.int p5), .val (.int (1 : Int32)), .val (.double v11_49), .second, .val (.ref b50), .val (.ref b56), .val (.ref b_71), .val (.int (1 : Int32)), .val (.ref c_72), .unset, .unset] [(.long q2)])
    refine ogo (fun _ z_ => XS.lloadN X104.here hx rfl (hb hby at_381) rfl z_) ?_
    show OWay p e below G T104 (mkF m 382 #[.val (.long q0), .second, .val (.int p1), .val (.long q2), .second, .val (.long q3), .second, .val (.long q4), .second, .val (.int p5), .val (.int (1 : Int32)), .val (.double v11_49), .second, .val (.ref b50), .val (.ref b56), .val (.ref b_71), .val (.int (1 : Int32)), .val (.ref c_72), .unset, .unset] [(.long q2), (.long q2)])
    refine ogo (fun _ z_ => XS.lcmp X104.here hx rfl (hb hby at_382) rfl z_) ?_
    show OWay p e below G T104 (mkF m 383 #[.val (.long q0), .second, .val (.int p1), .val (.long q2), .second, .val (.long q3), .second, .val (.long q4), .second, .val (.int p5), .val (.int (1 : Int32)), .val (.double v11_49), .second, .val (.ref b50), .val (.ref b56), .val (.ref b_71), .val (.int (1 : Int32)), .val (.ref c_72), .unset, .unset] [(.int (lcmpW q2 q2))])
    refine ogo (fun _ z_ => XS.ifNo X104.here hx rfl (hb hby at_383) rfl ((if0 _ _).trans (teq ((lw_eq _ _).mpr rfl)).2) z_) ?_
    show OWay p e below G T104 (mkF m 386 #[.val (.long q0), .second, .val (.int p1), .val (.long q2), .second, .val (.long q3), .second, .val (.long q4), .second, .val (.int p5), .val (.int (1 : Int32)), .val (.double v11_49), .second, .val (.ref b50), .val (.ref b56), .val (.ref b_71), .val (.int (1 : Int32)), .val (.ref c_72), .unset, .unset] [])
    refine ogo (fun _ z_ => XS.iconst X104.here hx rfl (hb hby at_386) z_) ?_
    show OWay p e below G T104 (mkF m 387 #[.val (.long q0), .second, .val (.int p1), .val (.long q2), .second, .val (.long q3), .second, .val (.long q4), .second, .val (.int p5), .val (.int (1 : Int32)), .val (.double v11_49), .second, .val (.ref b50), .val (.ref b56), .val (.ref b_71), .val (.int (1 : Int32)), .val (.ref c_72), .unset, .unset] [(.int (1 : Int32))])
    refine ogo (fun _ z_ => XS.goto X104.here hx rfl (pc0 := 387) (pc' := 391) rfl (hb hby at_387) (by decide) (by decide) z_) ?_
    show OWay p e below G T104 (mkF m 391 #[.val (.long q0), .second, .val (.int p1), .val (.long q2), .second, .val (.long q3), .second, .val (.long q4), .second, .val (.int p5), .val (.int (1 : Int32)), .val (.double v11_49), .second, .val (.ref b50), .val (.ref b56), .val (.ref b_71), .val (.int (1 : Int32)), .val (.ref c_72), .unset, .unset] [(.int (1 : Int32))])
    refine ogo (fun _ z_ => XS.istore X104.here hx rfl (hb hby at_391) rfl (l' := #[.val (.long q0), .second, .val (.int p1), .val (.long q2), .second, .val (.long q3), .second, .val (.long q4), .second, .val (.int p5), .val (.int (1 : Int32)), .val (.double v11_49), .second, .val (.ref b50), .val (.ref b56), .val (.ref b_71), .val (.int (1 : Int32)), .val (.ref c_72), .unset, .unset]) rfl z_) ?_
    show OWay p e below G T104 (mkF m 393 #[.val (.long q0), .second, .val (.int p1), .val (.long q2), .second, .val (.long q3), .second, .val (.long q4), .second, .val (.int p5), .val (.int (1 : Int32)), .val (.double v11_49), .second, .val (.ref b50), .val (.ref b56), .val (.ref b_71), .val (.int (1 : Int32)), .val (.ref c_72), .unset, .unset] [])
    refine ogo (fun _ z_ => XS.aload X104.here hx rfl (hb hby at_393) rfl rfl z_) ?_
    show OWay p e below G T104 (mkF m 395 #[.val (.long q0), .second, .val (.int p1), .val (.long q2), .second, .val (.long q3), .second, .val (.long q4), .second, .val (.int p5), .val (.int (1 : Int32)), .val (.double v11_49), .second, .val (.ref b50), .val (.ref b56), .val (.ref b_71), .val (.int (1 : Int32)), .val (.ref c_72), .unset, .unset] [(.ref b50)])
    refine ogo (fun _ z_ => XS.iload X104.here hx rfl (hb hby at_395) rfl z_) ?_
    show OWay p e below G T104 (mkF m 397 #[.val (.long q0), .second, .val (.int p1), .val (.long q2), .second, .val (.long q3), .second, .val (.long q4), .second, .val (.int p5), .val (.int (1 : Int32)), .val (.double v11_49), .second, .val (.ref b50), .val (.ref b56), .val (.ref b_71), .val (.int (1 : Int32)), .val (.ref c_72), .unset, .unset] [(.int (1 : Int32)), (.ref b50)])
    refine ogo (fun _ z_ => XS.iconst X104.here hx rfl (hb hby at_397) z_) ?_
    show OWay p e below G T104 (mkF m 398 #[.val (.long q0), .second, .val (.int p1), .val (.long q2), .second, .val (.long q3), .second, .val (.long q4), .second, .val (.int p5), .val (.int (1 : Int32)), .val (.double v11_49), .second, .val (.ref b50), .val (.ref b56), .val (.ref b_71), .val (.int (1 : Int32)), .val (.ref c_72), .unset, .unset] [(.int (1 : Int32)), (.int (1 : Int32)), (.ref b50)])
    refine ogo (fun _ z_ => XS.isub X104.here hx rfl (hb hby at_398) rfl z_) ?_
    show OWay p e below G T104 (mkF m 399 #[.val (.long q0), .second, .val (.int p1), .val (.long q2), .second, .val (.long q3), .second, .val (.long q4), .second, .val (.int p5), .val (.int (1 : Int32)), .val (.double v11_49), .second, .val (.ref b50), .val (.ref b56), .val (.ref b_71), .val (.int (1 : Int32)), .val (.ref c_72), .unset, .unset] [(.int ((1 : Int32) - (1 : Int32))), (.ref b50)])
    refine ogoE (g' := (mkF m 399 #[.val (.long q0), .second, .val (.int p1), .val (.long q2), .second, .val (.long q3), .second, .val (.long q4), .second, .val (.int p5), .val (.int (1 : Int32)), .val (.double v11_49), .second, .val (.ref b50), .val (.ref b56), .val (.ref b_71), .val (.int (1 : Int32)), .val (.ref c_72), .unset, .unset] [(.int (0 : Int32)), (.ref b50)])) (by rw [show ((1 : Int32) - (1 : Int32)) = (0 : Int32) from by decide]) ?_
    refine ogo (fun _ z_ => XS.aload X104.here hx rfl (hb hby at_399) rfl rfl z_) ?_
    show OWay p e below G T104 (mkF m 401 #[.val (.long q0), .second, .val (.int p1), .val (.long q2), .second, .val (.long q3), .second, .val (.long q4), .second, .val (.int p5), .val (.int (1 : Int32)), .val (.double v11_49), .second, .val (.ref b50), .val (.ref b56), .val (.ref b_71), .val (.int (1 : Int32)), .val (.ref c_72), .unset, .unset] [(.ref b50), (.int (0 : Int32)), (.ref b50)])
    refine ogo (fun _ z_ => XS.iload X104.here hx rfl (hb hby at_401) rfl z_) ?_
    show OWay p e below G T104 (mkF m 403 #[.val (.long q0), .second, .val (.int p1), .val (.long q2), .second, .val (.long q3), .second, .val (.long q4), .second, .val (.int p5), .val (.int (1 : Int32)), .val (.double v11_49), .second, .val (.ref b50), .val (.ref b56), .val (.ref b_71), .val (.int (1 : Int32)), .val (.ref c_72), .unset, .unset] [(.int (1 : Int32)), (.ref b50), (.int (0 : Int32)), (.ref b50)])
    refine ogo (fun _ z_ => XS.iconst X104.here hx rfl (hb hby at_403) z_) ?_
    show OWay p e below G T104 (mkF m 404 #[.val (.long q0), .second, .val (.int p1), .val (.long q2), .second, .val (.long q3), .second, .val (.long q4), .second, .val (.int p5), .val (.int (1 : Int32)), .val (.double v11_49), .second, .val (.ref b50), .val (.ref b56), .val (.ref b_71), .val (.int (1 : Int32)), .val (.ref c_72), .unset, .unset] [(.int (1 : Int32)), (.int (1 : Int32)), (.ref b50), (.int (0 : Int32)), (.ref b50)])
    refine ogo (fun _ z_ => XS.isub X104.here hx rfl (hb hby at_404) rfl z_) ?_
    show OWay p e below G T104 (mkF m 405 #[.val (.long q0), .second, .val (.int p1), .val (.long q2), .second, .val (.long q3), .second, .val (.long q4), .second, .val (.int p5), .val (.int (1 : Int32)), .val (.double v11_49), .second, .val (.ref b50), .val (.ref b56), .val (.ref b_71), .val (.int (1 : Int32)), .val (.ref c_72), .unset, .unset] [(.int ((1 : Int32) - (1 : Int32))), (.ref b50), (.int (0 : Int32)), (.ref b50)])
    refine ogoE (g' := (mkF m 405 #[.val (.long q0), .second, .val (.int p1), .val (.long q2), .second, .val (.long q3), .second, .val (.long q4), .second, .val (.int p5), .val (.int (1 : Int32)), .val (.double v11_49), .second, .val (.ref b50), .val (.ref b56), .val (.ref b_71), .val (.int (1 : Int32)), .val (.ref c_72), .unset, .unset] [(.int (0 : Int32)), (.ref b50), (.int (0 : Int32)), (.ref b50)])) (by rw [show ((1 : Int32) - (1 : Int32)) = (0 : Int32) from by decide]) ?_
    obtain ⟨cl_o108, Ar_o108, q_o108, S_o108, N_o108, H_o108, G_o108⟩ := id F106
    have hin_o108 : ¬ ((0 : Int32) < 0 ∨ cl_o108.slots.size ≤ ((0 : Int32)).toNatClampNeg) := inb_of S_o108 ⟨by decide, by decide⟩
    have hat_o108 : cl_o108.slots[((0 : Int32)).toNatClampNeg]? = some (.long q2) := H_o108.at hin_o108 rfl
    refine ogo (fun _ z_ => X104.laload hx (j := (0 : Int32)) (v := (.long q2)) (by rw [eT104]; exact Ar_o108.1) (State.isArrayOf_alike hZ.alike Ar_o108.2.1) Ar_o108.2.2 hin_o108 hat_o108 (g := (mkF m 405 #[.val (.long q0), .second, .val (.int p1), .val (.long q2), .second, .val (.long q3), .second, .val (.long q4), .second, .val (.int p5), .val (.int (1 : Int32)), .val (.double v11_49), .second, .val (.ref b50), .val (.ref b56), .val (.ref b_71), .val (.int (1 : Int32)), .val (.ref c_72), .unset, .unset] [(.int (0 : Int32)), (.ref b50), (.int (0 : Int32)), (.ref b50)])) rfl rfl (hb hby at_405) _ z_) ?_
    show OWay p e below G T104 (mkF m 406 #[.val (.long q0), .second, .val (.int p1), .val (.long q2), .second, .val (.long q3), .second, .val (.long q4), .second, .val (.int p5), .val (.int (1 : Int32)), .val (.double v11_49), .second, .val (.ref b50), .val (.ref b56), .val (.ref b_71), .val (.int (1 : Int32)), .val (.ref c_72), .unset, .unset] [(.long q2), (.int (0 : Int32)), (.ref b50)])
    refine ogo (fun _ z_ => X104.ldc2Long hx hown (mvT hZ (hw _ (List.mem_of_getElem? (i := 76) rfl))) (g := (mkF m 406 #[.val (.long q0), .second, .val (.int p1), .val (.long q2), .second, .val (.long q3), .second, .val (.long q4), .second, .val (.int p5), .val (.int (1 : Int32)), .val (.double v11_49), .second, .val (.ref b50), .val (.ref b56), .val (.ref b_71), .val (.int (1 : Int32)), .val (.ref c_72), .unset, .unset] [(.long q2), (.int (0 : Int32)), (.ref b50)])) rfl (hb hby at_406) _ z_) ?_
    show OWay p e below G T104 (mkF m 409 #[.val (.long q0), .second, .val (.int p1), .val (.long q2), .second, .val (.long q3), .second, .val (.long q4), .second, .val (.int p5), .val (.int (1 : Int32)), .val (.double v11_49), .second, .val (.ref b50), .val (.ref b56), .val (.ref b_71), .val (.int (1 : Int32)), .val (.ref c_72), .unset, .unset] [(.long (-1 : Int64)), (.long q2), (.int (0 : Int32)), (.ref b50)])
    refine ogo (fun _ z_ => XS.lxor X104.here hx rfl (hb hby at_409) rfl z_) ?_
    show OWay p e below G T104 (mkF m 410 #[.val (.long q0), .second, .val (.int p1), .val (.long q2), .second, .val (.long q3), .second, .val (.long q4), .second, .val (.int p5), .val (.int (1 : Int32)), .val (.double v11_49), .second, .val (.ref b50), .val (.ref b56), .val (.ref b_71), .val (.int (1 : Int32)), .val (.ref c_72), .unset, .unset] [(.long (q2 ^^^ (-1 : Int64))), (.int (0 : Int32)), (.ref b50)])
    obtain ⟨cl_o109, Ar_o109, q_o109, S_o109, N_o109, H_o109, G_o109⟩ := id F106
    have hin_o109 : ¬ ((0 : Int32) < 0 ∨ cl_o109.slots.size ≤ ((0 : Int32)).toNatClampNeg) := inb_of S_o109 ⟨by decide, by decide⟩
    obtain ⟨T110, h110, X110, eT110, W110, st110⟩ := stJ X104 hx hZ eT104 Ar_o109 (j := (0 : Int32)) hin_o109 (g := (mkF m 410 #[.val (.long q0), .second, .val (.int p1), .val (.long q2), .second, .val (.long q3), .second, .val (.long q4), .second, .val (.int p5), .val (.int (1 : Int32)), .val (.double v11_49), .second, .val (.ref b50), .val (.ref b56), .val (.ref b_71), .val (.int (1 : Int32)), .val (.ref c_72), .unset, .unset] [(.long (q2 ^^^ (-1 : Int64))), (.int (0 : Int32)), (.ref b50)])) rfl rfl (hb hby at_410)
    have K111 : Keep h0 h110 [] := K105.wr W110 (Or.inr sz_b50)
    have V_110 : Arv Z h110 b50 k50 .long (1 : Int32) [(.long (q2 ^^^ (-1 : Int64)))] (.long (0 : Int64)) := Arv.set Ar_o109 q_o109 S_o109 N_o109 H_o109 G_o109 rfl W110 0 rfl (Nat.le_of_ble_eq_true rfl)
    have N110 := Fr.snoc X110 N104 g_b50
    refine ogo st110 ?_
    show OWay p e below G T110 (mkF m 411 #[.val (.long q0), .second, .val (.int p1), .val (.long q2), .second, .val (.long q3), .second, .val (.long q4), .second, .val (.int p5), .val (.int (1 : Int32)), .val (.double v11_49), .second, .val (.ref b50), .val (.ref b56), .val (.ref b_71), .val (.int (1 : Int32)), .val (.ref c_72), .unset, .unset] [])
    refine ogo (fun _ z_ => XS.iload X110.here hx rfl (hb hby at_411) rfl z_) ?_
    show OWay p e below G T110 (mkF m 413 #[.val (.long q0), .second, .val (.int p1), .val (.long q2), .second, .val (.long q3), .second, .val (.long q4), .second, .val (.int p5), .val (.int (1 : Int32)), .val (.double v11_49), .second, .val (.ref b50), .val (.ref b56), .val (.ref b_71), .val (.int (1 : Int32)), .val (.ref c_72), .unset, .unset] [(.int (1 : Int32))])
    refine ogo (fun _ z_ => XS.iconst X110.here hx rfl (hb hby at_413) z_) ?_
    show OWay p e below G T110 (mkF m 414 #[.val (.long q0), .second, .val (.int p1), .val (.long q2), .second, .val (.long q3), .second, .val (.long q4), .second, .val (.int p5), .val (.int (1 : Int32)), .val (.double v11_49), .second, .val (.ref b50), .val (.ref b56), .val (.ref b_71), .val (.int (1 : Int32)), .val (.ref c_72), .unset, .unset] [(.int (1 : Int32)), (.int (1 : Int32))])
    refine ogo (fun _ z_ => XS.icmpNo X110.here hx rfl (hb hby at_414) rfl (teq rfl).2 z_) ?_
    show OWay p e below G T110 (mkF m 417 #[.val (.long q0), .second, .val (.int p1), .val (.long q2), .second, .val (.long q3), .second, .val (.long q4), .second, .val (.int p5), .val (.int (1 : Int32)), .val (.double v11_49), .second, .val (.ref b50), .val (.ref b56), .val (.ref b_71), .val (.int (1 : Int32)), .val (.ref c_72), .unset, .unset] [])
    refine ogo (fun _ z_ => XS.lloadN X110.here hx rfl (hb hby at_417) rfl z_) ?_
    show OWay p e below G T110 (mkF m 418 #[.val (.long q0), .second, .val (.int p1), .val (.long q2), .second, .val (.long q3), .second, .val (.long q4), .second, .val (.int p5), .val (.int (1 : Int32)), .val (.double v11_49), .second, .val (.ref b50), .val (.ref b56), .val (.ref b_71), .val (.int (1 : Int32)), .val (.ref c_72), .unset, .unset] [(.long q2)])
    refine ogo (fun _ z_ => X110.ldc2Long hx hown (mvT hZ (hw _ (List.mem_of_getElem? (i := 76) rfl))) (g := (mkF m 418 #[.val (.long q0), .second, .val (.int p1), .val (.long q2), .second, .val (.long q3), .second, .val (.long q4), .second, .val (.int p5), .val (.int (1 : Int32)), .val (.double v11_49), .second, .val (.ref b50), .val (.ref b56), .val (.ref b_71), .val (.int (1 : Int32)), .val (.ref c_72), .unset, .unset] [(.long q2)])) rfl (hb hby at_418) _ z_) ?_
    show OWay p e below G T110 (mkF m 421 #[.val (.long q0), .second, .val (.int p1), .val (.long q2), .second, .val (.long q3), .second, .val (.long q4), .second, .val (.int p5), .val (.int (1 : Int32)), .val (.double v11_49), .second, .val (.ref b50), .val (.ref b56), .val (.ref b_71), .val (.int (1 : Int32)), .val (.ref c_72), .unset, .unset] [(.long (-1 : Int64)), (.long q2)])
    refine ogo (fun _ z_ => XS.lxor X110.here hx rfl (hb hby at_421) rfl z_) ?_
    show OWay p e below G T110 (mkF m 422 #[.val (.long q0), .second, .val (.int p1), .val (.long q2), .second, .val (.long q3), .second, .val (.long q4), .second, .val (.int p5), .val (.int (1 : Int32)), .val (.double v11_49), .second, .val (.ref b50), .val (.ref b56), .val (.ref b_71), .val (.int (1 : Int32)), .val (.ref c_72), .unset, .unset] [(.long (q2 ^^^ (-1 : Int64)))])
    refine ogo (fun _ z_ => XS.goto X110.here hx rfl (pc0 := 422) (pc' := 435) rfl (hb hby at_422) (by decide) (by decide) z_) ?_
    show OWay p e below G T110 (mkF m 435 #[.val (.long q0), .second, .val (.int p1), .val (.long q2), .second, .val (.long q3), .second, .val (.long q4), .second, .val (.int p5), .val (.int (1 : Int32)), .val (.double v11_49), .second, .val (.ref b50), .val (.ref b56), .val (.ref b_71), .val (.int (1 : Int32)), .val (.ref c_72), .unset, .unset] [(.long (q2 ^^^ (-1 : Int64)))])
    suffices Jv18_112 : ∀ v18_112 : Int64, v18_112 = (q2 ^^^ (-1 : Int64)) → OWay p e below G T110 (mkF m 435 #[.val (.long q0), .second, .val (.int p1), .val (.long q2), .second, .val (.long q3), .second, .val (.long q4), .second, .val (.int p5), .val (.int (1 : Int32)), .val (.double v11_49), .second, .val (.ref b50), .val (.ref b56), .val (.ref b_71), .val (.int (1 : Int32)), .val (.ref c_72), .unset, .unset] [(.long v18_112)]) from Jv18_112 _ rfl
    intro v18_112 hv18_112
    refine ogo (fun _ z_ => XS.lstore X110.here hx rfl (hb hby at_435) rfl (l' := #[.val (.long q0), .second, .val (.int p1), .val (.long q2), .second, .val (.long q3), .second, .val (.long q4), .second, .val (.int p5), .val (.int (1 : Int32)), .val (.double v11_49), .second, .val (.ref b50), .val (.ref b56), .val (.ref b_71), .val (.int (1 : Int32)), .val (.ref c_72), .val (.long v18_112), .second]) rfl z_) ?_
    show OWay p e below G T110 (mkF m 437 #[.val (.long q0), .second, .val (.int p1), .val (.long q2), .second, .val (.long q3), .second, .val (.long q4), .second, .val (.int p5), .val (.int (1 : Int32)), .val (.double v11_49), .second, .val (.ref b50), .val (.ref b56), .val (.ref b_71), .val (.int (1 : Int32)), .val (.ref c_72), .val (.long v18_112), .second] [])
    refine ogo (fun _ z_ => XS.iload X110.here hx rfl (hb hby at_437) rfl z_) ?_
    show OWay p e below G T110 (mkF m 439 #[.val (.long q0), .second, .val (.int p1), .val (.long q2), .second, .val (.long q3), .second, .val (.long q4), .second, .val (.int p5), .val (.int (1 : Int32)), .val (.double v11_49), .second, .val (.ref b50), .val (.ref b56), .val (.ref b_71), .val (.int (1 : Int32)), .val (.ref c_72), .val (.long v18_112), .second] [(.int (1 : Int32))])
    refine ogo (fun _ z_ => XS.ifNo X110.here hx rfl (hb hby at_439) rfl ((if0 _ _).trans (feq (by decide)).1) z_) ?_
    show OWay p e below G T110 (mkF m 442 #[.val (.long q0), .second, .val (.int p1), .val (.long q2), .second, .val (.long q3), .second, .val (.long q4), .second, .val (.int p5), .val (.int (1 : Int32)), .val (.double v11_49), .second, .val (.ref b50), .val (.ref b56), .val (.ref b_71), .val (.int (1 : Int32)), .val (.ref c_72), .val (.long v18_112), .second] [])
    refine ogo (fun _ z_ => XS.aload X110.here hx rfl (hb hby at_442) rfl rfl z_) ?_
    show OWay p e below G T110 (mkF m 444 #[.val (.long q0), .second, .val (.int p1), .val (.long q2), .second, .val (.long q3), .second, .val (.long q4), .second, .val (.int p5), .val (.int (1 : Int32)), .val (.double v11_49), .second, .val (.ref b50), .val (.ref b56), .val (.ref b_71), .val (.int (1 : Int32)), .val (.ref c_72), .val (.long v18_112), .second] [(.ref c_72)])
    refine ogo (fun _ z_ => XS.iload X110.here hx rfl (hb hby at_444) rfl z_) ?_
    show OWay p e below G T110 (mkF m 446 #[.val (.long q0), .second, .val (.int p1), .val (.long q2), .second, .val (.long q3), .second, .val (.long q4), .second, .val (.int p5), .val (.int (1 : Int32)), .val (.double v11_49), .second, .val (.ref b50), .val (.ref b56), .val (.ref b_71), .val (.int (1 : Int32)), .val (.ref c_72), .val (.long v18_112), .second] [(.int (1 : Int32)), (.ref c_72)])
    refine ogo (fun _ z_ => XS.iconst X110.here hx rfl (hb hby at_446) z_) ?_
    show OWay p e below G T110 (mkF m 447 #[.val (.long q0), .second, .val (.int p1), .val (.long q2), .second, .val (.long q3), .second, .val (.long q4), .second, .val (.int p5), .val (.int (1 : Int32)), .val (.double v11_49), .second, .val (.ref b50), .val (.ref b56), .val (.ref b_71), .val (.int (1 : Int32)), .val (.ref c_72), .val (.long v18_112), .second] [(.int (1 : Int32)), (.int (1 : Int32)), (.ref c_72)])
    refine ogo (fun _ z_ => XS.isub X110.here hx rfl (hb hby at_447) rfl z_) ?_
    show OWay p e below G T110 (mkF m 448 #[.val (.long q0), .second, .val (.int p1), .val (.long q2), .second, .val (.long q3), .second, .val (.long q4), .second, .val (.int p5), .val (.int (1 : Int32)), .val (.double v11_49), .second, .val (.ref b50), .val (.ref b56), .val (.ref b_71), .val (.int (1 : Int32)), .val (.ref c_72), .val (.long v18_112), .second] [(.int ((1 : Int32) - (1 : Int32))), (.ref c_72)])
    refine ogoE (g' := (mkF m 448 #[.val (.long q0), .second, .val (.int p1), .val (.long q2), .second, .val (.long q3), .second, .val (.long q4), .second, .val (.int p5), .val (.int (1 : Int32)), .val (.double v11_49), .second, .val (.ref b50), .val (.ref b56), .val (.ref b_71), .val (.int (1 : Int32)), .val (.ref c_72), .val (.long v18_112), .second] [(.int (0 : Int32)), (.ref c_72)])) (by rw [show ((1 : Int32) - (1 : Int32)) = (0 : Int32) from by decide]) ?_
    have F113 : Arv Z h110 c_72 kc_73 .long (1 : Int32) [(.long (q2 ^^^ (-1 : Int64)))] (.long (0 : Int64)) := (V_104.other W110 (Ne.symm (Nat.ne_of_lt (Nat.lt_of_lt_of_le F68.lt P77))))
    obtain ⟨cl_o114, Ar_o114, q_o114, S_o114, N_o114, H_o114, G_o114⟩ := id F113
    have hin_o114 : ¬ ((0 : Int32) < 0 ∨ cl_o114.slots.size ≤ ((0 : Int32)).toNatClampNeg) := inb_of S_o114 ⟨by decide, by decide⟩
    have hat_o114 : cl_o114.slots[((0 : Int32)).toNatClampNeg]? = some (.long (q2 ^^^ (-1 : Int64))) := H_o114.at hin_o114 rfl
    refine ogo (fun _ z_ => X110.laload hx (j := (0 : Int32)) (v := (.long (q2 ^^^ (-1 : Int64)))) (by rw [eT110]; exact Ar_o114.1) (State.isArrayOf_alike hZ.alike Ar_o114.2.1) Ar_o114.2.2 hin_o114 hat_o114 (g := (mkF m 448 #[.val (.long q0), .second, .val (.int p1), .val (.long q2), .second, .val (.long q3), .second, .val (.long q4), .second, .val (.int p5), .val (.int (1 : Int32)), .val (.double v11_49), .second, .val (.ref b50), .val (.ref b56), .val (.ref b_71), .val (.int (1 : Int32)), .val (.ref c_72), .val (.long v18_112), .second] [(.int (0 : Int32)), (.ref c_72)])) rfl rfl (hb hby at_448) _ z_) ?_
    show OWay p e below G T110 (mkF m 449 #[.val (.long q0), .second, .val (.int p1), .val (.long q2), .second, .val (.long q3), .second, .val (.long q4), .second, .val (.int p5), .val (.int (1 : Int32)), .val (.double v11_49), .second, .val (.ref b50), .val (.ref b56), .val (.ref b_71), .val (.int (1 : Int32)), .val (.ref c_72), .val (.long v18_112), .second] [(.long (q2 ^^^ (-1 : Int64)))])
    refine ogo (fun _ z_ => XS.lload X110.here hx rfl (hb hby at_449) rfl z_) ?_
    show OWay p e below G T110 (mkF m 451 #[.val (.long q0), .second, .val (.int p1), .val (.long q2), .second, .val (.long q3), .second, .val (.long q4), .second, .val (.int p5), .val (.int (1 : Int32)), .val (.double v11_49), .second, .val (.ref b50), .val (.ref b56), .val (.ref b_71), .val (.int (1 : Int32)), .val (.ref c_72), .val (.long v18_112), .second] [(.long v18_112), (.long (q2 ^^^ (-1 : Int64)))])
    refine ogo (fun _ z_ => XS.lcmp X110.here hx rfl (hb hby at_451) rfl z_) ?_
    show OWay p e below G T110 (mkF m 452 #[.val (.long q0), .second, .val (.int p1), .val (.long q2), .second, .val (.long q3), .second, .val (.long q4), .second, .val (.int p5), .val (.int (1 : Int32)), .val (.double v11_49), .second, .val (.ref b50), .val (.ref b56), .val (.ref b_71), .val (.int (1 : Int32)), .val (.ref c_72), .val (.long v18_112), .second] [(.int (lcmpW (q2 ^^^ (-1 : Int64)) v18_112))])
    refine ogo (fun _ z_ => XS.ifNo X110.here hx rfl (hb hby at_452) rfl ((if0 _ _).trans (teq ((lw_eq _ _).mpr (hv18_112.symm))).2) z_) ?_
    show OWay p e below G T110 (mkF m 455 #[.val (.long q0), .second, .val (.int p1), .val (.long q2), .second, .val (.long q3), .second, .val (.long q4), .second, .val (.int p5), .val (.int (1 : Int32)), .val (.double v11_49), .second, .val (.ref b50), .val (.ref b56), .val (.ref b_71), .val (.int (1 : Int32)), .val (.ref c_72), .val (.long v18_112), .second] [])
    refine ogo (fun _ z_ => XS.iconst X110.here hx rfl (hb hby at_455) z_) ?_
    show OWay p e below G T110 (mkF m 456 #[.val (.long q0), .second, .val (.int p1), .val (.long q2), .second, .val (.long q3), .second, .val (.long q4), .second, .val (.int p5), .val (.int (1 : Int32)), .val (.double v11_49), .second, .val (.ref b50), .val (.ref b56), .val (.ref b_71), .val (.int (1 : Int32)), .val (.ref c_72), .val (.long v18_112), .second] [(.int (1 : Int32))])
    refine ogo (fun _ z_ => XS.goto X110.here hx rfl (pc0 := 456) (pc' := 460) rfl (hb hby at_456) (by decide) (by decide) z_) ?_
    show OWay p e below G T110 (mkF m 460 #[.val (.long q0), .second, .val (.int p1), .val (.long q2), .second, .val (.long q3), .second, .val (.long q4), .second, .val (.int p5), .val (.int (1 : Int32)), .val (.double v11_49), .second, .val (.ref b50), .val (.ref b56), .val (.ref b_71), .val (.int (1 : Int32)), .val (.ref c_72), .val (.long v18_112), .second] [(.int (1 : Int32))])
    refine ogo (fun _ z_ => XS.istore X110.here hx rfl (hb hby at_460) rfl (l' := #[.val (.long q0), .second, .val (.int p1), .val (.long q2), .second, .val (.long q3), .second, .val (.long q4), .second, .val (.int p5), .val (.int (1 : Int32)), .val (.double v11_49), .second, .val (.ref b50), .val (.ref b56), .val (.ref b_71), .val (.int (1 : Int32)), .val (.ref c_72), .val (.long v18_112), .second]) rfl z_) ?_
    show OWay p e below G T110 (mkF m 462 #[.val (.long q0), .second, .val (.int p1), .val (.long q2), .second, .val (.long q3), .second, .val (.long q4), .second, .val (.int p5), .val (.int (1 : Int32)), .val (.double v11_49), .second, .val (.ref b50), .val (.ref b56), .val (.ref b_71), .val (.int (1 : Int32)), .val (.ref c_72), .val (.long v18_112), .second] [])
    refine ogo (fun _ z_ => XS.iload X110.here hx rfl (hb hby at_462) rfl z_) ?_
    show OWay p e below G T110 (mkF m 464 #[.val (.long q0), .second, .val (.int p1), .val (.long q2), .second, .val (.long q3), .second, .val (.long q4), .second, .val (.int p5), .val (.int (1 : Int32)), .val (.double v11_49), .second, .val (.ref b50), .val (.ref b56), .val (.ref b_71), .val (.int (1 : Int32)), .val (.ref c_72), .val (.long v18_112), .second] [(.int (1 : Int32))])
    subst hG
    refine wRetN X110 hx (t := .boolean) hret hlk (by simp) (hb hby at_464) (by decide) (by decide) eT110 ?_
    exact ⟨rfl, N110⟩
  · show OWay p e below G s₁ (mkF m 6 #[.val (.long q0), .second, .val (.int p1), .val (.long q2), .second, .val (.long q3), .second, .val (.long q4), .second, .val (.int p5), .val (.int (2 : Int32)), .unset, .unset, .unset, .unset, .unset, .unset, .unset, .unset, .unset] [])
    refine ogo (fun _ z_ => XS.iload X0.here hx rfl (hb hby at_6) rfl z_) ?_
    show OWay p e below G s₁ (mkF m 8 #[.val (.long q0), .second, .val (.int p1), .val (.long q2), .second, .val (.long q3), .second, .val (.long q4), .second, .val (.int p5), .val (.int (2 : Int32)), .unset, .unset, .unset, .unset, .unset, .unset, .unset, .unset, .unset] [(.int p5)])
    refine ogo (fun _ z_ => XS.iconst X0.here hx rfl (hb hby at_8) z_) ?_
    show OWay p e below G s₁ (mkF m 9 #[.val (.long q0), .second, .val (.int p1), .val (.long q2), .second, .val (.long q3), .second, .val (.long q4), .second, .val (.int p5), .val (.int (2 : Int32)), .unset, .unset, .unset, .unset, .unset, .unset, .unset, .unset, .unset] [(.int (2 : Int32)), (.int p5)])
    refine ogo (fun _ z_ => XS.iushr X0.here hx rfl (hb hby at_9) rfl z_) ?_
    show OWay p e below G s₁ (mkF m 10 #[.val (.long q0), .second, .val (.int p1), .val (.long q2), .second, .val (.long q3), .second, .val (.long q4), .second, .val (.int p5), .val (.int (2 : Int32)), .unset, .unset, .unset, .unset, .unset, .unset, .unset, .unset, .unset] [(.int ((p5.toUInt32 >>> ((2 : Int32) &&& 31).toUInt32).toInt32))])
    refine ogo (fun _ z_ => X0.ldcInt hx hown (mvT hZ (hw _ (List.mem_of_getElem? (i := 0) rfl))) (g := (mkF m 10 #[.val (.long q0), .second, .val (.int p1), .val (.long q2), .second, .val (.long q3), .second, .val (.long q4), .second, .val (.int p5), .val (.int (2 : Int32)), .unset, .unset, .unset, .unset, .unset, .unset, .unset, .unset, .unset] [(.int ((p5.toUInt32 >>> ((2 : Int32) &&& 31).toUInt32).toInt32))])) rfl (hb hby at_10) _ z_) ?_
    show OWay p e below G s₁ (mkF m 12 #[.val (.long q0), .second, .val (.int p1), .val (.long q2), .second, .val (.long q3), .second, .val (.long q4), .second, .val (.int p5), .val (.int (2 : Int32)), .unset, .unset, .unset, .unset, .unset, .unset, .unset, .unset, .unset] [(.int (1048575 : Int32)), (.int ((p5.toUInt32 >>> ((2 : Int32) &&& 31).toUInt32).toInt32))])
    refine ogo (fun _ z_ => XS.iand X0.here hx rfl (hb hby at_12) rfl z_) ?_
    show OWay p e below G s₁ (mkF m 13 #[.val (.long q0), .second, .val (.int p1), .val (.long q2), .second, .val (.long q3), .second, .val (.long q4), .second, .val (.int p5), .val (.int (2 : Int32)), .unset, .unset, .unset, .unset, .unset, .unset, .unset, .unset, .unset] [(.int (((p5.toUInt32 >>> ((2 : Int32) &&& 31).toUInt32).toInt32) &&& (1048575 : Int32)))])
    refine ogo (fun _ z_ => XS.i2dS X0.here hx rfl (hb hby at_13) rfl rfl z_) ?_
    show OWay p e below G s₁ (mkF m 14 #[.val (.long q0), .second, .val (.int p1), .val (.long q2), .second, .val (.long q3), .second, .val (.long q4), .second, .val (.int p5), .val (.int (2 : Int32)), .unset, .unset, .unset, .unset, .unset, .unset, .unset, .unset, .unset] [(.double (FP.i2d (((p5.toUInt32 >>> ((2 : Int32) &&& 31).toUInt32).toInt32) &&& (1048575 : Int32))))])
    refine ogo (fun _ z_ => X0.ldc2DoubleC hx hown (mvT hZ (hw _ (List.mem_of_getElem? (i := 1) rfl))) (g := (mkF m 14 #[.val (.long q0), .second, .val (.int p1), .val (.long q2), .second, .val (.long q3), .second, .val (.long q4), .second, .val (.int p5), .val (.int (2 : Int32)), .unset, .unset, .unset, .unset, .unset, .unset, .unset, .unset, .unset] [(.double (FP.i2d (((p5.toUInt32 >>> ((2 : Int32) &&& 31).toUInt32).toInt32) &&& (1048575 : Int32))))])) rfl (hb hby at_14) _ z_) ?_
    show OWay p e below G s₁ (mkF m 17 #[.val (.long q0), .second, .val (.int p1), .val (.long q2), .second, .val (.long q3), .second, .val (.long q4), .second, .val (.int p5), .val (.int (2 : Int32)), .unset, .unset, .unset, .unset, .unset, .unset, .unset, .unset, .unset] [(.double (4697254411347427328 : UInt64)), (.double (FP.i2d (((p5.toUInt32 >>> ((2 : Int32) &&& 31).toUInt32).toInt32) &&& (1048575 : Int32))))])
    refine ogo (fun _ z_ => XS.ddivS X0.here hx rfl (hb hby at_17) rfl (own_nn _) rfl z_) ?_
    show OWay p e below G s₁ (mkF m 18 #[.val (.long q0), .second, .val (.int p1), .val (.long q2), .second, .val (.long q3), .second, .val (.long q4), .second, .val (.int p5), .val (.int (2 : Int32)), .unset, .unset, .unset, .unset, .unset, .unset, .unset, .unset, .unset] [(.double (FP.ddiv (FP.i2d (((p5.toUInt32 >>> ((2 : Int32) &&& 31).toUInt32).toInt32) &&& (1048575 : Int32))) (4697254411347427328 : UInt64)))])
    suffices Jv11_115 : ∀ v11_115 : UInt64, v11_115 = (FP.ddiv (FP.i2d (((p5.toUInt32 >>> ((2 : Int32) &&& 31).toUInt32).toInt32) &&& (1048575 : Int32))) (4697254411347427328 : UInt64)) → OWay p e below G s₁ (mkF m 18 #[.val (.long q0), .second, .val (.int p1), .val (.long q2), .second, .val (.long q3), .second, .val (.long q4), .second, .val (.int p5), .val (.int (2 : Int32)), .unset, .unset, .unset, .unset, .unset, .unset, .unset, .unset, .unset] [(.double v11_115)]) from Jv11_115 _ rfl
    intro v11_115 hv11_115
    refine ogo (fun _ z_ => XS.dstore X0.here hx rfl (hb hby at_18) rfl (l' := #[.val (.long q0), .second, .val (.int p1), .val (.long q2), .second, .val (.long q3), .second, .val (.long q4), .second, .val (.int p5), .val (.int (2 : Int32)), .val (.double v11_115), .second, .unset, .unset, .unset, .unset, .unset, .unset, .unset]) rfl z_) ?_
    show OWay p e below G s₁ (mkF m 20 #[.val (.long q0), .second, .val (.int p1), .val (.long q2), .second, .val (.long q3), .second, .val (.long q4), .second, .val (.int p5), .val (.int (2 : Int32)), .val (.double v11_115), .second, .unset, .unset, .unset, .unset, .unset, .unset, .unset] [])
    refine ogo (fun _ z_ => XS.iload X0.here hx rfl (hb hby at_20) rfl z_) ?_
    show OWay p e below G s₁ (mkF m 22 #[.val (.long q0), .second, .val (.int p1), .val (.long q2), .second, .val (.long q3), .second, .val (.long q4), .second, .val (.int p5), .val (.int (2 : Int32)), .val (.double v11_115), .second, .unset, .unset, .unset, .unset, .unset, .unset, .unset] [(.int (2 : Int32))])
    obtain ⟨T116, h116, k116, X116, eT116, E116, A116, D116, st116⟩ := newPE X0 hx hZ (hw _ (List.mem_of_getElem? (i := 2) rfl)) eh0 (g := (mkF m 22 #[.val (.long q0), .second, .val (.int p1), .val (.long q2), .second, .val (.long q3), .second, .val (.long q4), .second, .val (.int p5), .val (.int (2 : Int32)), .val (.double v11_115), .second, .unset, .unset, .unset, .unset, .unset, .unset, .unset] [(.int (2 : Int32))])) rfl (hb hby at_22) rfl (by decide) (cap := 2) (by decide) (by decide) (by decide) (by decide)
    obtain ⟨b116, g116⟩ : ∃ z, z = h0.size := ⟨_, rfl⟩
    rw [← g116] at A116 D116 st116
    have g_b116 : n0 ≤ b116 := Nat.le_trans Z0 (Nat.le_of_eq g116.symm)
    have sz_b116 : h0.size ≤ b116 := Nat.le_trans K0.1 (Nat.le_of_eq g116.symm)
    have K117 : Keep h0 h116 [] := K0.ext E116
    have V_b116 : Arv Z h116 b116 k116 .long (2 : Int32) [(.long (0 : Int64)), (.long (0 : Int64))] (.long (0 : Int64)) := (Arv.new A116 (by decide)).pad (pad_rep [] (.long (0 : Int64)) 2)
    have Ex_b116 : Exa Z h116 b116 "[J" := D116
    refine ogo st116 ?_
    show OWay p e below G T116 (mkF m 24 #[.val (.long q0), .second, .val (.int p1), .val (.long q2), .second, .val (.long q3), .second, .val (.long q4), .second, .val (.int p5), .val (.int (2 : Int32)), .val (.double v11_115), .second, .unset, .unset, .unset, .unset, .unset, .unset, .unset] [(.ref b116)])
    refine ogo (fun _ z_ => XS.astore X116.here hx rfl (hb hby at_24) rfl rfl (l' := #[.val (.long q0), .second, .val (.int p1), .val (.long q2), .second, .val (.long q3), .second, .val (.long q4), .second, .val (.int p5), .val (.int (2 : Int32)), .val (.double v11_115), .second, .val (.ref b116), .unset, .unset, .unset, .unset, .unset, .unset]) rfl z_) ?_
    show OWay p e below G T116 (mkF m 26 #[.val (.long q0), .second, .val (.int p1), .val (.long q2), .second, .val (.long q3), .second, .val (.long q4), .second, .val (.int p5), .val (.int (2 : Int32)), .val (.double v11_115), .second, .val (.ref b116), .unset, .unset, .unset, .unset, .unset, .unset] [])
    refine ogo (fun _ z_ => XS.iload X116.here hx rfl (hb hby at_26) rfl z_) ?_
    show OWay p e below G T116 (mkF m 28 #[.val (.long q0), .second, .val (.int p1), .val (.long q2), .second, .val (.long q3), .second, .val (.long q4), .second, .val (.int p5), .val (.int (2 : Int32)), .val (.double v11_115), .second, .val (.ref b116), .unset, .unset, .unset, .unset, .unset, .unset] [(.int (2 : Int32))])
    refine ogo (fun _ z_ => XS.ifNo X116.here hx rfl (hb hby at_28) rfl ((if0 _ _).trans (tlt (by decide)).2.2.2) z_) ?_
    show OWay p e below G T116 (mkF m 31 #[.val (.long q0), .second, .val (.int p1), .val (.long q2), .second, .val (.long q3), .second, .val (.long q4), .second, .val (.int p5), .val (.int (2 : Int32)), .val (.double v11_115), .second, .val (.ref b116), .unset, .unset, .unset, .unset, .unset, .unset] [])
    refine ogo (fun _ z_ => XS.aload X116.here hx rfl (hb hby at_31) rfl rfl z_) ?_
    show OWay p e below G T116 (mkF m 33 #[.val (.long q0), .second, .val (.int p1), .val (.long q2), .second, .val (.long q3), .second, .val (.long q4), .second, .val (.int p5), .val (.int (2 : Int32)), .val (.double v11_115), .second, .val (.ref b116), .unset, .unset, .unset, .unset, .unset, .unset] [(.ref b116)])
    refine ogo (fun _ z_ => XS.iconst X116.here hx rfl (hb hby at_33) z_) ?_
    show OWay p e below G T116 (mkF m 34 #[.val (.long q0), .second, .val (.int p1), .val (.long q2), .second, .val (.long q3), .second, .val (.long q4), .second, .val (.int p5), .val (.int (2 : Int32)), .val (.double v11_115), .second, .val (.ref b116), .unset, .unset, .unset, .unset, .unset, .unset] [(.int (0 : Int32)), (.ref b116)])
    refine ogo (fun _ z_ => XS.iconst X116.here hx rfl (hb hby at_34) z_) ?_
    show OWay p e below G T116 (mkF m 35 #[.val (.long q0), .second, .val (.int p1), .val (.long q2), .second, .val (.long q3), .second, .val (.long q4), .second, .val (.int p5), .val (.int (2 : Int32)), .val (.double v11_115), .second, .val (.ref b116), .unset, .unset, .unset, .unset, .unset, .unset] [(.int (0 : Int32)), (.int (0 : Int32)), (.ref b116)])
    refine ogo (fun _ z_ => XS.lloadN X116.here hx rfl (hb hby at_35) rfl z_) ?_
    show OWay p e below G T116 (mkF m 36 #[.val (.long q0), .second, .val (.int p1), .val (.long q2), .second, .val (.long q3), .second, .val (.long q4), .second, .val (.int p5), .val (.int (2 : Int32)), .val (.double v11_115), .second, .val (.ref b116), .unset, .unset, .unset, .unset, .unset, .unset] [(.long q2), (.int (0 : Int32)), (.int (0 : Int32)), (.ref b116)])
    refine ogo (fun _ z_ => XS.lload X116.here hx rfl (hb hby at_36) rfl z_) ?_
    show OWay p e below G T116 (mkF m 38 #[.val (.long q0), .second, .val (.int p1), .val (.long q2), .second, .val (.long q3), .second, .val (.long q4), .second, .val (.int p5), .val (.int (2 : Int32)), .val (.double v11_115), .second, .val (.ref b116), .unset, .unset, .unset, .unset, .unset, .unset] [(.long q3), (.long q2), (.int (0 : Int32)), (.int (0 : Int32)), (.ref b116)])
    obtain ⟨_, T118, L118, X118, hQ118, st118⟩ := wStatic X116 hx hZ (y := (⟨"com/example/sito/sito/SliceCopyPinLaw", "expected", "(IJJ)J"⟩ : MethodName)) hown (hw _ (List.mem_of_getElem? (i := 72) rfl)) (hw _ (List.mem_of_getElem? (i := 73) rfl)) (hw _ (List.mem_of_getElem? (i := 74) rfl)) (hw _ (List.mem_of_getElem? (i := 75) rfl)) (by decide) (exp0_c l Z az hw [] q2 q3 h116 n0 (Nat.le_trans Z0 E116.1)) 2 (by decide) (by decide) (g := (mkF m 38 #[.val (.long q0), .second, .val (.int p1), .val (.long q2), .second, .val (.long q3), .second, .val (.long q4), .second, .val (.int p5), .val (.int (2 : Int32)), .val (.double v11_115), .second, .val (.ref b116), .unset, .unset, .unset, .unset, .unset, .unset] [(.long q3), (.long q2), (.int (0 : Int32)), (.int (0 : Int32)), (.ref b116)])) rfl (by rw [hml]; rfl) (argsL := [(.int (0 : Int32)), (.long q2), (.long q3)]) (rest := [(.int (0 : Int32)), (.ref b116)]) (lenOf pd__IJJ_J rfl) rfl (by show 2 * 0 + _ ≤ _; exact Nat.le_of_eq rfl) (hb hby at_38) rfl eT116 (by decide) (by decide)
    obtain ⟨rfl, N118q, eq118⟩ := hQ118
    have N118 := Fr.app N0 N118q
    refine ogo st118 ?_
    show OWay p e below G T118 (mkF m 41 #[.val (.long q0), .second, .val (.int p1), .val (.long q2), .second, .val (.long q3), .second, .val (.long q4), .second, .val (.int p5), .val (.int (2 : Int32)), .val (.double v11_115), .second, .val (.ref b116), .unset, .unset, .unset, .unset, .unset, .unset] [(.long q2), (.int (0 : Int32)), (.ref b116)])
    obtain ⟨cl_o119, Ar_o119, q_o119, S_o119, N_o119, H_o119, G_o119⟩ := id V_b116
    have hin_o119 : ¬ ((0 : Int32) < 0 ∨ cl_o119.slots.size ≤ ((0 : Int32)).toNatClampNeg) := inb_of S_o119 ⟨by decide, by decide⟩
    obtain ⟨T120, h120, X120, eT120, W120, st120⟩ := stJ X118 hx hZ eq118 Ar_o119 (j := (0 : Int32)) hin_o119 (g := (mkF m 41 #[.val (.long q0), .second, .val (.int p1), .val (.long q2), .second, .val (.long q3), .second, .val (.long q4), .second, .val (.int p5), .val (.int (2 : Int32)), .val (.double v11_115), .second, .val (.ref b116), .unset, .unset, .unset, .unset, .unset, .unset] [(.long q2), (.int (0 : Int32)), (.ref b116)])) rfl rfl (hb hby at_41)
    have K121 : Keep h0 h120 [] := K117.wr W120 (Or.inr sz_b116)
    have V_120 : Arv Z h120 b116 k116 .long (2 : Int32) [(.long q2), (.long (0 : Int64))] (.long (0 : Int64)) := Arv.set Ar_o119 q_o119 S_o119 N_o119 H_o119 G_o119 rfl W120 0 rfl (Nat.le_of_ble_eq_true rfl)
    have N120 := Fr.snoc X120 N118 g_b116
    refine ogo st120 ?_
    show OWay p e below G T120 (mkF m 42 #[.val (.long q0), .second, .val (.int p1), .val (.long q2), .second, .val (.long q3), .second, .val (.long q4), .second, .val (.int p5), .val (.int (2 : Int32)), .val (.double v11_115), .second, .val (.ref b116), .unset, .unset, .unset, .unset, .unset, .unset] [])
    refine ogo (fun _ z_ => XS.iload X120.here hx rfl (hb hby at_42) rfl z_) ?_
    show OWay p e below G T120 (mkF m 44 #[.val (.long q0), .second, .val (.int p1), .val (.long q2), .second, .val (.long q3), .second, .val (.long q4), .second, .val (.int p5), .val (.int (2 : Int32)), .val (.double v11_115), .second, .val (.ref b116), .unset, .unset, .unset, .unset, .unset, .unset] [(.int (2 : Int32))])
    refine ogo (fun _ z_ => XS.iconst X120.here hx rfl (hb hby at_44) z_) ?_
    show OWay p e below G T120 (mkF m 45 #[.val (.long q0), .second, .val (.int p1), .val (.long q2), .second, .val (.long q3), .second, .val (.long q4), .second, .val (.int p5), .val (.int (2 : Int32)), .val (.double v11_115), .second, .val (.ref b116), .unset, .unset, .unset, .unset, .unset, .unset] [(.int (1 : Int32)), (.int (2 : Int32))])
    refine ogo (fun _ z_ => XS.icmpNo X120.here hx rfl (hb hby at_45) rfl (tlt (by decide)).2.2.2 z_) ?_
    show OWay p e below G T120 (mkF m 48 #[.val (.long q0), .second, .val (.int p1), .val (.long q2), .second, .val (.long q3), .second, .val (.long q4), .second, .val (.int p5), .val (.int (2 : Int32)), .val (.double v11_115), .second, .val (.ref b116), .unset, .unset, .unset, .unset, .unset, .unset] [])
    refine ogo (fun _ z_ => XS.aload X120.here hx rfl (hb hby at_48) rfl rfl z_) ?_
    show OWay p e below G T120 (mkF m 50 #[.val (.long q0), .second, .val (.int p1), .val (.long q2), .second, .val (.long q3), .second, .val (.long q4), .second, .val (.int p5), .val (.int (2 : Int32)), .val (.double v11_115), .second, .val (.ref b116), .unset, .unset, .unset, .unset, .unset, .unset] [(.ref b116)])
    refine ogo (fun _ z_ => XS.iconst X120.here hx rfl (hb hby at_50) z_) ?_
    show OWay p e below G T120 (mkF m 51 #[.val (.long q0), .second, .val (.int p1), .val (.long q2), .second, .val (.long q3), .second, .val (.long q4), .second, .val (.int p5), .val (.int (2 : Int32)), .val (.double v11_115), .second, .val (.ref b116), .unset, .unset, .unset, .unset, .unset, .unset] [(.int (1 : Int32)), (.ref b116)])
    refine ogo (fun _ z_ => XS.iconst X120.here hx rfl (hb hby at_51) z_) ?_
    show OWay p e below G T120 (mkF m 52 #[.val (.long q0), .second, .val (.int p1), .val (.long q2), .second, .val (.long q3), .second, .val (.long q4), .second, .val (.int p5), .val (.int (2 : Int32)), .val (.double v11_115), .second, .val (.ref b116), .unset, .unset, .unset, .unset, .unset, .unset] [(.int (1 : Int32)), (.int (1 : Int32)), (.ref b116)])
    refine ogo (fun _ z_ => XS.lloadN X120.here hx rfl (hb hby at_52) rfl z_) ?_
    show OWay p e below G T120 (mkF m 53 #[.val (.long q0), .second, .val (.int p1), .val (.long q2), .second, .val (.long q3), .second, .val (.long q4), .second, .val (.int p5), .val (.int (2 : Int32)), .val (.double v11_115), .second, .val (.ref b116), .unset, .unset, .unset, .unset, .unset, .unset] [(.long q2), (.int (1 : Int32)), (.int (1 : Int32)), (.ref b116)])
    refine ogo (fun _ z_ => XS.lload X120.here hx rfl (hb hby at_53) rfl z_) ?_
    show OWay p e below G T120 (mkF m 55 #[.val (.long q0), .second, .val (.int p1), .val (.long q2), .second, .val (.long q3), .second, .val (.long q4), .second, .val (.int p5), .val (.int (2 : Int32)), .val (.double v11_115), .second, .val (.ref b116), .unset, .unset, .unset, .unset, .unset, .unset] [(.long q3), (.long q2), (.int (1 : Int32)), (.int (1 : Int32)), (.ref b116)])
    obtain ⟨_, T122, L122, X122, hQ122, st122⟩ := wStatic X120 hx hZ (y := (⟨"com/example/sito/sito/SliceCopyPinLaw", "expected", "(IJJ)J"⟩ : MethodName)) hown (hw _ (List.mem_of_getElem? (i := 72) rfl)) (hw _ (List.mem_of_getElem? (i := 73) rfl)) (hw _ (List.mem_of_getElem? (i := 74) rfl)) (hw _ (List.mem_of_getElem? (i := 75) rfl)) (by decide) (exp1_c l Z az hw [] q2 q3 h120 n0 (Nat.le_trans (Nat.le_trans Z0 E116.1) (Keep.of_wr W120).1)) 2 (by decide) (by decide) (g := (mkF m 55 #[.val (.long q0), .second, .val (.int p1), .val (.long q2), .second, .val (.long q3), .second, .val (.long q4), .second, .val (.int p5), .val (.int (2 : Int32)), .val (.double v11_115), .second, .val (.ref b116), .unset, .unset, .unset, .unset, .unset, .unset] [(.long q3), (.long q2), (.int (1 : Int32)), (.int (1 : Int32)), (.ref b116)])) rfl (by rw [hml]; rfl) (argsL := [(.int (1 : Int32)), (.long q2), (.long q3)]) (rest := [(.int (1 : Int32)), (.ref b116)]) (lenOf pd__IJJ_J rfl) rfl (by show 2 * 0 + _ ≤ _; exact Nat.le_of_eq rfl) (hb hby at_55) rfl eT120 (by decide) (by decide)
    obtain ⟨rfl, N122q, eq122⟩ := hQ122
    have N122 := Fr.app N120 N122q
    refine ogo st122 ?_
    show OWay p e below G T122 (mkF m 58 #[.val (.long q0), .second, .val (.int p1), .val (.long q2), .second, .val (.long q3), .second, .val (.long q4), .second, .val (.int p5), .val (.int (2 : Int32)), .val (.double v11_115), .second, .val (.ref b116), .unset, .unset, .unset, .unset, .unset, .unset] [(.long q3), (.int (1 : Int32)), (.ref b116)])
    obtain ⟨cl_o123, Ar_o123, q_o123, S_o123, N_o123, H_o123, G_o123⟩ := id V_120
    have hin_o123 : ¬ ((1 : Int32) < 0 ∨ cl_o123.slots.size ≤ ((1 : Int32)).toNatClampNeg) := inb_of S_o123 ⟨by decide, by decide⟩
    obtain ⟨T124, h124, X124, eT124, W124, st124⟩ := stJ X122 hx hZ eq122 Ar_o123 (j := (1 : Int32)) hin_o123 (g := (mkF m 58 #[.val (.long q0), .second, .val (.int p1), .val (.long q2), .second, .val (.long q3), .second, .val (.long q4), .second, .val (.int p5), .val (.int (2 : Int32)), .val (.double v11_115), .second, .val (.ref b116), .unset, .unset, .unset, .unset, .unset, .unset] [(.long q3), (.int (1 : Int32)), (.ref b116)])) rfl rfl (hb hby at_58)
    have K125 : Keep h0 h124 [] := K121.wr W124 (Or.inr sz_b116)
    have V_124 : Arv Z h124 b116 k116 .long (2 : Int32) [(.long q2), (.long q3)] (.long (0 : Int64)) := Arv.set Ar_o123 q_o123 S_o123 N_o123 H_o123 G_o123 rfl W124 1 rfl (Nat.le_of_ble_eq_true rfl)
    have N124 := Fr.snoc X124 N122 g_b116
    refine ogo st124 ?_
    show OWay p e below G T124 (mkF m 59 #[.val (.long q0), .second, .val (.int p1), .val (.long q2), .second, .val (.long q3), .second, .val (.long q4), .second, .val (.int p5), .val (.int (2 : Int32)), .val (.double v11_115), .second, .val (.ref b116), .unset, .unset, .unset, .unset, .unset, .unset] [])
    refine ogo (fun _ z_ => XS.iload X124.here hx rfl (hb hby at_59) rfl z_) ?_
    show OWay p e below G T124 (mkF m 61 #[.val (.long q0), .second, .val (.int p1), .val (.long q2), .second, .val (.long q3), .second, .val (.long q4), .second, .val (.int p5), .val (.int (2 : Int32)), .val (.double v11_115), .second, .val (.ref b116), .unset, .unset, .unset, .unset, .unset, .unset] [(.int (2 : Int32))])
    refine ogo (fun _ z_ => XS.iconst X124.here hx rfl (hb hby at_61) z_) ?_
    show OWay p e below G T124 (mkF m 62 #[.val (.long q0), .second, .val (.int p1), .val (.long q2), .second, .val (.long q3), .second, .val (.long q4), .second, .val (.int p5), .val (.int (2 : Int32)), .val (.double v11_115), .second, .val (.ref b116), .unset, .unset, .unset, .unset, .unset, .unset] [(.int (2 : Int32)), (.int (2 : Int32))])
    refine ogo (fun _ z_ => XS.icmpYes X124.here hx rfl (pc0 := 62) (pc' := 76) rfl (hb hby at_62) rfl (flt (by decide)).2.2.2 (by decide) (by decide) z_) ?_
    show OWay p e below G T124 (mkF m 76 #[.val (.long q0), .second, .val (.int p1), .val (.long q2), .second, .val (.long q3), .second, .val (.long q4), .second, .val (.int p5), .val (.int (2 : Int32)), .val (.double v11_115), .second, .val (.ref b116), .unset, .unset, .unset, .unset, .unset, .unset] [])
    obtain ⟨T126, h126, X126, eT126, E126, A126, D126, -, st126⟩ := newO X124 hx hZ hown (hw _ (List.mem_of_getElem? (i := 3) rfl)) (hw _ (List.mem_of_getElem? (i := 4) rfl)) (hw _ (List.mem_of_getElem? (i := 5) rfl)) eT124 (g := (mkF m 76 #[.val (.long q0), .second, .val (.int p1), .val (.long q2), .second, .val (.long q3), .second, .val (.long q4), .second, .val (.int p5), .val (.int (2 : Int32)), .val (.double v11_115), .second, .val (.ref b116), .unset, .unset, .unset, .unset, .unset, .unset] [])) rfl (hb hby at_76) (by decide) (by decide)
    obtain ⟨b126, g126⟩ : ∃ z, z = h124.size := ⟨_, rfl⟩
    rw [← g126] at A126 D126 st126
    have g_b126 : n0 ≤ b126 := Nat.le_trans (Nat.le_trans (Nat.le_trans (Nat.le_trans Z0 E116.1) (Keep.of_wr W120).1) (Keep.of_wr W124).1) (Nat.le_of_eq g126.symm)
    have sz_b126 : h0.size ≤ b126 := Nat.le_trans K125.1 (Nat.le_of_eq g126.symm)
    have K127 : Keep h0 h126 [] := K125.ext E126
    have F_capacity_b126 : Fld Z h126 b126 "com/example/sito/sito/Slice" "capacity" "J" (.long (0 : Int64)) := D126 (Or.inr (hw _ (List.mem_of_getElem? (i := 13) rfl))) (ty := .long) (by decide)
    have F_bound_b126 : Fld Z h126 b126 "com/example/sito/sito/Slice" "bound" "D" (.double (0 : UInt64)) := D126 (Or.inr (hw _ (List.mem_of_getElem? (i := 15) rfl))) (ty := .double) (by decide)
    have F_hashCount_b126 : Fld Z h126 b126 "com/example/sito/sito/Slice" "hashCount" "I" (.int (0 : Int32)) := D126 (Or.inr (hw _ (List.mem_of_getElem? (i := 17) rfl))) (ty := .int) (by decide)
    have F_bitCount_b126 : Fld Z h126 b126 "com/example/sito/sito/Slice" "bitCount" "J" (.long (0 : Int64)) := D126 (Or.inr (hw _ (List.mem_of_getElem? (i := 20) rfl))) (ty := .long) (by decide)
    have F_words_b126 : Fld Z h126 b126 "com/example/sito/sito/Slice" "words" "[J" .null := D126 (Or.inr (hw _ (List.mem_of_getElem? (i := 22) rfl))) (ty := (.array .long)) (by decide)
    have F_items_b126 : Fld Z h126 b126 "com/example/sito/sito/Slice" "items" "J" (.long (0 : Int64)) := D126 (Or.inl (hw _ (List.mem_of_getElem? (i := 24) rfl))) (ty := .long) (by decide)
    refine ogo st126 ?_
    show OWay p e below G T126 (mkF m 79 #[.val (.long q0), .second, .val (.int p1), .val (.long q2), .second, .val (.long q3), .second, .val (.long q4), .second, .val (.int p5), .val (.int (2 : Int32)), .val (.double v11_115), .second, .val (.ref b116), .unset, .unset, .unset, .unset, .unset, .unset] [(.ref b126)])
    refine ogo (fun _ z_ => XS.dup X126.here hx rfl (hb hby at_79) rfl rfl z_) ?_
    show OWay p e below G T126 (mkF m 80 #[.val (.long q0), .second, .val (.int p1), .val (.long q2), .second, .val (.long q3), .second, .val (.long q4), .second, .val (.int p5), .val (.int (2 : Int32)), .val (.double v11_115), .second, .val (.ref b116), .unset, .unset, .unset, .unset, .unset, .unset] [(.ref b126), (.ref b126)])
    refine ogo (fun _ z_ => XS.lloadN X126.here hx rfl (hb hby at_80) rfl z_) ?_
    show OWay p e below G T126 (mkF m 81 #[.val (.long q0), .second, .val (.int p1), .val (.long q2), .second, .val (.long q3), .second, .val (.long q4), .second, .val (.int p5), .val (.int (2 : Int32)), .val (.double v11_115), .second, .val (.ref b116), .unset, .unset, .unset, .unset, .unset, .unset] [(.long q0), (.ref b126), (.ref b126)])
    refine ogo (fun _ z_ => XS.dload X126.here hx rfl (hb hby at_81) rfl z_) ?_
    show OWay p e below G T126 (mkF m 83 #[.val (.long q0), .second, .val (.int p1), .val (.long q2), .second, .val (.long q3), .second, .val (.long q4), .second, .val (.int p5), .val (.int (2 : Int32)), .val (.double v11_115), .second, .val (.ref b116), .unset, .unset, .unset, .unset, .unset, .unset] [(.double v11_115), (.long q0), (.ref b126), (.ref b126)])
    refine ogo (fun _ z_ => XS.iloadN X126.here hx rfl (hb hby at_83) rfl z_) ?_
    show OWay p e below G T126 (mkF m 84 #[.val (.long q0), .second, .val (.int p1), .val (.long q2), .second, .val (.long q3), .second, .val (.long q4), .second, .val (.int p5), .val (.int (2 : Int32)), .val (.double v11_115), .second, .val (.ref b116), .unset, .unset, .unset, .unset, .unset, .unset] [(.int p1), (.double v11_115), (.long q0), (.ref b126), (.ref b126)])
    refine ogo (fun _ z_ => XS.aload X126.here hx rfl (hb hby at_84) rfl rfl z_) ?_
    show OWay p e below G T126 (mkF m 86 #[.val (.long q0), .second, .val (.int p1), .val (.long q2), .second, .val (.long q3), .second, .val (.long q4), .second, .val (.int p5), .val (.int (2 : Int32)), .val (.double v11_115), .second, .val (.ref b116), .unset, .unset, .unset, .unset, .unset, .unset] [(.ref b116), (.int p1), (.double v11_115), (.long q0), (.ref b126), (.ref b126)])
    refine ogo (fun _ z_ => XS.lload X126.here hx rfl (hb hby at_86) rfl z_) ?_
    show OWay p e below G T126 (mkF m 88 #[.val (.long q0), .second, .val (.int p1), .val (.long q2), .second, .val (.long q3), .second, .val (.long q4), .second, .val (.int p5), .val (.int (2 : Int32)), .val (.double v11_115), .second, .val (.ref b116), .unset, .unset, .unset, .unset, .unset, .unset] [(.long q4), (.ref b116), (.int p1), (.double v11_115), (.long q0), (.ref b126), (.ref b126)])
    have F128 : Arv Z h126 b116 k116 .long (2 : Int32) [(.long q2), (.long q3)] (.long (0 : Int64)) := (V_124.ext E126)
    obtain ⟨_, T129, L129, X129, hQ129, st129⟩ := wInit X126 hx hZ (y := (⟨"com/example/sito/sito/Slice", "<init>", "(JDI[JJ)V"⟩ : MethodName)) rfl hown (hw _ (List.mem_of_getElem? (i := 6) rfl)) (hw _ (List.mem_of_getElem? (i := 7) rfl)) (hw _ (List.mem_of_getElem? (i := 5) rfl)) (hw _ (List.mem_of_getElem? (i := 8) rfl)) (by decide) (ctor_2_c l Z az hw [] b126 q0 v11_115 p1 b116 q4 k116 (.long q2) (.long q3) h126 n0 (Nat.le_trans (Nat.le_trans (Nat.le_trans (Nat.le_trans Z0 E116.1) (Keep.of_wr W120).1) (Keep.of_wr W124).1) E126.1) F128 (Nat.ne_of_lt (Nat.lt_of_lt_of_le V_124.lt (Nat.le_of_eq g126.symm))) A126 g_b126 F_capacity_b126 F_bound_b126 F_hashCount_b126 F_bitCount_b126 F_words_b126 F_items_b126) 1 (by decide) (by decide) (g := (mkF m 88 #[.val (.long q0), .second, .val (.int p1), .val (.long q2), .second, .val (.long q3), .second, .val (.long q4), .second, .val (.int p5), .val (.int (2 : Int32)), .val (.double v11_115), .second, .val (.ref b116), .unset, .unset, .unset, .unset, .unset, .unset] [(.long q4), (.ref b116), (.int p1), (.double v11_115), (.long q0), (.ref b126), (.ref b126)])) rfl (by rw [hml]; rfl) (a := b126) (argsL := [(.long q0), (.double v11_115), (.int p1), (.ref b116), (.long q4)]) (rest := [(.ref b126)]) (lenOf pd__JDI_JJ_V rfl) rfl (by show 2 * 0 + _ ≤ _; exact Nat.le_of_eq rfl) (hb hby at_88) rfl eT126 (by decide) (by decide)
    obtain ⟨rfl, N129q, Kq129, P130, P131, P132, P133, P134, P135⟩ := hQ129
    have N129 := Fr.app N124 N129q
    have K136 : Keep h0 T129.heap [] := K127.trans Kq129 (allS (Or.inr sz_b126) all0)
    refine ogoS st129 ?_
    show OWay p e below G T129 (mkF m 91 #[.val (.long q0), .second, .val (.int p1), .val (.long q2), .second, .val (.long q3), .second, .val (.long q4), .second, .val (.int p5), .val (.int (2 : Int32)), .val (.double v11_115), .second, .val (.ref b116), .unset, .unset, .unset, .unset, .unset, .unset] [(.ref b126)])
    refine ogo (fun _ z_ => XS.astore X129.here hx rfl (hb hby at_91) rfl rfl (l' := #[.val (.long q0), .second, .val (.int p1), .val (.long q2), .second, .val (.long q3), .second, .val (.long q4), .second, .val (.int p5), .val (.int (2 : Int32)), .val (.double v11_115), .second, .val (.ref b116), .val (.ref b126), .unset, .unset, .unset, .unset, .unset]) rfl z_) ?_
    show OWay p e below G T129 (mkF m 93 #[.val (.long q0), .second, .val (.int p1), .val (.long q2), .second, .val (.long q3), .second, .val (.long q4), .second, .val (.int p5), .val (.int (2 : Int32)), .val (.double v11_115), .second, .val (.ref b116), .val (.ref b126), .unset, .unset, .unset, .unset, .unset] [])
    refine ogo (fun _ z_ => XS.aload X129.here hx rfl (hb hby at_93) rfl rfl z_) ?_
    show OWay p e below G T129 (mkF m 95 #[.val (.long q0), .second, .val (.int p1), .val (.long q2), .second, .val (.long q3), .second, .val (.long q4), .second, .val (.int p5), .val (.int (2 : Int32)), .val (.double v11_115), .second, .val (.ref b116), .val (.ref b126), .unset, .unset, .unset, .unset, .unset] [(.ref b126)])
    have F137 : Arv Z T129.heap b116 k116 .long (2 : Int32) [(.long q2), (.long q3)] (.long (0 : Int64)) := (F128.keep Kq129 (ninS (Nat.ne_of_lt (Nat.lt_of_lt_of_le V_124.lt (Nat.le_of_eq g126.symm))) nin0))
    have F138 : Exa Z T129.heap b116 "[J" := ((((Ex_b116.wr W120).wr W124).ext E126).keep Kq129)
    have F140 : Exa Z T129.heap b126 "com/example/sito/sito/Slice" := (A126.keep Kq129)
    obtain ⟨_, T139, L139, X139, hQ139, st139⟩ := wVirtual X129 hx hZ (y := (⟨"com/example/sito/sito/Slice", "copy", "()Lcom/example/sito/sito/Slice;"⟩ : MethodName)) (z := (⟨"com/example/sito/sito/Slice", "copy", "()Lcom/example/sito/sito/Slice;"⟩ : MethodName)) hown (hw _ (List.mem_of_getElem? (i := 25) rfl)) (hw _ (List.mem_of_getElem? (i := 26) rfl)) (notFace_of_selects (args := #[]) (mvT hZ (hw _ (List.mem_of_getElem? (i := 28) rfl)))) (hw _ (List.mem_of_getElem? (i := 28) rfl)) (hw _ (List.mem_of_getElem? (i := 27) rfl)) (hw _ (List.mem_of_getElem? (i := 5) rfl)) (hw _ (List.mem_of_getElem? (i := 29) rfl)) (by decide) (copy2_c l Z az hw [] b126 q0 v11_115 p1 b116 q4 k116 q2 q3 T129.heap n0 (Nat.le_trans (Nat.le_trans (Nat.le_trans (Nat.le_trans (Nat.le_trans Z0 E116.1) (Keep.of_wr W120).1) (Keep.of_wr W124).1) E126.1) Kq129.1) P130 P131 P132 P134 P135 F137 F138) 0 (by decide) (by decide) F140 (g := (mkF m 95 #[.val (.long q0), .second, .val (.int p1), .val (.long q2), .second, .val (.long q3), .second, .val (.long q4), .second, .val (.int p5), .val (.int (2 : Int32)), .val (.double v11_115), .second, .val (.ref b116), .val (.ref b126), .unset, .unset, .unset, .unset, .unset] [(.ref b126)])) rfl (by rw [hml]; rfl) (argsL := []) (rest := []) (lenOf pd___Lcom_example_sito_sito_Slice_ rfl) rfl (by show 2 * 0 + _ ≤ _; exact Nat.le_of_eq rfl) (hb hby at_95) rfl rfl (by decide) (by decide)
    obtain ⟨b_141, c_142, kc_143, rfl, N139q, Kq139, P144, P145, P146, P147, P148, P149, P150, P151, P152, P153, P154, P155, P156⟩ := hQ139
    have N139 := Fr.app N129 N139q
    have K157 : Keep h0 T139.heap [] := K136.trans Kq139 all0
    have g_b_141 := P144
    have sz_b_141 : h0.size ≤ b_141 := Nat.le_trans K136.1 P145
    have g_c_142 := P146
    have sz_c_142 : h0.size ≤ c_142 := Nat.le_trans K136.1 P147
    refine ogoS st139 ?_
    show OWay p e below G T139 (mkF m 98 #[.val (.long q0), .second, .val (.int p1), .val (.long q2), .second, .val (.long q3), .second, .val (.long q4), .second, .val (.int p5), .val (.int (2 : Int32)), .val (.double v11_115), .second, .val (.ref b116), .val (.ref b126), .unset, .unset, .unset, .unset, .unset] [(.ref b_141)])
    refine ogo (fun _ z_ => XS.astore X139.here hx rfl (hb hby at_98) rfl rfl (l' := #[.val (.long q0), .second, .val (.int p1), .val (.long q2), .second, .val (.long q3), .second, .val (.long q4), .second, .val (.int p5), .val (.int (2 : Int32)), .val (.double v11_115), .second, .val (.ref b116), .val (.ref b126), .val (.ref b_141), .unset, .unset, .unset, .unset]) rfl z_) ?_
    show OWay p e below G T139 (mkF m 100 #[.val (.long q0), .second, .val (.int p1), .val (.long q2), .second, .val (.long q3), .second, .val (.long q4), .second, .val (.int p5), .val (.int (2 : Int32)), .val (.double v11_115), .second, .val (.ref b116), .val (.ref b126), .val (.ref b_141), .unset, .unset, .unset, .unset] [])
    refine ogo (fun _ z_ => XS.aload X139.here hx rfl (hb hby at_100) rfl rfl z_) ?_
    show OWay p e below G T139 (mkF m 102 #[.val (.long q0), .second, .val (.int p1), .val (.long q2), .second, .val (.long q3), .second, .val (.long q4), .second, .val (.int p5), .val (.int (2 : Int32)), .val (.double v11_115), .second, .val (.ref b116), .val (.ref b126), .val (.ref b_141), .unset, .unset, .unset, .unset] [(.ref b_141)])
    refine ogo (fun _ z_ => XS.ifnullNo X139.here hx rfl (hb hby at_102) rfl z_) ?_
    show OWay p e below G T139 (mkF m 105 #[.val (.long q0), .second, .val (.int p1), .val (.long q2), .second, .val (.long q3), .second, .val (.long q4), .second, .val (.int p5), .val (.int (2 : Int32)), .val (.double v11_115), .second, .val (.ref b116), .val (.ref b126), .val (.ref b_141), .unset, .unset, .unset, .unset] [])
    refine ogo (fun _ z_ => XS.aload X139.here hx rfl (hb hby at_105) rfl rfl z_) ?_
    show OWay p e below G T139 (mkF m 107 #[.val (.long q0), .second, .val (.int p1), .val (.long q2), .second, .val (.long q3), .second, .val (.long q4), .second, .val (.int p5), .val (.int (2 : Int32)), .val (.double v11_115), .second, .val (.ref b116), .val (.ref b126), .val (.ref b_141), .unset, .unset, .unset, .unset] [(.ref b_141)])
    refine ogo (fun _ z_ => XS.aload X139.here hx rfl (hb hby at_107) rfl rfl z_) ?_
    show OWay p e below G T139 (mkF m 109 #[.val (.long q0), .second, .val (.int p1), .val (.long q2), .second, .val (.long q3), .second, .val (.long q4), .second, .val (.int p5), .val (.int (2 : Int32)), .val (.double v11_115), .second, .val (.ref b116), .val (.ref b126), .val (.ref b_141), .unset, .unset, .unset, .unset] [(.ref b126), (.ref b_141)])
    refine ogo (fun _ z_ => Jvm.RoadKit.acmp (g := (mkF m 109 #[.val (.long q0), .second, .val (.int p1), .val (.long q2), .second, .val (.long q3), .second, .val (.long q4), .second, .val (.int p5), .val (.int (2 : Int32)), .val (.double v11_115), .second, .val (.ref b116), .val (.ref b126), .val (.ref b_141), .unset, .unset, .unset, .unset] [(.ref b126), (.ref b_141)])) X139 hx rfl rfl rfl (pc0 := 109) (pc' := 114) (same := false) rfl (hb hby at_109) rfl (decide_eq_false fun q => (Ne.symm (Nat.ne_of_lt (Nat.lt_of_lt_of_le F140.lt P145))) (Value.ref.inj q)) (by decide) (by decide) z_) ?_
    show OWay p e below G T139 (mkF m 114 #[.val (.long q0), .second, .val (.int p1), .val (.long q2), .second, .val (.long q3), .second, .val (.long q4), .second, .val (.int p5), .val (.int (2 : Int32)), .val (.double v11_115), .second, .val (.ref b116), .val (.ref b126), .val (.ref b_141), .unset, .unset, .unset, .unset] [])
    refine ogo (fun _ z_ => XS.aload X139.here hx rfl (hb hby at_114) rfl rfl z_) ?_
    show OWay p e below G T139 (mkF m 116 #[.val (.long q0), .second, .val (.int p1), .val (.long q2), .second, .val (.long q3), .second, .val (.long q4), .second, .val (.int p5), .val (.int (2 : Int32)), .val (.double v11_115), .second, .val (.ref b116), .val (.ref b126), .val (.ref b_141), .unset, .unset, .unset, .unset] [(.ref b_141)])
    obtain ⟨_, T158, L158, X158, hQ158, st158⟩ := wVirtual X139 hx hZ (y := (⟨"com/example/sito/sito/Slice", "getCapacity", "()J"⟩ : MethodName)) (z := (⟨"com/example/sito/sito/Slice", "getCapacity", "()J"⟩ : MethodName)) hown (hw _ (List.mem_of_getElem? (i := 41) rfl)) (hw _ (List.mem_of_getElem? (i := 42) rfl)) (notFace_of_selects (args := #[]) (mvT hZ (hw _ (List.mem_of_getElem? (i := 44) rfl)))) (hw _ (List.mem_of_getElem? (i := 44) rfl)) (hw _ (List.mem_of_getElem? (i := 43) rfl)) (hw _ (List.mem_of_getElem? (i := 5) rfl)) (hw _ (List.mem_of_getElem? (i := 45) rfl)) (by decide) (get4_c l Z az hw [] b_141 q0 T139.heap n0 (Nat.le_trans (Nat.le_trans (Nat.le_trans (Nat.le_trans (Nat.le_trans (Nat.le_trans Z0 E116.1) (Keep.of_wr W120).1) (Keep.of_wr W124).1) E126.1) Kq129.1) Kq139.1) P150) 0 (by decide) (by decide) P149 (g := (mkF m 116 #[.val (.long q0), .second, .val (.int p1), .val (.long q2), .second, .val (.long q3), .second, .val (.long q4), .second, .val (.int p5), .val (.int (2 : Int32)), .val (.double v11_115), .second, .val (.ref b116), .val (.ref b126), .val (.ref b_141), .unset, .unset, .unset, .unset] [(.ref b_141)])) rfl (by rw [hml]; rfl) (argsL := []) (rest := []) (lenOf pd___J rfl) rfl (by show 2 * 0 + _ ≤ _; exact Nat.le_of_eq rfl) (hb hby at_116) rfl rfl (by decide) (by decide)
    obtain ⟨rfl, N158q, eq158⟩ := hQ158
    have N158 := Fr.app N139 N158q
    refine ogoS st158 ?_
    show OWay p e below G T158 (mkF m 119 #[.val (.long q0), .second, .val (.int p1), .val (.long q2), .second, .val (.long q3), .second, .val (.long q4), .second, .val (.int p5), .val (.int (2 : Int32)), .val (.double v11_115), .second, .val (.ref b116), .val (.ref b126), .val (.ref b_141), .unset, .unset, .unset, .unset] [(.long q0)])
    refine ogo (fun _ z_ => XS.lloadN X158.here hx rfl (hb hby at_119) rfl z_) ?_
    show OWay p e below G T158 (mkF m 120 #[.val (.long q0), .second, .val (.int p1), .val (.long q2), .second, .val (.long q3), .second, .val (.long q4), .second, .val (.int p5), .val (.int (2 : Int32)), .val (.double v11_115), .second, .val (.ref b116), .val (.ref b126), .val (.ref b_141), .unset, .unset, .unset, .unset] [(.long q0), (.long q0)])
    refine ogo (fun _ z_ => XS.lcmp X158.here hx rfl (hb hby at_120) rfl z_) ?_
    show OWay p e below G T158 (mkF m 121 #[.val (.long q0), .second, .val (.int p1), .val (.long q2), .second, .val (.long q3), .second, .val (.long q4), .second, .val (.int p5), .val (.int (2 : Int32)), .val (.double v11_115), .second, .val (.ref b116), .val (.ref b126), .val (.ref b_141), .unset, .unset, .unset, .unset] [(.int (lcmpW q0 q0))])
    refine ogo (fun _ z_ => XS.ifNo X158.here hx rfl (hb hby at_121) rfl ((if0 _ _).trans (teq ((lw_eq _ _).mpr rfl)).2) z_) ?_
    show OWay p e below G T158 (mkF m 124 #[.val (.long q0), .second, .val (.int p1), .val (.long q2), .second, .val (.long q3), .second, .val (.long q4), .second, .val (.int p5), .val (.int (2 : Int32)), .val (.double v11_115), .second, .val (.ref b116), .val (.ref b126), .val (.ref b_141), .unset, .unset, .unset, .unset] [])
    refine ogo (fun _ z_ => XS.aload X158.here hx rfl (hb hby at_124) rfl rfl z_) ?_
    show OWay p e below G T158 (mkF m 126 #[.val (.long q0), .second, .val (.int p1), .val (.long q2), .second, .val (.long q3), .second, .val (.long q4), .second, .val (.int p5), .val (.int (2 : Int32)), .val (.double v11_115), .second, .val (.ref b116), .val (.ref b126), .val (.ref b_141), .unset, .unset, .unset, .unset] [(.ref b_141)])
    obtain ⟨_, T159, L159, X159, hQ159, st159⟩ := wVirtual X158 hx hZ (y := (⟨"com/example/sito/sito/Slice", "getBound", "()D"⟩ : MethodName)) (z := (⟨"com/example/sito/sito/Slice", "getBound", "()D"⟩ : MethodName)) hown (hw _ (List.mem_of_getElem? (i := 46) rfl)) (hw _ (List.mem_of_getElem? (i := 47) rfl)) (notFace_of_selects (args := #[]) (mvT hZ (hw _ (List.mem_of_getElem? (i := 49) rfl)))) (hw _ (List.mem_of_getElem? (i := 49) rfl)) (hw _ (List.mem_of_getElem? (i := 48) rfl)) (hw _ (List.mem_of_getElem? (i := 5) rfl)) (hw _ (List.mem_of_getElem? (i := 50) rfl)) (by decide) (get5_c l Z az hw [] b_141 v11_115 T139.heap n0 (Nat.le_trans (Nat.le_trans (Nat.le_trans (Nat.le_trans (Nat.le_trans (Nat.le_trans Z0 E116.1) (Keep.of_wr W120).1) (Keep.of_wr W124).1) E126.1) Kq129.1) Kq139.1) P151) 0 (by decide) (by decide) P149 (g := (mkF m 126 #[.val (.long q0), .second, .val (.int p1), .val (.long q2), .second, .val (.long q3), .second, .val (.long q4), .second, .val (.int p5), .val (.int (2 : Int32)), .val (.double v11_115), .second, .val (.ref b116), .val (.ref b126), .val (.ref b_141), .unset, .unset, .unset, .unset] [(.ref b_141)])) rfl (by rw [hml]; rfl) (argsL := []) (rest := []) (lenOf pd___D rfl) rfl (by show 2 * 0 + _ ≤ _; exact Nat.le_of_eq rfl) (hb hby at_126) rfl eq158 (by decide) (by decide)
    obtain ⟨rfl, N159q, eq159⟩ := hQ159
    have N159 := Fr.app N158 N159q
    refine ogoS st159 ?_
    show OWay p e below G T159 (mkF m 129 #[.val (.long q0), .second, .val (.int p1), .val (.long q2), .second, .val (.long q3), .second, .val (.long q4), .second, .val (.int p5), .val (.int (2 : Int32)), .val (.double v11_115), .second, .val (.ref b116), .val (.ref b126), .val (.ref b_141), .unset, .unset, .unset, .unset] [(.double v11_115)])
    refine ogo (fun _ z_ => XS.dload X159.here hx rfl (hb hby at_129) rfl z_) ?_
    show OWay p e below G T159 (mkF m 131 #[.val (.long q0), .second, .val (.int p1), .val (.long q2), .second, .val (.long q3), .second, .val (.long q4), .second, .val (.int p5), .val (.int (2 : Int32)), .val (.double v11_115), .second, .val (.ref b116), .val (.ref b126), .val (.ref b_141), .unset, .unset, .unset, .unset] [(.double v11_115), (.double v11_115)])
    refine ogo (fun _ z_ => XS.dcmpS X159.here hx rfl (hb hby at_131) rfl rfl z_) ?_
    show OWay p e below G T159 (mkF m 132 #[.val (.long q0), .second, .val (.int p1), .val (.long q2), .second, .val (.long q3), .second, .val (.long q4), .second, .val (.int p5), .val (.int (2 : Int32)), .val (.double v11_115), .second, .val (.ref b116), .val (.ref b126), .val (.ref b_141), .unset, .unset, .unset, .unset] [(.int (cmpValue (FP.dcmp v11_115 v11_115) .l))])
    refine ogo (fun _ z_ => XS.ifNo X159.here hx rfl (hb hby at_132) rfl ((if0 _ _).trans (teq (dcmpV_self (by rw [hv11_115]; exact own_nn _) .l)).2) z_) ?_
    show OWay p e below G T159 (mkF m 135 #[.val (.long q0), .second, .val (.int p1), .val (.long q2), .second, .val (.long q3), .second, .val (.long q4), .second, .val (.int p5), .val (.int (2 : Int32)), .val (.double v11_115), .second, .val (.ref b116), .val (.ref b126), .val (.ref b_141), .unset, .unset, .unset, .unset] [])
    refine ogo (fun _ z_ => XS.aload X159.here hx rfl (hb hby at_135) rfl rfl z_) ?_
    show OWay p e below G T159 (mkF m 137 #[.val (.long q0), .second, .val (.int p1), .val (.long q2), .second, .val (.long q3), .second, .val (.long q4), .second, .val (.int p5), .val (.int (2 : Int32)), .val (.double v11_115), .second, .val (.ref b116), .val (.ref b126), .val (.ref b_141), .unset, .unset, .unset, .unset] [(.ref b_141)])
    obtain ⟨_, T160, L160, X160, hQ160, st160⟩ := wVirtual X159 hx hZ (y := (⟨"com/example/sito/sito/Slice", "getHashCount", "()I"⟩ : MethodName)) (z := (⟨"com/example/sito/sito/Slice", "getHashCount", "()I"⟩ : MethodName)) hown (hw _ (List.mem_of_getElem? (i := 51) rfl)) (hw _ (List.mem_of_getElem? (i := 52) rfl)) (notFace_of_selects (args := #[]) (mvT hZ (hw _ (List.mem_of_getElem? (i := 54) rfl)))) (hw _ (List.mem_of_getElem? (i := 54) rfl)) (hw _ (List.mem_of_getElem? (i := 53) rfl)) (hw _ (List.mem_of_getElem? (i := 5) rfl)) (hw _ (List.mem_of_getElem? (i := 55) rfl)) (by decide) (get6_c l Z az hw [] b_141 p1 T139.heap n0 (Nat.le_trans (Nat.le_trans (Nat.le_trans (Nat.le_trans (Nat.le_trans (Nat.le_trans Z0 E116.1) (Keep.of_wr W120).1) (Keep.of_wr W124).1) E126.1) Kq129.1) Kq139.1) P152) 0 (by decide) (by decide) P149 (g := (mkF m 137 #[.val (.long q0), .second, .val (.int p1), .val (.long q2), .second, .val (.long q3), .second, .val (.long q4), .second, .val (.int p5), .val (.int (2 : Int32)), .val (.double v11_115), .second, .val (.ref b116), .val (.ref b126), .val (.ref b_141), .unset, .unset, .unset, .unset] [(.ref b_141)])) rfl (by rw [hml]; rfl) (argsL := []) (rest := []) (lenOf pd___I rfl) rfl (by show 2 * 0 + _ ≤ _; exact Nat.le_of_eq rfl) (hb hby at_137) rfl eq159 (by decide) (by decide)
    obtain ⟨rfl, N160q, eq160⟩ := hQ160
    have N160 := Fr.app N159 N160q
    refine ogoS st160 ?_
    show OWay p e below G T160 (mkF m 140 #[.val (.long q0), .second, .val (.int p1), .val (.long q2), .second, .val (.long q3), .second, .val (.long q4), .second, .val (.int p5), .val (.int (2 : Int32)), .val (.double v11_115), .second, .val (.ref b116), .val (.ref b126), .val (.ref b_141), .unset, .unset, .unset, .unset] [(.int p1)])
    refine ogo (fun _ z_ => XS.iloadN X160.here hx rfl (hb hby at_140) rfl z_) ?_
    show OWay p e below G T160 (mkF m 141 #[.val (.long q0), .second, .val (.int p1), .val (.long q2), .second, .val (.long q3), .second, .val (.long q4), .second, .val (.int p5), .val (.int (2 : Int32)), .val (.double v11_115), .second, .val (.ref b116), .val (.ref b126), .val (.ref b_141), .unset, .unset, .unset, .unset] [(.int p1), (.int p1)])
    refine ogo (fun _ z_ => XS.icmpNo X160.here hx rfl (hb hby at_141) rfl (teq rfl).2 z_) ?_
    show OWay p e below G T160 (mkF m 144 #[.val (.long q0), .second, .val (.int p1), .val (.long q2), .second, .val (.long q3), .second, .val (.long q4), .second, .val (.int p5), .val (.int (2 : Int32)), .val (.double v11_115), .second, .val (.ref b116), .val (.ref b126), .val (.ref b_141), .unset, .unset, .unset, .unset] [])
    refine ogo (fun _ z_ => XS.aload X160.here hx rfl (hb hby at_144) rfl rfl z_) ?_
    show OWay p e below G T160 (mkF m 146 #[.val (.long q0), .second, .val (.int p1), .val (.long q2), .second, .val (.long q3), .second, .val (.long q4), .second, .val (.int p5), .val (.int (2 : Int32)), .val (.double v11_115), .second, .val (.ref b116), .val (.ref b126), .val (.ref b_141), .unset, .unset, .unset, .unset] [(.ref b_141)])
    obtain ⟨_, T161, L161, X161, hQ161, st161⟩ := wVirtual X160 hx hZ (y := (⟨"com/example/sito/sito/Slice", "getBitCount", "()J"⟩ : MethodName)) (z := (⟨"com/example/sito/sito/Slice", "getBitCount", "()J"⟩ : MethodName)) hown (hw _ (List.mem_of_getElem? (i := 56) rfl)) (hw _ (List.mem_of_getElem? (i := 57) rfl)) (notFace_of_selects (args := #[]) (mvT hZ (hw _ (List.mem_of_getElem? (i := 59) rfl)))) (hw _ (List.mem_of_getElem? (i := 59) rfl)) (hw _ (List.mem_of_getElem? (i := 58) rfl)) (hw _ (List.mem_of_getElem? (i := 5) rfl)) (hw _ (List.mem_of_getElem? (i := 60) rfl)) (by decide) (get7_c l Z az hw [] b_141 (128 : Int64) T139.heap n0 (Nat.le_trans (Nat.le_trans (Nat.le_trans (Nat.le_trans (Nat.le_trans (Nat.le_trans Z0 E116.1) (Keep.of_wr W120).1) (Keep.of_wr W124).1) E126.1) Kq129.1) Kq139.1) P153) 0 (by decide) (by decide) P149 (g := (mkF m 146 #[.val (.long q0), .second, .val (.int p1), .val (.long q2), .second, .val (.long q3), .second, .val (.long q4), .second, .val (.int p5), .val (.int (2 : Int32)), .val (.double v11_115), .second, .val (.ref b116), .val (.ref b126), .val (.ref b_141), .unset, .unset, .unset, .unset] [(.ref b_141)])) rfl (by rw [hml]; rfl) (argsL := []) (rest := []) (lenOf pd___J rfl) rfl (by show 2 * 0 + _ ≤ _; exact Nat.le_of_eq rfl) (hb hby at_146) rfl eq160 (by decide) (by decide)
    obtain ⟨rfl, N161q, eq161⟩ := hQ161
    have N161 := Fr.app N160 N161q
    refine ogoS st161 ?_
    show OWay p e below G T161 (mkF m 149 #[.val (.long q0), .second, .val (.int p1), .val (.long q2), .second, .val (.long q3), .second, .val (.long q4), .second, .val (.int p5), .val (.int (2 : Int32)), .val (.double v11_115), .second, .val (.ref b116), .val (.ref b126), .val (.ref b_141), .unset, .unset, .unset, .unset] [(.long (128 : Int64))])
    refine ogo (fun _ z_ => X161.ldc2Long hx hown (mvT hZ (hw _ (List.mem_of_getElem? (i := 61) rfl))) (g := (mkF m 149 #[.val (.long q0), .second, .val (.int p1), .val (.long q2), .second, .val (.long q3), .second, .val (.long q4), .second, .val (.int p5), .val (.int (2 : Int32)), .val (.double v11_115), .second, .val (.ref b116), .val (.ref b126), .val (.ref b_141), .unset, .unset, .unset, .unset] [(.long (128 : Int64))])) rfl (hb hby at_149) _ z_) ?_
    show OWay p e below G T161 (mkF m 152 #[.val (.long q0), .second, .val (.int p1), .val (.long q2), .second, .val (.long q3), .second, .val (.long q4), .second, .val (.int p5), .val (.int (2 : Int32)), .val (.double v11_115), .second, .val (.ref b116), .val (.ref b126), .val (.ref b_141), .unset, .unset, .unset, .unset] [(.long (64 : Int64)), (.long (128 : Int64))])
    refine ogo (fun _ z_ => XS.iload X161.here hx rfl (hb hby at_152) rfl z_) ?_
    show OWay p e below G T161 (mkF m 154 #[.val (.long q0), .second, .val (.int p1), .val (.long q2), .second, .val (.long q3), .second, .val (.long q4), .second, .val (.int p5), .val (.int (2 : Int32)), .val (.double v11_115), .second, .val (.ref b116), .val (.ref b126), .val (.ref b_141), .unset, .unset, .unset, .unset] [(.int (2 : Int32)), (.long (64 : Int64)), (.long (128 : Int64))])
    refine ogo (fun _ z_ => XS.i2l X161.here hx rfl (hb hby at_154) rfl z_) ?_
    show OWay p e below G T161 (mkF m 155 #[.val (.long q0), .second, .val (.int p1), .val (.long q2), .second, .val (.long q3), .second, .val (.long q4), .second, .val (.int p5), .val (.int (2 : Int32)), .val (.double v11_115), .second, .val (.ref b116), .val (.ref b126), .val (.ref b_141), .unset, .unset, .unset, .unset] [(.long ((2 : Int32).toInt64)), (.long (64 : Int64)), (.long (128 : Int64))])
    refine ogoE (g' := (mkF m 155 #[.val (.long q0), .second, .val (.int p1), .val (.long q2), .second, .val (.long q3), .second, .val (.long q4), .second, .val (.int p5), .val (.int (2 : Int32)), .val (.double v11_115), .second, .val (.ref b116), .val (.ref b126), .val (.ref b_141), .unset, .unset, .unset, .unset] [(.long (2 : Int64)), (.long (64 : Int64)), (.long (128 : Int64))])) (by rw [show ((2 : Int32).toInt64) = (2 : Int64) from by decide]) ?_
    refine ogo (fun _ z_ => XS.lmul X161.here hx rfl (hb hby at_155) rfl z_) ?_
    show OWay p e below G T161 (mkF m 156 #[.val (.long q0), .second, .val (.int p1), .val (.long q2), .second, .val (.long q3), .second, .val (.long q4), .second, .val (.int p5), .val (.int (2 : Int32)), .val (.double v11_115), .second, .val (.ref b116), .val (.ref b126), .val (.ref b_141), .unset, .unset, .unset, .unset] [(.long ((64 : Int64) * (2 : Int64))), (.long (128 : Int64))])
    refine ogoE (g' := (mkF m 156 #[.val (.long q0), .second, .val (.int p1), .val (.long q2), .second, .val (.long q3), .second, .val (.long q4), .second, .val (.int p5), .val (.int (2 : Int32)), .val (.double v11_115), .second, .val (.ref b116), .val (.ref b126), .val (.ref b_141), .unset, .unset, .unset, .unset] [(.long (128 : Int64)), (.long (128 : Int64))])) (by rw [show ((64 : Int64) * (2 : Int64)) = (128 : Int64) from by decide]) ?_
    refine ogo (fun _ z_ => XS.lcmp X161.here hx rfl (hb hby at_156) rfl z_) ?_
    show OWay p e below G T161 (mkF m 157 #[.val (.long q0), .second, .val (.int p1), .val (.long q2), .second, .val (.long q3), .second, .val (.long q4), .second, .val (.int p5), .val (.int (2 : Int32)), .val (.double v11_115), .second, .val (.ref b116), .val (.ref b126), .val (.ref b_141), .unset, .unset, .unset, .unset] [(.int (lcmpW (128 : Int64) (128 : Int64)))])
    refine ogo (fun _ z_ => XS.ifNo X161.here hx rfl (hb hby at_157) rfl ((if0 _ _).trans (teq ((lw_eq _ _).mpr rfl)).2) z_) ?_
    show OWay p e below G T161 (mkF m 160 #[.val (.long q0), .second, .val (.int p1), .val (.long q2), .second, .val (.long q3), .second, .val (.long q4), .second, .val (.int p5), .val (.int (2 : Int32)), .val (.double v11_115), .second, .val (.ref b116), .val (.ref b126), .val (.ref b_141), .unset, .unset, .unset, .unset] [])
    refine ogo (fun _ z_ => XS.aload X161.here hx rfl (hb hby at_160) rfl rfl z_) ?_
    show OWay p e below G T161 (mkF m 162 #[.val (.long q0), .second, .val (.int p1), .val (.long q2), .second, .val (.long q3), .second, .val (.long q4), .second, .val (.int p5), .val (.int (2 : Int32)), .val (.double v11_115), .second, .val (.ref b116), .val (.ref b126), .val (.ref b_141), .unset, .unset, .unset, .unset] [(.ref b_141)])
    obtain ⟨_, T162, L162, X162, hQ162, st162⟩ := wVirtual X161 hx hZ (y := (⟨"com/example/sito/sito/Slice", "getItems", "()J"⟩ : MethodName)) (z := (⟨"com/example/sito/sito/Slice", "getItems", "()J"⟩ : MethodName)) hown (hw _ (List.mem_of_getElem? (i := 62) rfl)) (hw _ (List.mem_of_getElem? (i := 63) rfl)) (notFace_of_selects (args := #[]) (mvT hZ (hw _ (List.mem_of_getElem? (i := 65) rfl)))) (hw _ (List.mem_of_getElem? (i := 65) rfl)) (hw _ (List.mem_of_getElem? (i := 64) rfl)) (hw _ (List.mem_of_getElem? (i := 5) rfl)) (hw _ (List.mem_of_getElem? (i := 66) rfl)) (by decide) (get8_c l Z az hw [] b_141 q4 T139.heap n0 (Nat.le_trans (Nat.le_trans (Nat.le_trans (Nat.le_trans (Nat.le_trans (Nat.le_trans Z0 E116.1) (Keep.of_wr W120).1) (Keep.of_wr W124).1) E126.1) Kq129.1) Kq139.1) P155) 0 (by decide) (by decide) P149 (g := (mkF m 162 #[.val (.long q0), .second, .val (.int p1), .val (.long q2), .second, .val (.long q3), .second, .val (.long q4), .second, .val (.int p5), .val (.int (2 : Int32)), .val (.double v11_115), .second, .val (.ref b116), .val (.ref b126), .val (.ref b_141), .unset, .unset, .unset, .unset] [(.ref b_141)])) rfl (by rw [hml]; rfl) (argsL := []) (rest := []) (lenOf pd___J rfl) rfl (by show 2 * 0 + _ ≤ _; exact Nat.le_of_eq rfl) (hb hby at_162) rfl eq161 (by decide) (by decide)
    obtain ⟨rfl, N162q, eq162⟩ := hQ162
    have N162 := Fr.app N161 N162q
    refine ogoS st162 ?_
    show OWay p e below G T162 (mkF m 165 #[.val (.long q0), .second, .val (.int p1), .val (.long q2), .second, .val (.long q3), .second, .val (.long q4), .second, .val (.int p5), .val (.int (2 : Int32)), .val (.double v11_115), .second, .val (.ref b116), .val (.ref b126), .val (.ref b_141), .unset, .unset, .unset, .unset] [(.long q4)])
    refine ogo (fun _ z_ => XS.lload X162.here hx rfl (hb hby at_165) rfl z_) ?_
    show OWay p e below G T162 (mkF m 167 #[.val (.long q0), .second, .val (.int p1), .val (.long q2), .second, .val (.long q3), .second, .val (.long q4), .second, .val (.int p5), .val (.int (2 : Int32)), .val (.double v11_115), .second, .val (.ref b116), .val (.ref b126), .val (.ref b_141), .unset, .unset, .unset, .unset] [(.long q4), (.long q4)])
    refine ogo (fun _ z_ => XS.lcmp X162.here hx rfl (hb hby at_167) rfl z_) ?_
    show OWay p e below G T162 (mkF m 168 #[.val (.long q0), .second, .val (.int p1), .val (.long q2), .second, .val (.long q3), .second, .val (.long q4), .second, .val (.int p5), .val (.int (2 : Int32)), .val (.double v11_115), .second, .val (.ref b116), .val (.ref b126), .val (.ref b_141), .unset, .unset, .unset, .unset] [(.int (lcmpW q4 q4))])
    refine ogo (fun _ z_ => XS.ifNo X162.here hx rfl (hb hby at_168) rfl ((if0 _ _).trans (teq ((lw_eq _ _).mpr rfl)).2) z_) ?_
    show OWay p e below G T162 (mkF m 171 #[.val (.long q0), .second, .val (.int p1), .val (.long q2), .second, .val (.long q3), .second, .val (.long q4), .second, .val (.int p5), .val (.int (2 : Int32)), .val (.double v11_115), .second, .val (.ref b116), .val (.ref b126), .val (.ref b_141), .unset, .unset, .unset, .unset] [])
    refine ogo (fun _ z_ => XS.iconst X162.here hx rfl (hb hby at_171) z_) ?_
    show OWay p e below G T162 (mkF m 172 #[.val (.long q0), .second, .val (.int p1), .val (.long q2), .second, .val (.long q3), .second, .val (.long q4), .second, .val (.int p5), .val (.int (2 : Int32)), .val (.double v11_115), .second, .val (.ref b116), .val (.ref b126), .val (.ref b_141), .unset, .unset, .unset, .unset] [(.int (1 : Int32))])
    refine ogo (fun _ z_ => XS.goto X162.here hx rfl (pc0 := 172) (pc' := 176) rfl (hb hby at_172) (by decide) (by decide) z_) ?_
    show OWay p e below G T162 (mkF m 176 #[.val (.long q0), .second, .val (.int p1), .val (.long q2), .second, .val (.long q3), .second, .val (.long q4), .second, .val (.int p5), .val (.int (2 : Int32)), .val (.double v11_115), .second, .val (.ref b116), .val (.ref b126), .val (.ref b_141), .unset, .unset, .unset, .unset] [(.int (1 : Int32))])
    refine ogo (fun _ z_ => XS.istore X162.here hx rfl (hb hby at_176) rfl (l' := #[.val (.long q0), .second, .val (.int p1), .val (.long q2), .second, .val (.long q3), .second, .val (.long q4), .second, .val (.int p5), .val (.int (2 : Int32)), .val (.double v11_115), .second, .val (.ref b116), .val (.ref b126), .val (.ref b_141), .val (.int (1 : Int32)), .unset, .unset, .unset]) rfl z_) ?_
    show OWay p e below G T162 (mkF m 178 #[.val (.long q0), .second, .val (.int p1), .val (.long q2), .second, .val (.long q3), .second, .val (.long q4), .second, .val (.int p5), .val (.int (2 : Int32)), .val (.double v11_115), .second, .val (.ref b116), .val (.ref b126), .val (.ref b_141), .val (.int (1 : Int32)), .unset, .unset, .unset] [])
    refine ogo (fun _ z_ => XS.aload X162.here hx rfl (hb hby at_178) rfl rfl z_) ?_
    show OWay p e below G T162 (mkF m 180 #[.val (.long q0), .second, .val (.int p1), .val (.long q2), .second, .val (.long q3), .second, .val (.long q4), .second, .val (.int p5), .val (.int (2 : Int32)), .val (.double v11_115), .second, .val (.ref b116), .val (.ref b126), .val (.ref b_141), .val (.int (1 : Int32)), .unset, .unset, .unset] [(.ref b_141)])
    obtain ⟨_, T163, L163, X163, hQ163, st163⟩ := wVirtual X162 hx hZ (y := (⟨"com/example/sito/sito/Slice", "getWords", "()[J"⟩ : MethodName)) (z := (⟨"com/example/sito/sito/Slice", "getWords", "()[J"⟩ : MethodName)) hown (hw _ (List.mem_of_getElem? (i := 67) rfl)) (hw _ (List.mem_of_getElem? (i := 68) rfl)) (notFace_of_selects (args := #[]) (mvT hZ (hw _ (List.mem_of_getElem? (i := 70) rfl)))) (hw _ (List.mem_of_getElem? (i := 70) rfl)) (hw _ (List.mem_of_getElem? (i := 69) rfl)) (hw _ (List.mem_of_getElem? (i := 5) rfl)) (hw _ (List.mem_of_getElem? (i := 71) rfl)) (by decide) (get9_c l Z az hw [] b_141 c_142 T139.heap n0 (Nat.le_trans (Nat.le_trans (Nat.le_trans (Nat.le_trans (Nat.le_trans (Nat.le_trans Z0 E116.1) (Keep.of_wr W120).1) (Keep.of_wr W124).1) E126.1) Kq129.1) Kq139.1) P154) 0 (by decide) (by decide) P149 (g := (mkF m 180 #[.val (.long q0), .second, .val (.int p1), .val (.long q2), .second, .val (.long q3), .second, .val (.long q4), .second, .val (.int p5), .val (.int (2 : Int32)), .val (.double v11_115), .second, .val (.ref b116), .val (.ref b126), .val (.ref b_141), .val (.int (1 : Int32)), .unset, .unset, .unset] [(.ref b_141)])) rfl (by rw [hml]; rfl) (argsL := []) (rest := []) (lenOf pd____J rfl) rfl (by show 2 * 0 + _ ≤ _; exact Nat.le_of_eq rfl) (hb hby at_180) rfl eq162 (by decide) (by decide)
    obtain ⟨rfl, N163q, eq163⟩ := hQ163
    have N163 := Fr.app N162 N163q
    refine ogoS st163 ?_
    show OWay p e below G T163 (mkF m 183 #[.val (.long q0), .second, .val (.int p1), .val (.long q2), .second, .val (.long q3), .second, .val (.long q4), .second, .val (.int p5), .val (.int (2 : Int32)), .val (.double v11_115), .second, .val (.ref b116), .val (.ref b126), .val (.ref b_141), .val (.int (1 : Int32)), .unset, .unset, .unset] [(.ref c_142)])
    refine ogo (fun _ z_ => XS.astore X163.here hx rfl (hb hby at_183) rfl rfl (l' := #[.val (.long q0), .second, .val (.int p1), .val (.long q2), .second, .val (.long q3), .second, .val (.long q4), .second, .val (.int p5), .val (.int (2 : Int32)), .val (.double v11_115), .second, .val (.ref b116), .val (.ref b126), .val (.ref b_141), .val (.int (1 : Int32)), .val (.ref c_142), .unset, .unset]) rfl z_) ?_
    show OWay p e below G T163 (mkF m 185 #[.val (.long q0), .second, .val (.int p1), .val (.long q2), .second, .val (.long q3), .second, .val (.long q4), .second, .val (.int p5), .val (.int (2 : Int32)), .val (.double v11_115), .second, .val (.ref b116), .val (.ref b126), .val (.ref b_141), .val (.int (1 : Int32)), .val (.ref c_142), .unset, .unset] [])
    refine ogo (fun _ z_ => XS.iload X163.here hx rfl (hb hby at_185) rfl z_) ?_
    show OWay p e below G T163 (mkF m 187 #[.val (.long q0), .second, .val (.int p1), .val (.long q2), .second, .val (.long q3), .second, .val (.long q4), .second, .val (.int p5), .val (.int (2 : Int32)), .val (.double v11_115), .second, .val (.ref b116), .val (.ref b126), .val (.ref b_141), .val (.int (1 : Int32)), .val (.ref c_142), .unset, .unset] [(.int (1 : Int32))])
    refine ogo (fun _ z_ => XS.ifNo X163.here hx rfl (hb hby at_187) rfl ((if0 _ _).trans (feq (by decide)).1) z_) ?_
    show OWay p e below G T163 (mkF m 190 #[.val (.long q0), .second, .val (.int p1), .val (.long q2), .second, .val (.long q3), .second, .val (.long q4), .second, .val (.int p5), .val (.int (2 : Int32)), .val (.double v11_115), .second, .val (.ref b116), .val (.ref b126), .val (.ref b_141), .val (.int (1 : Int32)), .val (.ref c_142), .unset, .unset] [])
    refine ogo (fun _ z_ => XS.aload X163.here hx rfl (hb hby at_190) rfl rfl z_) ?_
    show OWay p e below G T163 (mkF m 192 #[.val (.long q0), .second, .val (.int p1), .val (.long q2), .second, .val (.long q3), .second, .val (.long q4), .second, .val (.int p5), .val (.int (2 : Int32)), .val (.double v11_115), .second, .val (.ref b116), .val (.ref b126), .val (.ref b_141), .val (.int (1 : Int32)), .val (.ref c_142), .unset, .unset] [(.ref c_142)])
    refine ogo (fun _ z_ => XS.ifnullNo X163.here hx rfl (hb hby at_192) rfl z_) ?_
    show OWay p e below G T163 (mkF m 195 #[.val (.long q0), .second, .val (.int p1), .val (.long q2), .second, .val (.long q3), .second, .val (.long q4), .second, .val (.int p5), .val (.int (2 : Int32)), .val (.double v11_115), .second, .val (.ref b116), .val (.ref b126), .val (.ref b_141), .val (.int (1 : Int32)), .val (.ref c_142), .unset, .unset] [])
    refine ogo (fun _ z_ => XS.aload X163.here hx rfl (hb hby at_195) rfl rfl z_) ?_
    show OWay p e below G T163 (mkF m 197 #[.val (.long q0), .second, .val (.int p1), .val (.long q2), .second, .val (.long q3), .second, .val (.long q4), .second, .val (.int p5), .val (.int (2 : Int32)), .val (.double v11_115), .second, .val (.ref b116), .val (.ref b126), .val (.ref b_141), .val (.int (1 : Int32)), .val (.ref c_142), .unset, .unset] [(.ref c_142)])
    refine ogo (fun _ z_ => XS.aload X163.here hx rfl (hb hby at_197) rfl rfl z_) ?_
    show OWay p e below G T163 (mkF m 199 #[.val (.long q0), .second, .val (.int p1), .val (.long q2), .second, .val (.long q3), .second, .val (.long q4), .second, .val (.int p5), .val (.int (2 : Int32)), .val (.double v11_115), .second, .val (.ref b116), .val (.ref b126), .val (.ref b_141), .val (.int (1 : Int32)), .val (.ref c_142), .unset, .unset] [(.ref b116), (.ref c_142)])
    refine ogo (fun _ z_ => Jvm.RoadKit.acmp (g := (mkF m 199 #[.val (.long q0), .second, .val (.int p1), .val (.long q2), .second, .val (.long q3), .second, .val (.long q4), .second, .val (.int p5), .val (.int (2 : Int32)), .val (.double v11_115), .second, .val (.ref b116), .val (.ref b126), .val (.ref b_141), .val (.int (1 : Int32)), .val (.ref c_142), .unset, .unset] [(.ref b116), (.ref c_142)])) X163 hx rfl rfl rfl (pc0 := 199) (pc' := 202) (same := false) rfl (hb hby at_199) rfl (decide_eq_false fun q => (Ne.symm (Nat.ne_of_lt (Nat.lt_of_lt_of_le F137.lt P147))) (Value.ref.inj q)) (by decide) (by decide) z_) ?_
    show OWay p e below G T163 (mkF m 202 #[.val (.long q0), .second, .val (.int p1), .val (.long q2), .second, .val (.long q3), .second, .val (.long q4), .second, .val (.int p5), .val (.int (2 : Int32)), .val (.double v11_115), .second, .val (.ref b116), .val (.ref b126), .val (.ref b_141), .val (.int (1 : Int32)), .val (.ref c_142), .unset, .unset] [])
    refine ogo (fun _ z_ => XS.aload X163.here hx rfl (hb hby at_202) rfl rfl z_) ?_
    show OWay p e below G T163 (mkF m 204 #[.val (.long q0), .second, .val (.int p1), .val (.long q2), .second, .val (.long q3), .second, .val (.long q4), .second, .val (.int p5), .val (.int (2 : Int32)), .val (.double v11_115), .second, .val (.ref b116), .val (.ref b126), .val (.ref b_141), .val (.int (1 : Int32)), .val (.ref c_142), .unset, .unset] [(.ref c_142)])
    obtain ⟨cl_o164, Ar_o164, -, S_o164, N_o164, -, -⟩ := id P156
    refine ogo (fun _ z_ => X163.arraylength hx (by rw [eq163]; exact Ar_o164.1) (State.isArrayOf_alike hZ.alike Ar_o164.2.1) (g := (mkF m 204 #[.val (.long q0), .second, .val (.int p1), .val (.long q2), .second, .val (.long q3), .second, .val (.long q4), .second, .val (.int p5), .val (.int (2 : Int32)), .val (.double v11_115), .second, .val (.ref b116), .val (.ref b126), .val (.ref b_141), .val (.int (1 : Int32)), .val (.ref c_142), .unset, .unset] [(.ref c_142)])) rfl rfl (hb hby at_204) _ z_) ?_
    rw [len_of S_o164 N_o164]
    show OWay p e below G T163 (mkF m 205 #[.val (.long q0), .second, .val (.int p1), .val (.long q2), .second, .val (.long q3), .second, .val (.long q4), .second, .val (.int p5), .val (.int (2 : Int32)), .val (.double v11_115), .second, .val (.ref b116), .val (.ref b126), .val (.ref b_141), .val (.int (1 : Int32)), .val (.ref c_142), .unset, .unset] [(.int (2 : Int32))])
    refine ogo (fun _ z_ => XS.iload X163.here hx rfl (hb hby at_205) rfl z_) ?_
    show OWay p e below G T163 (mkF m 207 #[.val (.long q0), .second, .val (.int p1), .val (.long q2), .second, .val (.long q3), .second, .val (.long q4), .second, .val (.int p5), .val (.int (2 : Int32)), .val (.double v11_115), .second, .val (.ref b116), .val (.ref b126), .val (.ref b_141), .val (.int (1 : Int32)), .val (.ref c_142), .unset, .unset] [(.int (2 : Int32)), (.int (2 : Int32))])
    refine ogo (fun _ z_ => XS.icmpNo X163.here hx rfl (hb hby at_207) rfl (teq rfl).2 z_) ?_
    show OWay p e below G T163 (mkF m 210 #[.val (.long q0), .second, .val (.int p1), .val (.long q2), .second, .val (.long q3), .second, .val (.long q4), .second, .val (.int p5), .val (.int (2 : Int32)), .val (.double v11_115), .second, .val (.ref b116), .val (.ref b126), .val (.ref b_141), .val (.int (1 : Int32)), .val (.ref c_142), .unset, .unset] [])
    refine ogo (fun _ z_ => XS.iconst X163.here hx rfl (hb hby at_210) z_) ?_
    show OWay p e below G T163 (mkF m 211 #[.val (.long q0), .second, .val (.int p1), .val (.long q2), .second, .val (.long q3), .second, .val (.long q4), .second, .val (.int p5), .val (.int (2 : Int32)), .val (.double v11_115), .second, .val (.ref b116), .val (.ref b126), .val (.ref b_141), .val (.int (1 : Int32)), .val (.ref c_142), .unset, .unset] [(.int (1 : Int32))])
    refine ogo (fun _ z_ => XS.goto X163.here hx rfl (pc0 := 211) (pc' := 215) rfl (hb hby at_211) (by decide) (by decide) z_) ?_
    show OWay p e below G T163 (mkF m 215 #[.val (.long q0), .second, .val (.int p1), .val (.long q2), .second, .val (.long q3), .second, .val (.long q4), .second, .val (.int p5), .val (.int (2 : Int32)), .val (.double v11_115), .second, .val (.ref b116), .val (.ref b126), .val (.ref b_141), .val (.int (1 : Int32)), .val (.ref c_142), .unset, .unset] [(.int (1 : Int32))])
    refine ogo (fun _ z_ => XS.istore X163.here hx rfl (hb hby at_215) rfl (l' := #[.val (.long q0), .second, .val (.int p1), .val (.long q2), .second, .val (.long q3), .second, .val (.long q4), .second, .val (.int p5), .val (.int (2 : Int32)), .val (.double v11_115), .second, .val (.ref b116), .val (.ref b126), .val (.ref b_141), .val (.int (1 : Int32)), .val (.ref c_142), .unset, .unset]) rfl z_) ?_
    show OWay p e below G T163 (mkF m 217 #[.val (.long q0), .second, .val (.int p1), .val (.long q2), .second, .val (.long q3), .second, .val (.long q4), .second, .val (.int p5), .val (.int (2 : Int32)), .val (.double v11_115), .second, .val (.ref b116), .val (.ref b126), .val (.ref b_141), .val (.int (1 : Int32)), .val (.ref c_142), .unset, .unset] [])
    refine ogo (fun _ z_ => XS.iload X163.here hx rfl (hb hby at_217) rfl z_) ?_
    show OWay p e below G T163 (mkF m 219 #[.val (.long q0), .second, .val (.int p1), .val (.long q2), .second, .val (.long q3), .second, .val (.long q4), .second, .val (.int p5), .val (.int (2 : Int32)), .val (.double v11_115), .second, .val (.ref b116), .val (.ref b126), .val (.ref b_141), .val (.int (1 : Int32)), .val (.ref c_142), .unset, .unset] [(.int (1 : Int32))])
    refine ogo (fun _ z_ => XS.ifNo X163.here hx rfl (hb hby at_219) rfl ((if0 _ _).trans (feq (by decide)).1) z_) ?_
    show OWay p e below G T163 (mkF m 222 #[.val (.long q0), .second, .val (.int p1), .val (.long q2), .second, .val (.long q3), .second, .val (.long q4), .second, .val (.int p5), .val (.int (2 : Int32)), .val (.double v11_115), .second, .val (.ref b116), .val (.ref b126), .val (.ref b_141), .val (.int (1 : Int32)), .val (.ref c_142), .unset, .unset] [])
    refine ogo (fun _ z_ => XS.aload X163.here hx rfl (hb hby at_222) rfl rfl z_) ?_
    show OWay p e below G T163 (mkF m 224 #[.val (.long q0), .second, .val (.int p1), .val (.long q2), .second, .val (.long q3), .second, .val (.long q4), .second, .val (.int p5), .val (.int (2 : Int32)), .val (.double v11_115), .second, .val (.ref b116), .val (.ref b126), .val (.ref b_141), .val (.int (1 : Int32)), .val (.ref c_142), .unset, .unset] [(.ref b126)])
    have F165 : Fld Z T139.heap b126 "com/example/sito/sito/Slice" "words" "[J" (.ref b116) := (P134.keep Kq139 nin0)
    have F167 : Exa Z T139.heap b126 "com/example/sito/sito/Slice" := (F140.keep Kq139)
    obtain ⟨_, T166, L166, X166, hQ166, st166⟩ := wVirtual X163 hx hZ (y := (⟨"com/example/sito/sito/Slice", "getWords", "()[J"⟩ : MethodName)) (z := (⟨"com/example/sito/sito/Slice", "getWords", "()[J"⟩ : MethodName)) hown (hw _ (List.mem_of_getElem? (i := 67) rfl)) (hw _ (List.mem_of_getElem? (i := 68) rfl)) (notFace_of_selects (args := #[]) (mvT hZ (hw _ (List.mem_of_getElem? (i := 70) rfl)))) (hw _ (List.mem_of_getElem? (i := 70) rfl)) (hw _ (List.mem_of_getElem? (i := 69) rfl)) (hw _ (List.mem_of_getElem? (i := 5) rfl)) (hw _ (List.mem_of_getElem? (i := 71) rfl)) (by decide) (get9_c l Z az hw [] b126 b116 T139.heap n0 (Nat.le_trans (Nat.le_trans (Nat.le_trans (Nat.le_trans (Nat.le_trans (Nat.le_trans Z0 E116.1) (Keep.of_wr W120).1) (Keep.of_wr W124).1) E126.1) Kq129.1) Kq139.1) F165) 0 (by decide) (by decide) F167 (g := (mkF m 224 #[.val (.long q0), .second, .val (.int p1), .val (.long q2), .second, .val (.long q3), .second, .val (.long q4), .second, .val (.int p5), .val (.int (2 : Int32)), .val (.double v11_115), .second, .val (.ref b116), .val (.ref b126), .val (.ref b_141), .val (.int (1 : Int32)), .val (.ref c_142), .unset, .unset] [(.ref b126)])) rfl (by rw [hml]; rfl) (argsL := []) (rest := []) (lenOf pd____J rfl) rfl (by show 2 * 0 + _ ≤ _; exact Nat.le_of_eq rfl) (hb hby at_224) rfl eq163 (by decide) (by decide)
    obtain ⟨rfl, N166q, eq166⟩ := hQ166
    have N166 := Fr.app N163 N166q
    refine ogoS st166 ?_
    show OWay p e below G T166 (mkF m 227 #[.val (.long q0), .second, .val (.int p1), .val (.long q2), .second, .val (.long q3), .second, .val (.long q4), .second, .val (.int p5), .val (.int (2 : Int32)), .val (.double v11_115), .second, .val (.ref b116), .val (.ref b126), .val (.ref b_141), .val (.int (1 : Int32)), .val (.ref c_142), .unset, .unset] [(.ref b116)])
    refine ogo (fun _ z_ => XS.aload X166.here hx rfl (hb hby at_227) rfl rfl z_) ?_
    show OWay p e below G T166 (mkF m 229 #[.val (.long q0), .second, .val (.int p1), .val (.long q2), .second, .val (.long q3), .second, .val (.long q4), .second, .val (.int p5), .val (.int (2 : Int32)), .val (.double v11_115), .second, .val (.ref b116), .val (.ref b126), .val (.ref b_141), .val (.int (1 : Int32)), .val (.ref c_142), .unset, .unset] [(.ref b116), (.ref b116)])
    refine ogo (fun _ z_ => Jvm.RoadKit.acmp (g := (mkF m 229 #[.val (.long q0), .second, .val (.int p1), .val (.long q2), .second, .val (.long q3), .second, .val (.long q4), .second, .val (.int p5), .val (.int (2 : Int32)), .val (.double v11_115), .second, .val (.ref b116), .val (.ref b126), .val (.ref b_141), .val (.int (1 : Int32)), .val (.ref c_142), .unset, .unset] [(.ref b116), (.ref b116)])) X166 hx rfl rfl rfl (pc0 := 229) (pc' := 232) (same := true) rfl (hb hby at_229) rfl (decide_eq_true rfl) (by decide) (by decide) z_) ?_
    show OWay p e below G T166 (mkF m 232 #[.val (.long q0), .second, .val (.int p1), .val (.long q2), .second, .val (.long q3), .second, .val (.long q4), .second, .val (.int p5), .val (.int (2 : Int32)), .val (.double v11_115), .second, .val (.ref b116), .val (.ref b126), .val (.ref b_141), .val (.int (1 : Int32)), .val (.ref c_142), .unset, .unset] [])
    refine ogo (fun _ z_ => XS.aload X166.here hx rfl (hb hby at_232) rfl rfl z_) ?_
    show OWay p e below G T166 (mkF m 234 #[.val (.long q0), .second, .val (.int p1), .val (.long q2), .second, .val (.long q3), .second, .val (.long q4), .second, .val (.int p5), .val (.int (2 : Int32)), .val (.double v11_115), .second, .val (.ref b116), .val (.ref b126), .val (.ref b_141), .val (.int (1 : Int32)), .val (.ref c_142), .unset, .unset] [(.ref b126)])
    have F168 : Fld Z T139.heap b126 "com/example/sito/sito/Slice" "items" "J" (.long q4) := (P135.keep Kq139 nin0)
    obtain ⟨_, T169, L169, X169, hQ169, st169⟩ := wVirtual X166 hx hZ (y := (⟨"com/example/sito/sito/Slice", "getItems", "()J"⟩ : MethodName)) (z := (⟨"com/example/sito/sito/Slice", "getItems", "()J"⟩ : MethodName)) hown (hw _ (List.mem_of_getElem? (i := 62) rfl)) (hw _ (List.mem_of_getElem? (i := 63) rfl)) (notFace_of_selects (args := #[]) (mvT hZ (hw _ (List.mem_of_getElem? (i := 65) rfl)))) (hw _ (List.mem_of_getElem? (i := 65) rfl)) (hw _ (List.mem_of_getElem? (i := 64) rfl)) (hw _ (List.mem_of_getElem? (i := 5) rfl)) (hw _ (List.mem_of_getElem? (i := 66) rfl)) (by decide) (get8_c l Z az hw [] b126 q4 T139.heap n0 (Nat.le_trans (Nat.le_trans (Nat.le_trans (Nat.le_trans (Nat.le_trans (Nat.le_trans Z0 E116.1) (Keep.of_wr W120).1) (Keep.of_wr W124).1) E126.1) Kq129.1) Kq139.1) F168) 0 (by decide) (by decide) F167 (g := (mkF m 234 #[.val (.long q0), .second, .val (.int p1), .val (.long q2), .second, .val (.long q3), .second, .val (.long q4), .second, .val (.int p5), .val (.int (2 : Int32)), .val (.double v11_115), .second, .val (.ref b116), .val (.ref b126), .val (.ref b_141), .val (.int (1 : Int32)), .val (.ref c_142), .unset, .unset] [(.ref b126)])) rfl (by rw [hml]; rfl) (argsL := []) (rest := []) (lenOf pd___J rfl) rfl (by show 2 * 0 + _ ≤ _; exact Nat.le_of_eq rfl) (hb hby at_234) rfl eq166 (by decide) (by decide)
    obtain ⟨rfl, N169q, eq169⟩ := hQ169
    have N169 := Fr.app N166 N169q
    refine ogoS st169 ?_
    show OWay p e below G T169 (mkF m 237 #[.val (.long q0), .second, .val (.int p1), .val (.long q2), .second, .val (.long q3), .second, .val (.long q4), .second, .val (.int p5), .val (.int (2 : Int32)), .val (.double v11_115), .second, .val (.ref b116), .val (.ref b126), .val (.ref b_141), .val (.int (1 : Int32)), .val (.ref c_142), .unset, .unset] [(.long q4)])
    refine ogo (fun _ z_ => XS.lload X169.here hx rfl (hb hby at_237) rfl z_) ?_
    show OWay p e below G T169 (mkF m 239 #[.val (.long q0), .second, .val (.int p1), .val (.long q2), .second, .val (.long q3), .second, .val (.long q4), .second, .val (.int p5), .val (.int (2 : Int32)), .val (.double v11_115), .second, .val (.ref b116), .val (.ref b126), .val (.ref b_141), .val (.int (1 : Int32)), .val (.ref c_142), .unset, .unset] [(.long q4), (.long q4)])
    refine ogo (fun _ z_ => XS.lcmp X169.here hx rfl (hb hby at_239) rfl z_) ?_
    show OWay p e below G T169 (mkF m 240 #[.val (.long q0), .second, .val (.int p1), .val (.long q2), .second, .val (.long q3), .second, .val (.long q4), .second, .val (.int p5), .val (.int (2 : Int32)), .val (.double v11_115), .second, .val (.ref b116), .val (.ref b126), .val (.ref b_141), .val (.int (1 : Int32)), .val (.ref c_142), .unset, .unset] [(.int (lcmpW q4 q4))])
    refine ogo (fun _ z_ => XS.ifNo X169.here hx rfl (hb hby at_240) rfl ((if0 _ _).trans (teq ((lw_eq _ _).mpr rfl)).2) z_) ?_
    show OWay p e below G T169 (mkF m 243 #[.val (.long q0), .second, .val (.int p1), .val (.long q2), .second, .val (.long q3), .second, .val (.long q4), .second, .val (.int p5), .val (.int (2 : Int32)), .val (.double v11_115), .second, .val (.ref b116), .val (.ref b126), .val (.ref b_141), .val (.int (1 : Int32)), .val (.ref c_142), .unset, .unset] [])
    refine ogo (fun _ z_ => XS.iconst X169.here hx rfl (hb hby at_243) z_) ?_
    show OWay p e below G T169 (mkF m 244 #[.val (.long q0), .second, .val (.int p1), .val (.long q2), .second, .val (.long q3), .second, .val (.long q4), .second, .val (.int p5), .val (.int (2 : Int32)), .val (.double v11_115), .second, .val (.ref b116), .val (.ref b126), .val (.ref b_141), .val (.int (1 : Int32)), .val (.ref c_142), .unset, .unset] [(.int (1 : Int32))])
    refine ogo (fun _ z_ => XS.goto X169.here hx rfl (pc0 := 244) (pc' := 248) rfl (hb hby at_244) (by decide) (by decide) z_) ?_
    show OWay p e below G T169 (mkF m 248 #[.val (.long q0), .second, .val (.int p1), .val (.long q2), .second, .val (.long q3), .second, .val (.long q4), .second, .val (.int p5), .val (.int (2 : Int32)), .val (.double v11_115), .second, .val (.ref b116), .val (.ref b126), .val (.ref b_141), .val (.int (1 : Int32)), .val (.ref c_142), .unset, .unset] [(.int (1 : Int32))])
    refine ogo (fun _ z_ => XS.istore X169.here hx rfl (hb hby at_248) rfl (l' := #[.val (.long q0), .second, .val (.int p1), .val (.long q2), .second, .val (.long q3), .second, .val (.long q4), .second, .val (.int p5), .val (.int (2 : Int32)), .val (.double v11_115), .second, .val (.ref b116), .val (.ref b126), .val (.ref b_141), .val (.int (1 : Int32)), .val (.ref c_142), .unset, .unset]) rfl z_) ?_
    show OWay p e below G T169 (mkF m 250 #[.val (.long q0), .second, .val (.int p1), .val (.long q2), .second, .val (.long q3), .second, .val (.long q4), .second, .val (.int p5), .val (.int (2 : Int32)), .val (.double v11_115), .second, .val (.ref b116), .val (.ref b126), .val (.ref b_141), .val (.int (1 : Int32)), .val (.ref c_142), .unset, .unset] [])
    refine ogo (fun _ z_ => XS.iload X169.here hx rfl (hb hby at_250) rfl z_) ?_
    show OWay p e below G T169 (mkF m 252 #[.val (.long q0), .second, .val (.int p1), .val (.long q2), .second, .val (.long q3), .second, .val (.long q4), .second, .val (.int p5), .val (.int (2 : Int32)), .val (.double v11_115), .second, .val (.ref b116), .val (.ref b126), .val (.ref b_141), .val (.int (1 : Int32)), .val (.ref c_142), .unset, .unset] [(.int (1 : Int32))])
    refine ogo (fun _ z_ => XS.ifYes X169.here hx rfl (pc0 := 252) (pc' := 257) rfl (hb hby at_252) rfl ((if0 _ _).trans (feq (by decide)).2) (by decide) (by decide) z_) ?_
    show OWay p e below G T169 (mkF m 257 #[.val (.long q0), .second, .val (.int p1), .val (.long q2), .second, .val (.long q3), .second, .val (.long q4), .second, .val (.int p5), .val (.int (2 : Int32)), .val (.double v11_115), .second, .val (.ref b116), .val (.ref b126), .val (.ref b_141), .val (.int (1 : Int32)), .val (.ref c_142), .unset, .unset] [])
    refine ogo (fun _ z_ => XS.iload X169.here hx rfl (hb hby at_257) rfl z_) ?_
    show OWay p e below G T169 (mkF m 259 #[.val (.long q0), .second, .val (.int p1), .val (.long q2), .second, .val (.long q3), .second, .val (.long q4), .second, .val (.int p5), .val (.int (2 : Int32)), .val (.double v11_115), .second, .val (.ref b116), .val (.ref b126), .val (.ref b_141), .val (.int (1 : Int32)), .val (.ref c_142), .unset, .unset] [(.int (2 : Int32))])
    refine ogo (fun _ z_ => XS.ifNo X169.here hx rfl (hb hby at_259) rfl ((if0 _ _).trans (tlt (by decide)).2.2.2) z_) ?_
    show OWay p e below G T169 (mkF m 262 #[.val (.long q0), .second, .val (.int p1), .val (.long q2), .second, .val (.long q3), .second, .val (.long q4), .second, .val (.int p5), .val (.int (2 : Int32)), .val (.double v11_115), .second, .val (.ref b116), .val (.ref b126), .val (.ref b_141), .val (.int (1 : Int32)), .val (.ref c_142), .unset, .unset] [])
    refine ogo (fun _ z_ => XS.iload X169.here hx rfl (hb hby at_262) rfl z_) ?_
    show OWay p e below G T169 (mkF m 264 #[.val (.long q0), .second, .val (.int p1), .val (.long q2), .second, .val (.long q3), .second, .val (.long q4), .second, .val (.int p5), .val (.int (2 : Int32)), .val (.double v11_115), .second, .val (.ref b116), .val (.ref b126), .val (.ref b_141), .val (.int (1 : Int32)), .val (.ref c_142), .unset, .unset] [(.int (1 : Int32))])
    refine ogo (fun _ z_ => XS.ifNo X169.here hx rfl (hb hby at_264) rfl ((if0 _ _).trans (feq (by decide)).1) z_) ?_
    show OWay p e below G T169 (mkF m 267 #[.val (.long q0), .second, .val (.int p1), .val (.long q2), .second, .val (.long q3), .second, .val (.long q4), .second, .val (.int p5), .val (.int (2 : Int32)), .val (.double v11_115), .second, .val (.ref b116), .val (.ref b126), .val (.ref b_141), .val (.int (1 : Int32)), .val (.ref c_142), .unset, .unset] [])
    refine ogo (fun _ z_ => XS.aload X169.here hx rfl (hb hby at_267) rfl rfl z_) ?_
    show OWay p e below G T169 (mkF m 269 #[.val (.long q0), .second, .val (.int p1), .val (.long q2), .second, .val (.long q3), .second, .val (.long q4), .second, .val (.int p5), .val (.int (2 : Int32)), .val (.double v11_115), .second, .val (.ref b116), .val (.ref b126), .val (.ref b_141), .val (.int (1 : Int32)), .val (.ref c_142), .unset, .unset] [(.ref c_142)])
    refine ogo (fun _ z_ => XS.iconst X169.here hx rfl (hb hby at_269) z_) ?_
    show OWay p e below G T169 (mkF m 270 #[.val (.long q0), .second, .val (.int p1), .val (.long q2), .second, .val (.long q3), .second, .val (.long q4), .second, .val (.int p5), .val (.int (2 : Int32)), .val (.double v11_115), .second, .val (.ref b116), .val (.ref b126), .val (.ref b_141), .val (.int (1 : Int32)), .val (.ref c_142), .unset, .unset] [(.int (0 : Int32)), (.ref c_142)])
    obtain ⟨cl_o170, Ar_o170, q_o170, S_o170, N_o170, H_o170, G_o170⟩ := id P156
    have hin_o170 : ¬ ((0 : Int32) < 0 ∨ cl_o170.slots.size ≤ ((0 : Int32)).toNatClampNeg) := inb_of S_o170 ⟨by decide, by decide⟩
    have hat_o170 : cl_o170.slots[((0 : Int32)).toNatClampNeg]? = some (.long q2) := H_o170.at hin_o170 rfl
    refine ogo (fun _ z_ => X169.laload hx (j := (0 : Int32)) (v := (.long q2)) (by rw [eq169]; exact Ar_o170.1) (State.isArrayOf_alike hZ.alike Ar_o170.2.1) Ar_o170.2.2 hin_o170 hat_o170 (g := (mkF m 270 #[.val (.long q0), .second, .val (.int p1), .val (.long q2), .second, .val (.long q3), .second, .val (.long q4), .second, .val (.int p5), .val (.int (2 : Int32)), .val (.double v11_115), .second, .val (.ref b116), .val (.ref b126), .val (.ref b_141), .val (.int (1 : Int32)), .val (.ref c_142), .unset, .unset] [(.int (0 : Int32)), (.ref c_142)])) rfl rfl (hb hby at_270) _ z_) ?_
    show OWay p e below G T169 (mkF m 271 #[.val (.long q0), .second, .val (.int p1), .val (.long q2), .second, .val (.long q3), .second, .val (.long q4), .second, .val (.int p5), .val (.int (2 : Int32)), .val (.double v11_115), .second, .val (.ref b116), .val (.ref b126), .val (.ref b_141), .val (.int (1 : Int32)), .val (.ref c_142), .unset, .unset] [(.long q2)])
    refine ogo (fun _ z_ => XS.iconst X169.here hx rfl (hb hby at_271) z_) ?_
    show OWay p e below G T169 (mkF m 272 #[.val (.long q0), .second, .val (.int p1), .val (.long q2), .second, .val (.long q3), .second, .val (.long q4), .second, .val (.int p5), .val (.int (2 : Int32)), .val (.double v11_115), .second, .val (.ref b116), .val (.ref b126), .val (.ref b_141), .val (.int (1 : Int32)), .val (.ref c_142), .unset, .unset] [(.int (0 : Int32)), (.long q2)])
    refine ogo (fun _ z_ => XS.lloadN X169.here hx rfl (hb hby at_272) rfl z_) ?_
    show OWay p e below G T169 (mkF m 273 #[.val (.long q0), .second, .val (.int p1), .val (.long q2), .second, .val (.long q3), .second, .val (.long q4), .second, .val (.int p5), .val (.int (2 : Int32)), .val (.double v11_115), .second, .val (.ref b116), .val (.ref b126), .val (.ref b_141), .val (.int (1 : Int32)), .val (.ref c_142), .unset, .unset] [(.long q2), (.int (0 : Int32)), (.long q2)])
    refine ogo (fun _ z_ => XS.lload X169.here hx rfl (hb hby at_273) rfl z_) ?_
    show OWay p e below G T169 (mkF m 275 #[.val (.long q0), .second, .val (.int p1), .val (.long q2), .second, .val (.long q3), .second, .val (.long q4), .second, .val (.int p5), .val (.int (2 : Int32)), .val (.double v11_115), .second, .val (.ref b116), .val (.ref b126), .val (.ref b_141), .val (.int (1 : Int32)), .val (.ref c_142), .unset, .unset] [(.long q3), (.long q2), (.int (0 : Int32)), (.long q2)])
    obtain ⟨_, T171, L171, X171, hQ171, st171⟩ := wStatic X169 hx hZ (y := (⟨"com/example/sito/sito/SliceCopyPinLaw", "expected", "(IJJ)J"⟩ : MethodName)) hown (hw _ (List.mem_of_getElem? (i := 72) rfl)) (hw _ (List.mem_of_getElem? (i := 73) rfl)) (hw _ (List.mem_of_getElem? (i := 74) rfl)) (hw _ (List.mem_of_getElem? (i := 75) rfl)) (by decide) (exp0_c l Z az hw [] q2 q3 T139.heap n0 (Nat.le_trans (Nat.le_trans (Nat.le_trans (Nat.le_trans (Nat.le_trans (Nat.le_trans Z0 E116.1) (Keep.of_wr W120).1) (Keep.of_wr W124).1) E126.1) Kq129.1) Kq139.1)) 2 (by decide) (by decide) (g := (mkF m 275 #[.val (.long q0), .second, .val (.int p1), .val (.long q2), .second, .val (.long q3), .second, .val (.long q4), .second, .val (.int p5), .val (.int (2 : Int32)), .val (.double v11_115), .second, .val (.ref b116), .val (.ref b126), .val (.ref b_141), .val (.int (1 : Int32)), .val (.ref c_142), .unset, .unset] [(.long q3), (.long q2), (.int (0 : Int32)), (.long q2)])) rfl (by rw [hml]; rfl) (argsL := [(.int (0 : Int32)), (.long q2), (.long q3)]) (rest := [(.long q2)]) (lenOf pd__IJJ_J rfl) rfl (by show 2 * 0 + _ ≤ _; exact Nat.le_of_eq rfl) (hb hby at_275) rfl eq169 (by decide) (by decide)
    obtain ⟨rfl, N171q, eq171⟩ := hQ171
    have N171 := Fr.app N169 N171q
    refine ogo st171 ?_
    show OWay p e below G T171 (mkF m 278 #[.val (.long q0), .second, .val (.int p1), .val (.long q2), .second, .val (.long q3), .second, .val (.long q4), .second, .val (.int p5), .val (.int (2 : Int32)), .val (.double v11_115), .second, .val (.ref b116), .val (.ref b126), .val (.ref b_141), .val (.int (1 : Int32)), .val (.ref c_142), .unset, .unset] [(.long q2), (.long q2)])
    refine ogo (fun _ z_ => XS.lcmp X171.here hx rfl (hb hby at_278) rfl z_) ?_
    show OWay p e below G T171 (mkF m 279 #[.val (.long q0), .second, .val (.int p1), .val (.long q2), .second, .val (.long q3), .second, .val (.long q4), .second, .val (.int p5), .val (.int (2 : Int32)), .val (.double v11_115), .second, .val (.ref b116), .val (.ref b126), .val (.ref b_141), .val (.int (1 : Int32)), .val (.ref c_142), .unset, .unset] [(.int (lcmpW q2 q2))])
    refine ogo (fun _ z_ => XS.ifNo X171.here hx rfl (hb hby at_279) rfl ((if0 _ _).trans (teq ((lw_eq _ _).mpr rfl)).2) z_) ?_
    show OWay p e below G T171 (mkF m 282 #[.val (.long q0), .second, .val (.int p1), .val (.long q2), .second, .val (.long q3), .second, .val (.long q4), .second, .val (.int p5), .val (.int (2 : Int32)), .val (.double v11_115), .second, .val (.ref b116), .val (.ref b126), .val (.ref b_141), .val (.int (1 : Int32)), .val (.ref c_142), .unset, .unset] [])
    refine ogo (fun _ z_ => XS.iconst X171.here hx rfl (hb hby at_282) z_) ?_
    show OWay p e below G T171 (mkF m 283 #[.val (.long q0), .second, .val (.int p1), .val (.long q2), .second, .val (.long q3), .second, .val (.long q4), .second, .val (.int p5), .val (.int (2 : Int32)), .val (.double v11_115), .second, .val (.ref b116), .val (.ref b126), .val (.ref b_141), .val (.int (1 : Int32)), .val (.ref c_142), .unset, .unset] [(.int (1 : Int32))])
    refine ogo (fun _ z_ => XS.goto X171.here hx rfl (pc0 := 283) (pc' := 287) rfl (hb hby at_283) (by decide) (by decide) z_) ?_
    show OWay p e below G T171 (mkF m 287 #[.val (.long q0), .second, .val (.int p1), .val (.long q2), .second, .val (.long q3), .second, .val (.long q4), .second, .val (.int p5), .val (.int (2 : Int32)), .val (.double v11_115), .second, .val (.ref b116), .val (.ref b126), .val (.ref b_141), .val (.int (1 : Int32)), .val (.ref c_142), .unset, .unset] [(.int (1 : Int32))])
    refine ogo (fun _ z_ => XS.istore X171.here hx rfl (hb hby at_287) rfl (l' := #[.val (.long q0), .second, .val (.int p1), .val (.long q2), .second, .val (.long q3), .second, .val (.long q4), .second, .val (.int p5), .val (.int (2 : Int32)), .val (.double v11_115), .second, .val (.ref b116), .val (.ref b126), .val (.ref b_141), .val (.int (1 : Int32)), .val (.ref c_142), .unset, .unset]) rfl z_) ?_
    show OWay p e below G T171 (mkF m 289 #[.val (.long q0), .second, .val (.int p1), .val (.long q2), .second, .val (.long q3), .second, .val (.long q4), .second, .val (.int p5), .val (.int (2 : Int32)), .val (.double v11_115), .second, .val (.ref b116), .val (.ref b126), .val (.ref b_141), .val (.int (1 : Int32)), .val (.ref c_142), .unset, .unset] [])
    refine ogo (fun _ z_ => XS.iload X171.here hx rfl (hb hby at_289) rfl z_) ?_
    show OWay p e below G T171 (mkF m 291 #[.val (.long q0), .second, .val (.int p1), .val (.long q2), .second, .val (.long q3), .second, .val (.long q4), .second, .val (.int p5), .val (.int (2 : Int32)), .val (.double v11_115), .second, .val (.ref b116), .val (.ref b126), .val (.ref b_141), .val (.int (1 : Int32)), .val (.ref c_142), .unset, .unset] [(.int (2 : Int32))])
    refine ogo (fun _ z_ => XS.iconst X171.here hx rfl (hb hby at_291) z_) ?_
    show OWay p e below G T171 (mkF m 292 #[.val (.long q0), .second, .val (.int p1), .val (.long q2), .second, .val (.long q3), .second, .val (.long q4), .second, .val (.int p5), .val (.int (2 : Int32)), .val (.double v11_115), .second, .val (.ref b116), .val (.ref b126), .val (.ref b_141), .val (.int (1 : Int32)), .val (.ref c_142), .unset, .unset] [(.int (1 : Int32)), (.int (2 : Int32))])
    refine ogo (fun _ z_ => XS.icmpNo X171.here hx rfl (hb hby at_292) rfl (tlt (by decide)).2.2.2 z_) ?_
    show OWay p e below G T171 (mkF m 295 #[.val (.long q0), .second, .val (.int p1), .val (.long q2), .second, .val (.long q3), .second, .val (.long q4), .second, .val (.int p5), .val (.int (2 : Int32)), .val (.double v11_115), .second, .val (.ref b116), .val (.ref b126), .val (.ref b_141), .val (.int (1 : Int32)), .val (.ref c_142), .unset, .unset] [])
    refine ogo (fun _ z_ => XS.iload X171.here hx rfl (hb hby at_295) rfl z_) ?_
    show OWay p e below G T171 (mkF m 297 #[.val (.long q0), .second, .val (.int p1), .val (.long q2), .second, .val (.long q3), .second, .val (.long q4), .second, .val (.int p5), .val (.int (2 : Int32)), .val (.double v11_115), .second, .val (.ref b116), .val (.ref b126), .val (.ref b_141), .val (.int (1 : Int32)), .val (.ref c_142), .unset, .unset] [(.int (1 : Int32))])
    refine ogo (fun _ z_ => XS.ifNo X171.here hx rfl (hb hby at_297) rfl ((if0 _ _).trans (feq (by decide)).1) z_) ?_
    show OWay p e below G T171 (mkF m 300 #[.val (.long q0), .second, .val (.int p1), .val (.long q2), .second, .val (.long q3), .second, .val (.long q4), .second, .val (.int p5), .val (.int (2 : Int32)), .val (.double v11_115), .second, .val (.ref b116), .val (.ref b126), .val (.ref b_141), .val (.int (1 : Int32)), .val (.ref c_142), .unset, .unset] [])
    refine ogo (fun _ z_ => XS.aload X171.here hx rfl (hb hby at_300) rfl rfl z_) ?_
    show OWay p e below G T171 (mkF m 302 #[.val (.long q0), .second, .val (.int p1), .val (.long q2), .second, .val (.long q3), .second, .val (.long q4), .second, .val (.int p5), .val (.int (2 : Int32)), .val (.double v11_115), .second, .val (.ref b116), .val (.ref b126), .val (.ref b_141), .val (.int (1 : Int32)), .val (.ref c_142), .unset, .unset] [(.ref c_142)])
    refine ogo (fun _ z_ => XS.iconst X171.here hx rfl (hb hby at_302) z_) ?_
    show OWay p e below G T171 (mkF m 303 #[.val (.long q0), .second, .val (.int p1), .val (.long q2), .second, .val (.long q3), .second, .val (.long q4), .second, .val (.int p5), .val (.int (2 : Int32)), .val (.double v11_115), .second, .val (.ref b116), .val (.ref b126), .val (.ref b_141), .val (.int (1 : Int32)), .val (.ref c_142), .unset, .unset] [(.int (1 : Int32)), (.ref c_142)])
    obtain ⟨cl_o172, Ar_o172, q_o172, S_o172, N_o172, H_o172, G_o172⟩ := id P156
    have hin_o172 : ¬ ((1 : Int32) < 0 ∨ cl_o172.slots.size ≤ ((1 : Int32)).toNatClampNeg) := inb_of S_o172 ⟨by decide, by decide⟩
    have hat_o172 : cl_o172.slots[((1 : Int32)).toNatClampNeg]? = some (.long q3) := H_o172.at hin_o172 rfl
    refine ogo (fun _ z_ => X171.laload hx (j := (1 : Int32)) (v := (.long q3)) (by rw [eq171]; exact Ar_o172.1) (State.isArrayOf_alike hZ.alike Ar_o172.2.1) Ar_o172.2.2 hin_o172 hat_o172 (g := (mkF m 303 #[.val (.long q0), .second, .val (.int p1), .val (.long q2), .second, .val (.long q3), .second, .val (.long q4), .second, .val (.int p5), .val (.int (2 : Int32)), .val (.double v11_115), .second, .val (.ref b116), .val (.ref b126), .val (.ref b_141), .val (.int (1 : Int32)), .val (.ref c_142), .unset, .unset] [(.int (1 : Int32)), (.ref c_142)])) rfl rfl (hb hby at_303) _ z_) ?_
    show OWay p e below G T171 (mkF m 304 #[.val (.long q0), .second, .val (.int p1), .val (.long q2), .second, .val (.long q3), .second, .val (.long q4), .second, .val (.int p5), .val (.int (2 : Int32)), .val (.double v11_115), .second, .val (.ref b116), .val (.ref b126), .val (.ref b_141), .val (.int (1 : Int32)), .val (.ref c_142), .unset, .unset] [(.long q3)])
    refine ogo (fun _ z_ => XS.iconst X171.here hx rfl (hb hby at_304) z_) ?_
    show OWay p e below G T171 (mkF m 305 #[.val (.long q0), .second, .val (.int p1), .val (.long q2), .second, .val (.long q3), .second, .val (.long q4), .second, .val (.int p5), .val (.int (2 : Int32)), .val (.double v11_115), .second, .val (.ref b116), .val (.ref b126), .val (.ref b_141), .val (.int (1 : Int32)), .val (.ref c_142), .unset, .unset] [(.int (1 : Int32)), (.long q3)])
    refine ogo (fun _ z_ => XS.lloadN X171.here hx rfl (hb hby at_305) rfl z_) ?_
    show OWay p e below G T171 (mkF m 306 #[.val (.long q0), .second, .val (.int p1), .val (.long q2), .second, .val (.long q3), .second, .val (.long q4), .second, .val (.int p5), .val (.int (2 : Int32)), .val (.double v11_115), .second, .val (.ref b116), .val (.ref b126), .val (.ref b_141), .val (.int (1 : Int32)), .val (.ref c_142), .unset, .unset] [(.long q2), (.int (1 : Int32)), (.long q3)])
    refine ogo (fun _ z_ => XS.lload X171.here hx rfl (hb hby at_306) rfl z_) ?_
    show OWay p e below G T171 (mkF m 308 #[.val (.long q0), .second, .val (.int p1), .val (.long q2), .second, .val (.long q3), .second, .val (.long q4), .second, .val (.int p5), .val (.int (2 : Int32)), .val (.double v11_115), .second, .val (.ref b116), .val (.ref b126), .val (.ref b_141), .val (.int (1 : Int32)), .val (.ref c_142), .unset, .unset] [(.long q3), (.long q2), (.int (1 : Int32)), (.long q3)])
    obtain ⟨_, T173, L173, X173, hQ173, st173⟩ := wStatic X171 hx hZ (y := (⟨"com/example/sito/sito/SliceCopyPinLaw", "expected", "(IJJ)J"⟩ : MethodName)) hown (hw _ (List.mem_of_getElem? (i := 72) rfl)) (hw _ (List.mem_of_getElem? (i := 73) rfl)) (hw _ (List.mem_of_getElem? (i := 74) rfl)) (hw _ (List.mem_of_getElem? (i := 75) rfl)) (by decide) (exp1_c l Z az hw [] q2 q3 T139.heap n0 (Nat.le_trans (Nat.le_trans (Nat.le_trans (Nat.le_trans (Nat.le_trans (Nat.le_trans Z0 E116.1) (Keep.of_wr W120).1) (Keep.of_wr W124).1) E126.1) Kq129.1) Kq139.1)) 2 (by decide) (by decide) (g := (mkF m 308 #[.val (.long q0), .second, .val (.int p1), .val (.long q2), .second, .val (.long q3), .second, .val (.long q4), .second, .val (.int p5), .val (.int (2 : Int32)), .val (.double v11_115), .second, .val (.ref b116), .val (.ref b126), .val (.ref b_141), .val (.int (1 : Int32)), .val (.ref c_142), .unset, .unset] [(.long q3), (.long q2), (.int (1 : Int32)), (.long q3)])) rfl (by rw [hml]; rfl) (argsL := [(.int (1 : Int32)), (.long q2), (.long q3)]) (rest := [(.long q3)]) (lenOf pd__IJJ_J rfl) rfl (by show 2 * 0 + _ ≤ _; exact Nat.le_of_eq rfl) (hb hby at_308) rfl eq171 (by decide) (by decide)
    obtain ⟨rfl, N173q, eq173⟩ := hQ173
    have N173 := Fr.app N171 N173q
    refine ogo st173 ?_
    show OWay p e below G T173 (mkF m 311 #[.val (.long q0), .second, .val (.int p1), .val (.long q2), .second, .val (.long q3), .second, .val (.long q4), .second, .val (.int p5), .val (.int (2 : Int32)), .val (.double v11_115), .second, .val (.ref b116), .val (.ref b126), .val (.ref b_141), .val (.int (1 : Int32)), .val (.ref c_142), .unset, .unset] [(.long q3), (.long q3)])
    refine ogo (fun _ z_ => XS.lcmp X173.here hx rfl (hb hby at_311) rfl z_) ?_
    show OWay p e below G T173 (mkF m 312 #[.val (.long q0), .second, .val (.int p1), .val (.long q2), .second, .val (.long q3), .second, .val (.long q4), .second, .val (.int p5), .val (.int (2 : Int32)), .val (.double v11_115), .second, .val (.ref b116), .val (.ref b126), .val (.ref b_141), .val (.int (1 : Int32)), .val (.ref c_142), .unset, .unset] [(.int (lcmpW q3 q3))])
    refine ogo (fun _ z_ => XS.ifNo X173.here hx rfl (hb hby at_312) rfl ((if0 _ _).trans (teq ((lw_eq _ _).mpr rfl)).2) z_) ?_
    show OWay p e below G T173 (mkF m 315 #[.val (.long q0), .second, .val (.int p1), .val (.long q2), .second, .val (.long q3), .second, .val (.long q4), .second, .val (.int p5), .val (.int (2 : Int32)), .val (.double v11_115), .second, .val (.ref b116), .val (.ref b126), .val (.ref b_141), .val (.int (1 : Int32)), .val (.ref c_142), .unset, .unset] [])
    refine ogo (fun _ z_ => XS.iconst X173.here hx rfl (hb hby at_315) z_) ?_
    show OWay p e below G T173 (mkF m 316 #[.val (.long q0), .second, .val (.int p1), .val (.long q2), .second, .val (.long q3), .second, .val (.long q4), .second, .val (.int p5), .val (.int (2 : Int32)), .val (.double v11_115), .second, .val (.ref b116), .val (.ref b126), .val (.ref b_141), .val (.int (1 : Int32)), .val (.ref c_142), .unset, .unset] [(.int (1 : Int32))])
    refine ogo (fun _ z_ => XS.goto X173.here hx rfl (pc0 := 316) (pc' := 320) rfl (hb hby at_316) (by decide) (by decide) z_) ?_
    show OWay p e below G T173 (mkF m 320 #[.val (.long q0), .second, .val (.int p1), .val (.long q2), .second, .val (.long q3), .second, .val (.long q4), .second, .val (.int p5), .val (.int (2 : Int32)), .val (.double v11_115), .second, .val (.ref b116), .val (.ref b126), .val (.ref b_141), .val (.int (1 : Int32)), .val (.ref c_142), .unset, .unset] [(.int (1 : Int32))])
    refine ogo (fun _ z_ => XS.istore X173.here hx rfl (hb hby at_320) rfl (l' := #[.val (.long q0), .second, .val (.int p1), .val (.long q2), .second, .val (.long q3), .second, .val (.long q4), .second, .val (.int p5), .val (.int (2 : Int32)), .val (.double v11_115), .second, .val (.ref b116), .val (.ref b126), .val (.ref b_141), .val (.int (1 : Int32)), .val (.ref c_142), .unset, .unset]) rfl z_) ?_
    show OWay p e below G T173 (mkF m 322 #[.val (.long q0), .second, .val (.int p1), .val (.long q2), .second, .val (.long q3), .second, .val (.long q4), .second, .val (.int p5), .val (.int (2 : Int32)), .val (.double v11_115), .second, .val (.ref b116), .val (.ref b126), .val (.ref b_141), .val (.int (1 : Int32)), .val (.ref c_142), .unset, .unset] [])
    refine ogo (fun _ z_ => XS.iload X173.here hx rfl (hb hby at_322) rfl z_) ?_
    show OWay p e below G T173 (mkF m 324 #[.val (.long q0), .second, .val (.int p1), .val (.long q2), .second, .val (.long q3), .second, .val (.long q4), .second, .val (.int p5), .val (.int (2 : Int32)), .val (.double v11_115), .second, .val (.ref b116), .val (.ref b126), .val (.ref b_141), .val (.int (1 : Int32)), .val (.ref c_142), .unset, .unset] [(.int (2 : Int32))])
    refine ogo (fun _ z_ => XS.iconst X173.here hx rfl (hb hby at_324) z_) ?_
    show OWay p e below G T173 (mkF m 325 #[.val (.long q0), .second, .val (.int p1), .val (.long q2), .second, .val (.long q3), .second, .val (.long q4), .second, .val (.int p5), .val (.int (2 : Int32)), .val (.double v11_115), .second, .val (.ref b116), .val (.ref b126), .val (.ref b_141), .val (.int (1 : Int32)), .val (.ref c_142), .unset, .unset] [(.int (2 : Int32)), (.int (2 : Int32))])
    refine ogo (fun _ z_ => XS.icmpYes X173.here hx rfl (pc0 := 325) (pc' := 355) rfl (hb hby at_325) rfl (flt (by decide)).2.2.2 (by decide) (by decide) z_) ?_
    show OWay p e below G T173 (mkF m 355 #[.val (.long q0), .second, .val (.int p1), .val (.long q2), .second, .val (.long q3), .second, .val (.long q4), .second, .val (.int p5), .val (.int (2 : Int32)), .val (.double v11_115), .second, .val (.ref b116), .val (.ref b126), .val (.ref b_141), .val (.int (1 : Int32)), .val (.ref c_142), .unset, .unset] [])
    refine ogo (fun _ z_ => XS.iload X173.here hx rfl (hb hby at_355) rfl z_) ?_
    show OWay p e below G T173 (mkF m 357 #[.val (.long q0), .second, .val (.int p1), .val (.long q2), .second, .val (.long q3), .second, .val (.long q4), .second, .val (.int p5), .val (.int (2 : Int32)), .val (.double v11_115), .second, .val (.ref b116), .val (.ref b126), .val (.ref b_141), .val (.int (1 : Int32)), .val (.ref c_142), .unset, .unset] [(.int (1 : Int32))])
    refine ogo (fun _ z_ => XS.ifNo X173.here hx rfl (hb hby at_357) rfl ((if0 _ _).trans (feq (by decide)).1) z_) ?_
    show OWay p e below G T173 (mkF m 360 #[.val (.long q0), .second, .val (.int p1), .val (.long q2), .second, .val (.long q3), .second, .val (.long q4), .second, .val (.int p5), .val (.int (2 : Int32)), .val (.double v11_115), .second, .val (.ref b116), .val (.ref b126), .val (.ref b_141), .val (.int (1 : Int32)), .val (.ref c_142), .unset, .unset] [])
    refine ogo (fun _ z_ => XS.iload X173.here hx rfl (hb hby at_360) rfl z_) ?_
    show OWay p e below G T173 (mkF m 362 #[.val (.long q0), .second, .val (.int p1), .val (.long q2), .second, .val (.long q3), .second, .val (.long q4), .second, .val (.int p5), .val (.int (2 : Int32)), .val (.double v11_115), .second, .val (.ref b116), .val (.ref b126), .val (.ref b_141), .val (.int (1 : Int32)), .val (.ref c_142), .unset, .unset] [(.int (2 : Int32))])
    refine ogo (fun _ z_ => XS.ifNo X173.here hx rfl (hb hby at_362) rfl ((if0 _ _).trans (tlt (by decide)).2.2.2) z_) ?_
    show OWay p e below G T173 (mkF m 365 #[.val (.long q0), .second, .val (.int p1), .val (.long q2), .second, .val (.long q3), .second, .val (.long q4), .second, .val (.int p5), .val (.int (2 : Int32)), .val (.double v11_115), .second, .val (.ref b116), .val (.ref b126), .val (.ref b_141), .val (.int (1 : Int32)), .val (.ref c_142), .unset, .unset] [])
    refine ogo (fun _ z_ => XS.aload X173.here hx rfl (hb hby at_365) rfl rfl z_) ?_
    show OWay p e below G T173 (mkF m 367 #[.val (.long q0), .second, .val (.int p1), .val (.long q2), .second, .val (.long q3), .second, .val (.long q4), .second, .val (.int p5), .val (.int (2 : Int32)), .val (.double v11_115), .second, .val (.ref b116), .val (.ref b126), .val (.ref b_141), .val (.int (1 : Int32)), .val (.ref c_142), .unset, .unset] [(.ref c_142)])
    refine ogo (fun _ z_ => XS.iconst X173.here hx rfl (hb hby at_367) z_) ?_
    show OWay p e below G T173 (mkF m 368 #[.val (.long q0), .second, .val (.int p1), .val (.long q2), .second, .val (.long q3), .second, .val (.long q4), .second, .val (.int p5), .val (.int (2 : Int32)), .val (.double v11_115), .second, .val (.ref b116), .val (.ref b126), .val (.ref b_141), .val (.int (1 : Int32)), .val (.ref c_142), .unset, .unset] [(.int (0 : Int32)), (.ref c_142)])
    refine ogo (fun _ z_ => XS.aload X173.here hx rfl (hb hby at_368) rfl rfl z_) ?_
    show OWay p e below G T173 (mkF m 370 #[.val (.long q0), .second, .val (.int p1), .val (.long q2), .second, .val (.long q3), .second, .val (.long q4), .second, .val (.int p5), .val (.int (2 : Int32)), .val (.double v11_115), .second, .val (.ref b116), .val (.ref b126), .val (.ref b_141), .val (.int (1 : Int32)), .val (.ref c_142), .unset, .unset] [(.ref c_142), (.int (0 : Int32)), (.ref c_142)])
    refine ogo (fun _ z_ => XS.iconst X173.here hx rfl (hb hby at_370) z_) ?_
    show OWay p e below G T173 (mkF m 371 #[.val (.long q0), .second, .val (.int p1), .val (.long q2), .second, .val (.long q3), .second, .val (.long q4), .second, .val (.int p5), .val (.int (2 : Int32)), .val (.double v11_115), .second, .val (.ref b116), .val (.ref b126), .val (.ref b_141), .val (.int (1 : Int32)), .val (.ref c_142), .unset, .unset] [(.int (0 : Int32)), (.ref c_142), (.int (0 : Int32)), (.ref c_142)])
    obtain ⟨cl_o174, Ar_o174, q_o174, S_o174, N_o174, H_o174, G_o174⟩ := id P156
    have hin_o174 : ¬ ((0 : Int32) < 0 ∨ cl_o174.slots.size ≤ ((0 : Int32)).toNatClampNeg) := inb_of S_o174 ⟨by decide, by decide⟩
    have hat_o174 : cl_o174.slots[((0 : Int32)).toNatClampNeg]? = some (.long q2) := H_o174.at hin_o174 rfl
    refine ogo (fun _ z_ => X173.laload hx (j := (0 : Int32)) (v := (.long q2)) (by rw [eq173]; exact Ar_o174.1) (State.isArrayOf_alike hZ.alike Ar_o174.2.1) Ar_o174.2.2 hin_o174 hat_o174 (g := (mkF m 371 #[.val (.long q0), .second, .val (.int p1), .val (.long q2), .second, .val (.long q3), .second, .val (.long q4), .second, .val (.int p5), .val (.int (2 : Int32)), .val (.double v11_115), .second, .val (.ref b116), .val (.ref b126), .val (.ref b_141), .val (.int (1 : Int32)), .val (.ref c_142), .unset, .unset] [(.int (0 : Int32)), (.ref c_142), (.int (0 : Int32)), (.ref c_142)])) rfl rfl (hb hby at_371) _ z_) ?_
    show OWay p e below G T173 (mkF m 372 #[.val (.long q0), .second, .val (.int p1), .val (.long q2), .second, .val (.long q3), .second, .val (.long q4), .second, .val (.int p5), .val (.int (2 : Int32)), .val (.double v11_115), .second, .val (.ref b116), .val (.ref b126), .val (.ref b_141), .val (.int (1 : Int32)), .val (.ref c_142), .unset, .unset] [(.long q2), (.int (0 : Int32)), (.ref c_142)])
    refine ogo (fun _ z_ => X173.ldc2Long hx hown (mvT hZ (hw _ (List.mem_of_getElem? (i := 76) rfl))) (g := (mkF m 372 #[.val (.long q0), .second, .val (.int p1), .val (.long q2), .second, .val (.long q3), .second, .val (.long q4), .second, .val (.int p5), .val (.int (2 : Int32)), .val (.double v11_115), .second, .val (.ref b116), .val (.ref b126), .val (.ref b_141), .val (.int (1 : Int32)), .val (.ref c_142), .unset, .unset] [(.long q2), (.int (0 : Int32)), (.ref c_142)])) rfl (hb hby at_372) _ z_) ?_
    show OWay p e below G T173 (mkF m 375 #[.val (.long q0), .second, .val (.int p1), .val (.long q2), .second, .val (.long q3), .second, .val (.long q4), .second, .val (.int p5), .val (.int (2 : Int32)), .val (.double v11_115), .second, .val (.ref b116), .val (.ref b126), .val (.ref b_141), .val (.int (1 : Int32)), .val (.ref c_142), .unset, .unset] [(.long (-1 : Int64)), (.long q2), (.int (0 : Int32)), (.ref c_142)])
    refine ogo (fun _ z_ => XS.lxor X173.here hx rfl (hb hby at_375) rfl z_) ?_
    show OWay p e below G T173 (mkF m 376 #[.val (.long q0), .second, .val (.int p1), .val (.long q2), .second, .val (.long q3), .second, .val (.long q4), .second, .val (.int p5), .val (.int (2 : Int32)), .val (.double v11_115), .second, .val (.ref b116), .val (.ref b126), .val (.ref b_141), .val (.int (1 : Int32)), .val (.ref c_142), .unset, .unset] [(.long (q2 ^^^ (-1 : Int64))), (.int (0 : Int32)), (.ref c_142)])
    obtain ⟨cl_o175, Ar_o175, q_o175, S_o175, N_o175, H_o175, G_o175⟩ := id P156
    have hin_o175 : ¬ ((0 : Int32) < 0 ∨ cl_o175.slots.size ≤ ((0 : Int32)).toNatClampNeg) := inb_of S_o175 ⟨by decide, by decide⟩
    obtain ⟨T176, h176, X176, eT176, W176, st176⟩ := stJ X173 hx hZ eq173 Ar_o175 (j := (0 : Int32)) hin_o175 (g := (mkF m 376 #[.val (.long q0), .second, .val (.int p1), .val (.long q2), .second, .val (.long q3), .second, .val (.long q4), .second, .val (.int p5), .val (.int (2 : Int32)), .val (.double v11_115), .second, .val (.ref b116), .val (.ref b126), .val (.ref b_141), .val (.int (1 : Int32)), .val (.ref c_142), .unset, .unset] [(.long (q2 ^^^ (-1 : Int64))), (.int (0 : Int32)), (.ref c_142)])) rfl rfl (hb hby at_376)
    have K177 : Keep h0 h176 [] := K157.wr W176 (Or.inr sz_c_142)
    have V_176 : Arv Z h176 c_142 kc_143 .long (2 : Int32) [(.long (q2 ^^^ (-1 : Int64))), (.long q3)] (.long (0 : Int64)) := Arv.set Ar_o175 q_o175 S_o175 N_o175 H_o175 G_o175 rfl W176 0 rfl (Nat.le_of_ble_eq_true rfl)
    have N176 := Fr.snoc X176 N173 g_c_142
    refine ogo st176 ?_
    show OWay p e below G T176 (mkF m 377 #[.val (.long q0), .second, .val (.int p1), .val (.long q2), .second, .val (.long q3), .second, .val (.long q4), .second, .val (.int p5), .val (.int (2 : Int32)), .val (.double v11_115), .second, .val (.ref b116), .val (.ref b126), .val (.ref b_141), .val (.int (1 : Int32)), .val (.ref c_142), .unset, .unset] [])
    refine ogo (fun _ z_ => XS.aload X176.here hx rfl (hb hby at_377) rfl rfl z_) ?_
    show OWay p e below G T176 (mkF m 379 #[.val (.long q0), .second, .val (.int p1), .val (.long q2), .second, .val (.long q3), .second, .val (.long q4), .second, .val (.int p5), .val (.int (2 : Int32)), .val (.double v11_115), .second, .val (.ref b116), .val (.ref b126), .val (.ref b_141), .val (.int (1 : Int32)), .val (.ref c_142), .unset, .unset] [(.ref b116)])
    refine ogo (fun _ z_ => XS.iconst X176.here hx rfl (hb hby at_379) z_) ?_
    show OWay p e below G T176 (mkF m 380 #[.val (.long q0), .second, .val (.int p1), .val (.long q2), .second, .val (.long q3), .second, .val (.long q4), .second, .val (.int p5), .val (.int (2 : Int32)), .val (.double v11_115), .second, .val (.ref b116), .val (.ref b126), .val (.ref b_141), .val (.int (1 : Int32)), .val (.ref c_142), .unset, .unset] [(.int (0 : Int32)), (.ref b116)])
    have F178 : Arv Z h176 b116 k116 .long (2 : Int32) [(.long q2), (.long q3)] (.long (0 : Int64)) := ((F137.keep Kq139 nin0).other W176 (Nat.ne_of_lt (Nat.lt_of_lt_of_le F137.lt P147)))
    obtain ⟨cl_o179, Ar_o179, q_o179, S_o179, N_o179, H_o179, G_o179⟩ := id F178
    have hin_o179 : ¬ ((0 : Int32) < 0 ∨ cl_o179.slots.size ≤ ((0 : Int32)).toNatClampNeg) := inb_of S_o179 ⟨by decide, by decide⟩
    have hat_o179 : cl_o179.slots[((0 : Int32)).toNatClampNeg]? = some (.long q2) := H_o179.at hin_o179 rfl
    refine ogo (fun _ z_ => X176.laload hx (j := (0 : Int32)) (v := (.long q2)) (by rw [eT176]; exact Ar_o179.1) (State.isArrayOf_alike hZ.alike Ar_o179.2.1) Ar_o179.2.2 hin_o179 hat_o179 (g := (mkF m 380 #[.val (.long q0), .second, .val (.int p1), .val (.long q2), .second, .val (.long q3), .second, .val (.long q4), .second, .val (.int p5), .val (.int (2 : Int32)), .val (.double v11_115), .second, .val (.ref b116), .val (.ref b126), .val (.ref b_141), .val (.int (1 : Int32)), .val (.ref c_142), .unset, .unset] [(.int (0 : Int32)), (.ref b116)])) rfl rfl (hb hby at_380) _ z_) ?_
    show OWay p e below G T176 (mkF m 381 #[.val (.long q0), .second, .val (.int p1), .val (.long q2), .second, .val (.long q3), .second, .val (.long q4), .second, .val (.int p5), .val (.int (2 : Int32)), .val (.double v11_115), .second, .val (.ref b116), .val (.ref b126), .val (.ref b_141), .val (.int (1 : Int32)), .val (.ref c_142), .unset, .unset] [(.long q2)])
    refine ogo (fun _ z_ => XS.lloadN X176.here hx rfl (hb hby at_381) rfl z_) ?_
    show OWay p e below G T176 (mkF m 382 #[.val (.long q0), .second, .val (.int p1), .val (.long q2), .second, .val (.long q3), .second, .val (.long q4), .second, .val (.int p5), .val (.int (2 : Int32)), .val (.double v11_115), .second, .val (.ref b116), .val (.ref b126), .val (.ref b_141), .val (.int (1 : Int32)), .val (.ref c_142), .unset, .unset] [(.long q2), (.long q2)])
    refine ogo (fun _ z_ => XS.lcmp X176.here hx rfl (hb hby at_382) rfl z_) ?_
    show OWay p e below G T176 (mkF m 383 #[.val (.long q0), .second, .val (.int p1), .val (.long q2), .second, .val (.long q3), .second, .val (.long q4), .second, .val (.int p5), .val (.int (2 : Int32)), .val (.double v11_115), .second, .val (.ref b116), .val (.ref b126), .val (.ref b_141), .val (.int (1 : Int32)), .val (.ref c_142), .unset, .unset] [(.int (lcmpW q2 q2))])
    refine ogo (fun _ z_ => XS.ifNo X176.here hx rfl (hb hby at_383) rfl ((if0 _ _).trans (teq ((lw_eq _ _).mpr rfl)).2) z_) ?_
    show OWay p e below G T176 (mkF m 386 #[.val (.long q0), .second, .val (.int p1), .val (.long q2), .second, .val (.long q3), .second, .val (.long q4), .second, .val (.int p5), .val (.int (2 : Int32)), .val (.double v11_115), .second, .val (.ref b116), .val (.ref b126), .val (.ref b_141), .val (.int (1 : Int32)), .val (.ref c_142), .unset, .unset] [])
    refine ogo (fun _ z_ => XS.iconst X176.here hx rfl (hb hby at_386) z_) ?_
    show OWay p e below G T176 (mkF m 387 #[.val (.long q0), .second, .val (.int p1), .val (.long q2), .second, .val (.long q3), .second, .val (.long q4), .second, .val (.int p5), .val (.int (2 : Int32)), .val (.double v11_115), .second, .val (.ref b116), .val (.ref b126), .val (.ref b_141), .val (.int (1 : Int32)), .val (.ref c_142), .unset, .unset] [(.int (1 : Int32))])
    refine ogo (fun _ z_ => XS.goto X176.here hx rfl (pc0 := 387) (pc' := 391) rfl (hb hby at_387) (by decide) (by decide) z_) ?_
    show OWay p e below G T176 (mkF m 391 #[.val (.long q0), .second, .val (.int p1), .val (.long q2), .second, .val (.long q3), .second, .val (.long q4), .second, .val (.int p5), .val (.int (2 : Int32)), .val (.double v11_115), .second, .val (.ref b116), .val (.ref b126), .val (.ref b_141), .val (.int (1 : Int32)), .val (.ref c_142), .unset, .unset] [(.int (1 : Int32))])
    refine ogo (fun _ z_ => XS.istore X176.here hx rfl (hb hby at_391) rfl (l' := #[.val (.long q0), .second, .val (.int p1), .val (.long q2), .second, .val (.long q3), .second, .val (.long q4), .second, .val (.int p5), .val (.int (2 : Int32)), .val (.double v11_115), .second, .val (.ref b116), .val (.ref b126), .val (.ref b_141), .val (.int (1 : Int32)), .val (.ref c_142), .unset, .unset]) rfl z_) ?_
    show OWay p e below G T176 (mkF m 393 #[.val (.long q0), .second, .val (.int p1), .val (.long q2), .second, .val (.long q3), .second, .val (.long q4), .second, .val (.int p5), .val (.int (2 : Int32)), .val (.double v11_115), .second, .val (.ref b116), .val (.ref b126), .val (.ref b_141), .val (.int (1 : Int32)), .val (.ref c_142), .unset, .unset] [])
    refine ogo (fun _ z_ => XS.aload X176.here hx rfl (hb hby at_393) rfl rfl z_) ?_
    show OWay p e below G T176 (mkF m 395 #[.val (.long q0), .second, .val (.int p1), .val (.long q2), .second, .val (.long q3), .second, .val (.long q4), .second, .val (.int p5), .val (.int (2 : Int32)), .val (.double v11_115), .second, .val (.ref b116), .val (.ref b126), .val (.ref b_141), .val (.int (1 : Int32)), .val (.ref c_142), .unset, .unset] [(.ref b116)])
    refine ogo (fun _ z_ => XS.iload X176.here hx rfl (hb hby at_395) rfl z_) ?_
    show OWay p e below G T176 (mkF m 397 #[.val (.long q0), .second, .val (.int p1), .val (.long q2), .second, .val (.long q3), .second, .val (.long q4), .second, .val (.int p5), .val (.int (2 : Int32)), .val (.double v11_115), .second, .val (.ref b116), .val (.ref b126), .val (.ref b_141), .val (.int (1 : Int32)), .val (.ref c_142), .unset, .unset] [(.int (2 : Int32)), (.ref b116)])
    refine ogo (fun _ z_ => XS.iconst X176.here hx rfl (hb hby at_397) z_) ?_
    show OWay p e below G T176 (mkF m 398 #[.val (.long q0), .second, .val (.int p1), .val (.long q2), .second, .val (.long q3), .second, .val (.long q4), .second, .val (.int p5), .val (.int (2 : Int32)), .val (.double v11_115), .second, .val (.ref b116), .val (.ref b126), .val (.ref b_141), .val (.int (1 : Int32)), .val (.ref c_142), .unset, .unset] [(.int (1 : Int32)), (.int (2 : Int32)), (.ref b116)])
    refine ogo (fun _ z_ => XS.isub X176.here hx rfl (hb hby at_398) rfl z_) ?_
    show OWay p e below G T176 (mkF m 399 #[.val (.long q0), .second, .val (.int p1), .val (.long q2), .second, .val (.long q3), .second, .val (.long q4), .second, .val (.int p5), .val (.int (2 : Int32)), .val (.double v11_115), .second, .val (.ref b116), .val (.ref b126), .val (.ref b_141), .val (.int (1 : Int32)), .val (.ref c_142), .unset, .unset] [(.int ((2 : Int32) - (1 : Int32))), (.ref b116)])
    refine ogoE (g' := (mkF m 399 #[.val (.long q0), .second, .val (.int p1), .val (.long q2), .second, .val (.long q3), .second, .val (.long q4), .second, .val (.int p5), .val (.int (2 : Int32)), .val (.double v11_115), .second, .val (.ref b116), .val (.ref b126), .val (.ref b_141), .val (.int (1 : Int32)), .val (.ref c_142), .unset, .unset] [(.int (1 : Int32)), (.ref b116)])) (by rw [show ((2 : Int32) - (1 : Int32)) = (1 : Int32) from by decide]) ?_
    refine ogo (fun _ z_ => XS.aload X176.here hx rfl (hb hby at_399) rfl rfl z_) ?_
    show OWay p e below G T176 (mkF m 401 #[.val (.long q0), .second, .val (.int p1), .val (.long q2), .second, .val (.long q3), .second, .val (.long q4), .second, .val (.int p5), .val (.int (2 : Int32)), .val (.double v11_115), .second, .val (.ref b116), .val (.ref b126), .val (.ref b_141), .val (.int (1 : Int32)), .val (.ref c_142), .unset, .unset] [(.ref b116), (.int (1 : Int32)), (.ref b116)])
    refine ogo (fun _ z_ => XS.iload X176.here hx rfl (hb hby at_401) rfl z_) ?_
    show OWay p e below G T176 (mkF m 403 #[.val (.long q0), .second, .val (.int p1), .val (.long q2), .second, .val (.long q3), .second, .val (.long q4), .second, .val (.int p5), .val (.int (2 : Int32)), .val (.double v11_115), .second, .val (.ref b116), .val (.ref b126), .val (.ref b_141), .val (.int (1 : Int32)), .val (.ref c_142), .unset, .unset] [(.int (2 : Int32)), (.ref b116), (.int (1 : Int32)), (.ref b116)])
    refine ogo (fun _ z_ => XS.iconst X176.here hx rfl (hb hby at_403) z_) ?_
    show OWay p e below G T176 (mkF m 404 #[.val (.long q0), .second, .val (.int p1), .val (.long q2), .second, .val (.long q3), .second, .val (.long q4), .second, .val (.int p5), .val (.int (2 : Int32)), .val (.double v11_115), .second, .val (.ref b116), .val (.ref b126), .val (.ref b_141), .val (.int (1 : Int32)), .val (.ref c_142), .unset, .unset] [(.int (1 : Int32)), (.int (2 : Int32)), (.ref b116), (.int (1 : Int32)), (.ref b116)])
    refine ogo (fun _ z_ => XS.isub X176.here hx rfl (hb hby at_404) rfl z_) ?_
    show OWay p e below G T176 (mkF m 405 #[.val (.long q0), .second, .val (.int p1), .val (.long q2), .second, .val (.long q3), .second, .val (.long q4), .second, .val (.int p5), .val (.int (2 : Int32)), .val (.double v11_115), .second, .val (.ref b116), .val (.ref b126), .val (.ref b_141), .val (.int (1 : Int32)), .val (.ref c_142), .unset, .unset] [(.int ((2 : Int32) - (1 : Int32))), (.ref b116), (.int (1 : Int32)), (.ref b116)])
    refine ogoE (g' := (mkF m 405 #[.val (.long q0), .second, .val (.int p1), .val (.long q2), .second, .val (.long q3), .second, .val (.long q4), .second, .val (.int p5), .val (.int (2 : Int32)), .val (.double v11_115), .second, .val (.ref b116), .val (.ref b126), .val (.ref b_141), .val (.int (1 : Int32)), .val (.ref c_142), .unset, .unset] [(.int (1 : Int32)), (.ref b116), (.int (1 : Int32)), (.ref b116)])) (by rw [show ((2 : Int32) - (1 : Int32)) = (1 : Int32) from by decide]) ?_
    obtain ⟨cl_o180, Ar_o180, q_o180, S_o180, N_o180, H_o180, G_o180⟩ := id F178
    have hin_o180 : ¬ ((1 : Int32) < 0 ∨ cl_o180.slots.size ≤ ((1 : Int32)).toNatClampNeg) := inb_of S_o180 ⟨by decide, by decide⟩
    have hat_o180 : cl_o180.slots[((1 : Int32)).toNatClampNeg]? = some (.long q3) := H_o180.at hin_o180 rfl
    refine ogo (fun _ z_ => X176.laload hx (j := (1 : Int32)) (v := (.long q3)) (by rw [eT176]; exact Ar_o180.1) (State.isArrayOf_alike hZ.alike Ar_o180.2.1) Ar_o180.2.2 hin_o180 hat_o180 (g := (mkF m 405 #[.val (.long q0), .second, .val (.int p1), .val (.long q2), .second, .val (.long q3), .second, .val (.long q4), .second, .val (.int p5), .val (.int (2 : Int32)), .val (.double v11_115), .second, .val (.ref b116), .val (.ref b126), .val (.ref b_141), .val (.int (1 : Int32)), .val (.ref c_142), .unset, .unset] [(.int (1 : Int32)), (.ref b116), (.int (1 : Int32)), (.ref b116)])) rfl rfl (hb hby at_405) _ z_) ?_
    show OWay p e below G T176 (mkF m 406 #[.val (.long q0), .second, .val (.int p1), .val (.long q2), .second, .val (.long q3), .second, .val (.long q4), .second, .val (.int p5), .val (.int (2 : Int32)), .val (.double v11_115), .second, .val (.ref b116), .val (.ref b126), .val (.ref b_141), .val (.int (1 : Int32)), .val (.ref c_142), .unset, .unset] [(.long q3), (.int (1 : Int32)), (.ref b116)])
    refine ogo (fun _ z_ => X176.ldc2Long hx hown (mvT hZ (hw _ (List.mem_of_getElem? (i := 76) rfl))) (g := (mkF m 406 #[.val (.long q0), .second, .val (.int p1), .val (.long q2), .second, .val (.long q3), .second, .val (.long q4), .second, .val (.int p5), .val (.int (2 : Int32)), .val (.double v11_115), .second, .val (.ref b116), .val (.ref b126), .val (.ref b_141), .val (.int (1 : Int32)), .val (.ref c_142), .unset, .unset] [(.long q3), (.int (1 : Int32)), (.ref b116)])) rfl (hb hby at_406) _ z_) ?_
    show OWay p e below G T176 (mkF m 409 #[.val (.long q0), .second, .val (.int p1), .val (.long q2), .second, .val (.long q3), .second, .val (.long q4), .second, .val (.int p5), .val (.int (2 : Int32)), .val (.double v11_115), .second, .val (.ref b116), .val (.ref b126), .val (.ref b_141), .val (.int (1 : Int32)), .val (.ref c_142), .unset, .unset] [(.long (-1 : Int64)), (.long q3), (.int (1 : Int32)), (.ref b116)])
    refine ogo (fun _ z_ => XS.lxor X176.here hx rfl (hb hby at_409) rfl z_) ?_
    show OWay p e below G T176 (mkF m 410 #[.val (.long q0), .second, .val (.int p1), .val (.long q2), .second, .val (.long q3), .second, .val (.long q4), .second, .val (.int p5), .val (.int (2 : Int32)), .val (.double v11_115), .second, .val (.ref b116), .val (.ref b126), .val (.ref b_141), .val (.int (1 : Int32)), .val (.ref c_142), .unset, .unset] [(.long (q3 ^^^ (-1 : Int64))), (.int (1 : Int32)), (.ref b116)])
    obtain ⟨cl_o181, Ar_o181, q_o181, S_o181, N_o181, H_o181, G_o181⟩ := id F178
    have hin_o181 : ¬ ((1 : Int32) < 0 ∨ cl_o181.slots.size ≤ ((1 : Int32)).toNatClampNeg) := inb_of S_o181 ⟨by decide, by decide⟩
    obtain ⟨T182, h182, X182, eT182, W182, st182⟩ := stJ X176 hx hZ eT176 Ar_o181 (j := (1 : Int32)) hin_o181 (g := (mkF m 410 #[.val (.long q0), .second, .val (.int p1), .val (.long q2), .second, .val (.long q3), .second, .val (.long q4), .second, .val (.int p5), .val (.int (2 : Int32)), .val (.double v11_115), .second, .val (.ref b116), .val (.ref b126), .val (.ref b_141), .val (.int (1 : Int32)), .val (.ref c_142), .unset, .unset] [(.long (q3 ^^^ (-1 : Int64))), (.int (1 : Int32)), (.ref b116)])) rfl rfl (hb hby at_410)
    have K183 : Keep h0 h182 [] := K177.wr W182 (Or.inr sz_b116)
    have V_182 : Arv Z h182 b116 k116 .long (2 : Int32) [(.long q2), (.long (q3 ^^^ (-1 : Int64)))] (.long (0 : Int64)) := Arv.set Ar_o181 q_o181 S_o181 N_o181 H_o181 G_o181 rfl W182 1 rfl (Nat.le_of_ble_eq_true rfl)
    have N182 := Fr.snoc X182 N176 g_b116
    refine ogo st182 ?_
    show OWay p e below G T182 (mkF m 411 #[.val (.long q0), .second, .val (.int p1), .val (.long q2), .second, .val (.long q3), .second, .val (.long q4), .second, .val (.int p5), .val (.int (2 : Int32)), .val (.double v11_115), .second, .val (.ref b116), .val (.ref b126), .val (.ref b_141), .val (.int (1 : Int32)), .val (.ref c_142), .unset, .unset] [])
    refine ogo (fun _ z_ => XS.iload X182.here hx rfl (hb hby at_411) rfl z_) ?_
    show OWay p e below G T182 (mkF m 413 #[.val (.long q0), .second, .val (.int p1), .val (.long q2), .second, .val (.long q3), .second, .val (.long q4), .second, .val (.int p5), .val (.int (2 : Int32)), .val (.double v11_115), .second, .val (.ref b116), .val (.ref b126), .val (.ref b_141), .val (.int (1 : Int32)), .val (.ref c_142), .unset, .unset] [(.int (2 : Int32))])
    refine ogo (fun _ z_ => XS.iconst X182.here hx rfl (hb hby at_413) z_) ?_
    show OWay p e below G T182 (mkF m 414 #[.val (.long q0), .second, .val (.int p1), .val (.long q2), .second, .val (.long q3), .second, .val (.long q4), .second, .val (.int p5), .val (.int (2 : Int32)), .val (.double v11_115), .second, .val (.ref b116), .val (.ref b126), .val (.ref b_141), .val (.int (1 : Int32)), .val (.ref c_142), .unset, .unset] [(.int (1 : Int32)), (.int (2 : Int32))])
    refine ogo (fun _ z_ => XS.icmpYes X182.here hx rfl (pc0 := 414) (pc' := 425) rfl (hb hby at_414) rfl (feq (by decide)).2 (by decide) (by decide) z_) ?_
    show OWay p e below G T182 (mkF m 425 #[.val (.long q0), .second, .val (.int p1), .val (.long q2), .second, .val (.long q3), .second, .val (.long q4), .second, .val (.int p5), .val (.int (2 : Int32)), .val (.double v11_115), .second, .val (.ref b116), .val (.ref b126), .val (.ref b_141), .val (.int (1 : Int32)), .val (.ref c_142), .unset, .unset] [])
    refine ogo (fun _ z_ => XS.iload X182.here hx rfl (hb hby at_425) rfl z_) ?_
    show OWay p e below G T182 (mkF m 427 #[.val (.long q0), .second, .val (.int p1), .val (.long q2), .second, .val (.long q3), .second, .val (.long q4), .second, .val (.int p5), .val (.int (2 : Int32)), .val (.double v11_115), .second, .val (.ref b116), .val (.ref b126), .val (.ref b_141), .val (.int (1 : Int32)), .val (.ref c_142), .unset, .unset] [(.int (2 : Int32))])
    refine ogo (fun _ z_ => XS.iconst X182.here hx rfl (hb hby at_427) z_) ?_
    show OWay p e below G T182 (mkF m 428 #[.val (.long q0), .second, .val (.int p1), .val (.long q2), .second, .val (.long q3), .second, .val (.long q4), .second, .val (.int p5), .val (.int (2 : Int32)), .val (.double v11_115), .second, .val (.ref b116), .val (.ref b126), .val (.ref b_141), .val (.int (1 : Int32)), .val (.ref c_142), .unset, .unset] [(.int (1 : Int32)), (.int (2 : Int32))])
    refine ogo (fun _ z_ => XS.isub X182.here hx rfl (hb hby at_428) rfl z_) ?_
    show OWay p e below G T182 (mkF m 429 #[.val (.long q0), .second, .val (.int p1), .val (.long q2), .second, .val (.long q3), .second, .val (.long q4), .second, .val (.int p5), .val (.int (2 : Int32)), .val (.double v11_115), .second, .val (.ref b116), .val (.ref b126), .val (.ref b_141), .val (.int (1 : Int32)), .val (.ref c_142), .unset, .unset] [(.int ((2 : Int32) - (1 : Int32)))])
    refine ogoE (g' := (mkF m 429 #[.val (.long q0), .second, .val (.int p1), .val (.long q2), .second, .val (.long q3), .second, .val (.long q4), .second, .val (.int p5), .val (.int (2 : Int32)), .val (.double v11_115), .second, .val (.ref b116), .val (.ref b126), .val (.ref b_141), .val (.int (1 : Int32)), .val (.ref c_142), .unset, .unset] [(.int (1 : Int32))])) (by rw [show ((2 : Int32) - (1 : Int32)) = (1 : Int32) from by decide]) ?_
    refine ogo (fun _ z_ => XS.lloadN X182.here hx rfl (hb hby at_429) rfl z_) ?_
    show OWay p e below G T182 (mkF m 430 #[.val (.long q0), .second, .val (.int p1), .val (.long q2), .second, .val (.long q3), .second, .val (.long q4), .second, .val (.int p5), .val (.int (2 : Int32)), .val (.double v11_115), .second, .val (.ref b116), .val (.ref b126), .val (.ref b_141), .val (.int (1 : Int32)), .val (.ref c_142), .unset, .unset] [(.long q2), (.int (1 : Int32))])
    refine ogo (fun _ z_ => XS.lload X182.here hx rfl (hb hby at_430) rfl z_) ?_
    show OWay p e below G T182 (mkF m 432 #[.val (.long q0), .second, .val (.int p1), .val (.long q2), .second, .val (.long q3), .second, .val (.long q4), .second, .val (.int p5), .val (.int (2 : Int32)), .val (.double v11_115), .second, .val (.ref b116), .val (.ref b126), .val (.ref b_141), .val (.int (1 : Int32)), .val (.ref c_142), .unset, .unset] [(.long q3), (.long q2), (.int (1 : Int32))])
    obtain ⟨_, T184, L184, X184, hQ184, st184⟩ := wStatic X182 hx hZ (y := (⟨"com/example/sito/sito/SliceCopyPinLaw", "expected", "(IJJ)J"⟩ : MethodName)) hown (hw _ (List.mem_of_getElem? (i := 72) rfl)) (hw _ (List.mem_of_getElem? (i := 73) rfl)) (hw _ (List.mem_of_getElem? (i := 74) rfl)) (hw _ (List.mem_of_getElem? (i := 75) rfl)) (by decide) (exp1_c l Z az hw [] q2 q3 h182 n0 (Nat.le_trans (Nat.le_trans (Nat.le_trans (Nat.le_trans (Nat.le_trans (Nat.le_trans (Nat.le_trans (Nat.le_trans Z0 E116.1) (Keep.of_wr W120).1) (Keep.of_wr W124).1) E126.1) Kq129.1) Kq139.1) (Keep.of_wr W176).1) (Keep.of_wr W182).1)) 0 (by decide) (by decide) (g := (mkF m 432 #[.val (.long q0), .second, .val (.int p1), .val (.long q2), .second, .val (.long q3), .second, .val (.long q4), .second, .val (.int p5), .val (.int (2 : Int32)), .val (.double v11_115), .second, .val (.ref b116), .val (.ref b126), .val (.ref b_141), .val (.int (1 : Int32)), .val (.ref c_142), .unset, .unset] [(.long q3), (.long q2), (.int (1 : Int32))])) rfl (by rw [hml]; rfl) (argsL := [(.int (1 : Int32)), (.long q2), (.long q3)]) (rest := []) (lenOf pd__IJJ_J rfl) rfl (by show 2 * 0 + _ ≤ _; exact Nat.le_of_eq rfl) (hb hby at_432) rfl eT182 (by decide) (by decide)
    obtain ⟨rfl, N184q, eq184⟩ := hQ184
    have N184 := Fr.app N182 N184q
    refine ogo st184 ?_
    show OWay p e below G T184 (mkF m 435 #[.val (.long q0), .second, .val (.int p1), .val (.long q2), .second, .val (.long q3), .second, .val (.long q4), .second, .val (.int p5), .val (.int (2 : Int32)), .val (.double v11_115), .second, .val (.ref b116), .val (.ref b126), .val (.ref b_141), .val (.int (1 : Int32)), .val (.ref c_142), .unset, .unset] [(.long q3)])
    refine ogo (fun _ z_ => XS.lstore X184.here hx rfl (hb hby at_435) rfl (l' := #[.val (.long q0), .second, .val (.int p1), .val (.long q2), .second, .val (.long q3), .second, .val (.long q4), .second, .val (.int p5), .val (.int (2 : Int32)), .val (.double v11_115), .second, .val (.ref b116), .val (.ref b126), .val (.ref b_141), .val (.int (1 : Int32)), .val (.ref c_142), .val (.long q3), .second]) rfl z_) ?_
    show OWay p e below G T184 (mkF m 437 #[.val (.long q0), .second, .val (.int p1), .val (.long q2), .second, .val (.long q3), .second, .val (.long q4), .second, .val (.int p5), .val (.int (2 : Int32)), .val (.double v11_115), .second, .val (.ref b116), .val (.ref b126), .val (.ref b_141), .val (.int (1 : Int32)), .val (.ref c_142), .val (.long q3), .second] [])
    refine ogo (fun _ z_ => XS.iload X184.here hx rfl (hb hby at_437) rfl z_) ?_
    show OWay p e below G T184 (mkF m 439 #[.val (.long q0), .second, .val (.int p1), .val (.long q2), .second, .val (.long q3), .second, .val (.long q4), .second, .val (.int p5), .val (.int (2 : Int32)), .val (.double v11_115), .second, .val (.ref b116), .val (.ref b126), .val (.ref b_141), .val (.int (1 : Int32)), .val (.ref c_142), .val (.long q3), .second] [(.int (1 : Int32))])
    refine ogo (fun _ z_ => XS.ifNo X184.here hx rfl (hb hby at_439) rfl ((if0 _ _).trans (feq (by decide)).1) z_) ?_
    show OWay p e below G T184 (mkF m 442 #[.val (.long q0), .second, .val (.int p1), .val (.long q2), .second, .val (.long q3), .second, .val (.long q4), .second, .val (.int p5), .val (.int (2 : Int32)), .val (.double v11_115), .second, .val (.ref b116), .val (.ref b126), .val (.ref b_141), .val (.int (1 : Int32)), .val (.ref c_142), .val (.long q3), .second] [])
    refine ogo (fun _ z_ => XS.aload X184.here hx rfl (hb hby at_442) rfl rfl z_) ?_
    show OWay p e below G T184 (mkF m 444 #[.val (.long q0), .second, .val (.int p1), .val (.long q2), .second, .val (.long q3), .second, .val (.long q4), .second, .val (.int p5), .val (.int (2 : Int32)), .val (.double v11_115), .second, .val (.ref b116), .val (.ref b126), .val (.ref b_141), .val (.int (1 : Int32)), .val (.ref c_142), .val (.long q3), .second] [(.ref c_142)])
    refine ogo (fun _ z_ => XS.iload X184.here hx rfl (hb hby at_444) rfl z_) ?_
    show OWay p e below G T184 (mkF m 446 #[.val (.long q0), .second, .val (.int p1), .val (.long q2), .second, .val (.long q3), .second, .val (.long q4), .second, .val (.int p5), .val (.int (2 : Int32)), .val (.double v11_115), .second, .val (.ref b116), .val (.ref b126), .val (.ref b_141), .val (.int (1 : Int32)), .val (.ref c_142), .val (.long q3), .second] [(.int (2 : Int32)), (.ref c_142)])
    refine ogo (fun _ z_ => XS.iconst X184.here hx rfl (hb hby at_446) z_) ?_
    show OWay p e below G T184 (mkF m 447 #[.val (.long q0), .second, .val (.int p1), .val (.long q2), .second, .val (.long q3), .second, .val (.long q4), .second, .val (.int p5), .val (.int (2 : Int32)), .val (.double v11_115), .second, .val (.ref b116), .val (.ref b126), .val (.ref b_141), .val (.int (1 : Int32)), .val (.ref c_142), .val (.long q3), .second] [(.int (1 : Int32)), (.int (2 : Int32)), (.ref c_142)])
    refine ogo (fun _ z_ => XS.isub X184.here hx rfl (hb hby at_447) rfl z_) ?_
    show OWay p e below G T184 (mkF m 448 #[.val (.long q0), .second, .val (.int p1), .val (.long q2), .second, .val (.long q3), .second, .val (.long q4), .second, .val (.int p5), .val (.int (2 : Int32)), .val (.double v11_115), .second, .val (.ref b116), .val (.ref b126), .val (.ref b_141), .val (.int (1 : Int32)), .val (.ref c_142), .val (.long q3), .second] [(.int ((2 : Int32) - (1 : Int32))), (.ref c_142)])
    refine ogoE (g' := (mkF m 448 #[.val (.long q0), .second, .val (.int p1), .val (.long q2), .second, .val (.long q3), .second, .val (.long q4), .second, .val (.int p5), .val (.int (2 : Int32)), .val (.double v11_115), .second, .val (.ref b116), .val (.ref b126), .val (.ref b_141), .val (.int (1 : Int32)), .val (.ref c_142), .val (.long q3), .second] [(.int (1 : Int32)), (.ref c_142)])) (by rw [show ((2 : Int32) - (1 : Int32)) = (1 : Int32) from by decide]) ?_
    have F185 : Arv Z h182 c_142 kc_143 .long (2 : Int32) [(.long (q2 ^^^ (-1 : Int64))), (.long q3)] (.long (0 : Int64)) := (V_176.other W182 (Ne.symm (Nat.ne_of_lt (Nat.lt_of_lt_of_le F138.lt P147))))
    obtain ⟨cl_o186, Ar_o186, q_o186, S_o186, N_o186, H_o186, G_o186⟩ := id F185
    have hin_o186 : ¬ ((1 : Int32) < 0 ∨ cl_o186.slots.size ≤ ((1 : Int32)).toNatClampNeg) := inb_of S_o186 ⟨by decide, by decide⟩
    have hat_o186 : cl_o186.slots[((1 : Int32)).toNatClampNeg]? = some (.long q3) := H_o186.at hin_o186 rfl
    refine ogo (fun _ z_ => X184.laload hx (j := (1 : Int32)) (v := (.long q3)) (by rw [eq184]; exact Ar_o186.1) (State.isArrayOf_alike hZ.alike Ar_o186.2.1) Ar_o186.2.2 hin_o186 hat_o186 (g := (mkF m 448 #[.val (.long q0), .second, .val (.int p1), .val (.long q2), .second, .val (.long q3), .second, .val (.long q4), .second, .val (.int p5), .val (.int (2 : Int32)), .val (.double v11_115), .second, .val (.ref b116), .val (.ref b126), .val (.ref b_141), .val (.int (1 : Int32)), .val (.ref c_142), .val (.long q3), .second] [(.int (1 : Int32)), (.ref c_142)])) rfl rfl (hb hby at_448) _ z_) ?_
    show OWay p e below G T184 (mkF m 449 #[.val (.long q0), .second, .val (.int p1), .val (.long q2), .second, .val (.long q3), .second, .val (.long q4), .second, .val (.int p5), .val (.int (2 : Int32)), .val (.double v11_115), .second, .val (.ref b116), .val (.ref b126), .val (.ref b_141), .val (.int (1 : Int32)), .val (.ref c_142), .val (.long q3), .second] [(.long q3)])
    refine ogo (fun _ z_ => XS.lload X184.here hx rfl (hb hby at_449) rfl z_) ?_
    show OWay p e below G T184 (mkF m 451 #[.val (.long q0), .second, .val (.int p1), .val (.long q2), .second, .val (.long q3), .second, .val (.long q4), .second, .val (.int p5), .val (.int (2 : Int32)), .val (.double v11_115), .second, .val (.ref b116), .val (.ref b126), .val (.ref b_141), .val (.int (1 : Int32)), .val (.ref c_142), .val (.long q3), .second] [(.long q3), (.long q3)])
    refine ogo (fun _ z_ => XS.lcmp X184.here hx rfl (hb hby at_451) rfl z_) ?_
    show OWay p e below G T184 (mkF m 452 #[.val (.long q0), .second, .val (.int p1), .val (.long q2), .second, .val (.long q3), .second, .val (.long q4), .second, .val (.int p5), .val (.int (2 : Int32)), .val (.double v11_115), .second, .val (.ref b116), .val (.ref b126), .val (.ref b_141), .val (.int (1 : Int32)), .val (.ref c_142), .val (.long q3), .second] [(.int (lcmpW q3 q3))])
    refine ogo (fun _ z_ => XS.ifNo X184.here hx rfl (hb hby at_452) rfl ((if0 _ _).trans (teq ((lw_eq _ _).mpr rfl)).2) z_) ?_
    show OWay p e below G T184 (mkF m 455 #[.val (.long q0), .second, .val (.int p1), .val (.long q2), .second, .val (.long q3), .second, .val (.long q4), .second, .val (.int p5), .val (.int (2 : Int32)), .val (.double v11_115), .second, .val (.ref b116), .val (.ref b126), .val (.ref b_141), .val (.int (1 : Int32)), .val (.ref c_142), .val (.long q3), .second] [])
    refine ogo (fun _ z_ => XS.iconst X184.here hx rfl (hb hby at_455) z_) ?_
    show OWay p e below G T184 (mkF m 456 #[.val (.long q0), .second, .val (.int p1), .val (.long q2), .second, .val (.long q3), .second, .val (.long q4), .second, .val (.int p5), .val (.int (2 : Int32)), .val (.double v11_115), .second, .val (.ref b116), .val (.ref b126), .val (.ref b_141), .val (.int (1 : Int32)), .val (.ref c_142), .val (.long q3), .second] [(.int (1 : Int32))])
    refine ogo (fun _ z_ => XS.goto X184.here hx rfl (pc0 := 456) (pc' := 460) rfl (hb hby at_456) (by decide) (by decide) z_) ?_
    show OWay p e below G T184 (mkF m 460 #[.val (.long q0), .second, .val (.int p1), .val (.long q2), .second, .val (.long q3), .second, .val (.long q4), .second, .val (.int p5), .val (.int (2 : Int32)), .val (.double v11_115), .second, .val (.ref b116), .val (.ref b126), .val (.ref b_141), .val (.int (1 : Int32)), .val (.ref c_142), .val (.long q3), .second] [(.int (1 : Int32))])
    refine ogo (fun _ z_ => XS.istore X184.here hx rfl (hb hby at_460) rfl (l' := #[.val (.long q0), .second, .val (.int p1), .val (.long q2), .second, .val (.long q3), .second, .val (.long q4), .second, .val (.int p5), .val (.int (2 : Int32)), .val (.double v11_115), .second, .val (.ref b116), .val (.ref b126), .val (.ref b_141), .val (.int (1 : Int32)), .val (.ref c_142), .val (.long q3), .second]) rfl z_) ?_
    show OWay p e below G T184 (mkF m 462 #[.val (.long q0), .second, .val (.int p1), .val (.long q2), .second, .val (.long q3), .second, .val (.long q4), .second, .val (.int p5), .val (.int (2 : Int32)), .val (.double v11_115), .second, .val (.ref b116), .val (.ref b126), .val (.ref b_141), .val (.int (1 : Int32)), .val (.ref c_142), .val (.long q3), .second] [])
    refine ogo (fun _ z_ => XS.iload X184.here hx rfl (hb hby at_462) rfl z_) ?_
    show OWay p e below G T184 (mkF m 464 #[.val (.long q0), .second, .val (.int p1), .val (.long q2), .second, .val (.long q3), .second, .val (.long q4), .second, .val (.int p5), .val (.int (2 : Int32)), .val (.double v11_115), .second, .val (.ref b116), .val (.ref b126), .val (.ref b_141), .val (.int (1 : Int32)), .val (.ref c_142), .val (.long q3), .second] [(.int (1 : Int32))])
    subst hG
    refine wRetN X184 hx (t := .boolean) hret hlk (by simp) (hb hby at_464) (by decide) (by decide) eq184 ?_
    exact ⟨rfl, N184⟩
  · show OWay p e below G s₁ (mkF m 6 #[.val (.long q0), .second, .val (.int p1), .val (.long q2), .second, .val (.long q3), .second, .val (.long q4), .second, .val (.int p5), .val (.int (3 : Int32)), .unset, .unset, .unset, .unset, .unset, .unset, .unset, .unset, .unset] [])
    refine ogo (fun _ z_ => XS.iload X0.here hx rfl (hb hby at_6) rfl z_) ?_
    show OWay p e below G s₁ (mkF m 8 #[.val (.long q0), .second, .val (.int p1), .val (.long q2), .second, .val (.long q3), .second, .val (.long q4), .second, .val (.int p5), .val (.int (3 : Int32)), .unset, .unset, .unset, .unset, .unset, .unset, .unset, .unset, .unset] [(.int p5)])
    refine ogo (fun _ z_ => XS.iconst X0.here hx rfl (hb hby at_8) z_) ?_
    show OWay p e below G s₁ (mkF m 9 #[.val (.long q0), .second, .val (.int p1), .val (.long q2), .second, .val (.long q3), .second, .val (.long q4), .second, .val (.int p5), .val (.int (3 : Int32)), .unset, .unset, .unset, .unset, .unset, .unset, .unset, .unset, .unset] [(.int (2 : Int32)), (.int p5)])
    refine ogo (fun _ z_ => XS.iushr X0.here hx rfl (hb hby at_9) rfl z_) ?_
    show OWay p e below G s₁ (mkF m 10 #[.val (.long q0), .second, .val (.int p1), .val (.long q2), .second, .val (.long q3), .second, .val (.long q4), .second, .val (.int p5), .val (.int (3 : Int32)), .unset, .unset, .unset, .unset, .unset, .unset, .unset, .unset, .unset] [(.int ((p5.toUInt32 >>> ((2 : Int32) &&& 31).toUInt32).toInt32))])
    refine ogo (fun _ z_ => X0.ldcInt hx hown (mvT hZ (hw _ (List.mem_of_getElem? (i := 0) rfl))) (g := (mkF m 10 #[.val (.long q0), .second, .val (.int p1), .val (.long q2), .second, .val (.long q3), .second, .val (.long q4), .second, .val (.int p5), .val (.int (3 : Int32)), .unset, .unset, .unset, .unset, .unset, .unset, .unset, .unset, .unset] [(.int ((p5.toUInt32 >>> ((2 : Int32) &&& 31).toUInt32).toInt32))])) rfl (hb hby at_10) _ z_) ?_
    show OWay p e below G s₁ (mkF m 12 #[.val (.long q0), .second, .val (.int p1), .val (.long q2), .second, .val (.long q3), .second, .val (.long q4), .second, .val (.int p5), .val (.int (3 : Int32)), .unset, .unset, .unset, .unset, .unset, .unset, .unset, .unset, .unset] [(.int (1048575 : Int32)), (.int ((p5.toUInt32 >>> ((2 : Int32) &&& 31).toUInt32).toInt32))])
    refine ogo (fun _ z_ => XS.iand X0.here hx rfl (hb hby at_12) rfl z_) ?_
    show OWay p e below G s₁ (mkF m 13 #[.val (.long q0), .second, .val (.int p1), .val (.long q2), .second, .val (.long q3), .second, .val (.long q4), .second, .val (.int p5), .val (.int (3 : Int32)), .unset, .unset, .unset, .unset, .unset, .unset, .unset, .unset, .unset] [(.int (((p5.toUInt32 >>> ((2 : Int32) &&& 31).toUInt32).toInt32) &&& (1048575 : Int32)))])
    refine ogo (fun _ z_ => XS.i2dS X0.here hx rfl (hb hby at_13) rfl rfl z_) ?_
    show OWay p e below G s₁ (mkF m 14 #[.val (.long q0), .second, .val (.int p1), .val (.long q2), .second, .val (.long q3), .second, .val (.long q4), .second, .val (.int p5), .val (.int (3 : Int32)), .unset, .unset, .unset, .unset, .unset, .unset, .unset, .unset, .unset] [(.double (FP.i2d (((p5.toUInt32 >>> ((2 : Int32) &&& 31).toUInt32).toInt32) &&& (1048575 : Int32))))])
    refine ogo (fun _ z_ => X0.ldc2DoubleC hx hown (mvT hZ (hw _ (List.mem_of_getElem? (i := 1) rfl))) (g := (mkF m 14 #[.val (.long q0), .second, .val (.int p1), .val (.long q2), .second, .val (.long q3), .second, .val (.long q4), .second, .val (.int p5), .val (.int (3 : Int32)), .unset, .unset, .unset, .unset, .unset, .unset, .unset, .unset, .unset] [(.double (FP.i2d (((p5.toUInt32 >>> ((2 : Int32) &&& 31).toUInt32).toInt32) &&& (1048575 : Int32))))])) rfl (hb hby at_14) _ z_) ?_
    show OWay p e below G s₁ (mkF m 17 #[.val (.long q0), .second, .val (.int p1), .val (.long q2), .second, .val (.long q3), .second, .val (.long q4), .second, .val (.int p5), .val (.int (3 : Int32)), .unset, .unset, .unset, .unset, .unset, .unset, .unset, .unset, .unset] [(.double (4697254411347427328 : UInt64)), (.double (FP.i2d (((p5.toUInt32 >>> ((2 : Int32) &&& 31).toUInt32).toInt32) &&& (1048575 : Int32))))])
    refine ogo (fun _ z_ => XS.ddivS X0.here hx rfl (hb hby at_17) rfl (own_nn _) rfl z_) ?_
    show OWay p e below G s₁ (mkF m 18 #[.val (.long q0), .second, .val (.int p1), .val (.long q2), .second, .val (.long q3), .second, .val (.long q4), .second, .val (.int p5), .val (.int (3 : Int32)), .unset, .unset, .unset, .unset, .unset, .unset, .unset, .unset, .unset] [(.double (FP.ddiv (FP.i2d (((p5.toUInt32 >>> ((2 : Int32) &&& 31).toUInt32).toInt32) &&& (1048575 : Int32))) (4697254411347427328 : UInt64)))])
    suffices Jv11_187 : ∀ v11_187 : UInt64, v11_187 = (FP.ddiv (FP.i2d (((p5.toUInt32 >>> ((2 : Int32) &&& 31).toUInt32).toInt32) &&& (1048575 : Int32))) (4697254411347427328 : UInt64)) → OWay p e below G s₁ (mkF m 18 #[.val (.long q0), .second, .val (.int p1), .val (.long q2), .second, .val (.long q3), .second, .val (.long q4), .second, .val (.int p5), .val (.int (3 : Int32)), .unset, .unset, .unset, .unset, .unset, .unset, .unset, .unset, .unset] [(.double v11_187)]) from Jv11_187 _ rfl
    intro v11_187 hv11_187
    refine ogo (fun _ z_ => XS.dstore X0.here hx rfl (hb hby at_18) rfl (l' := #[.val (.long q0), .second, .val (.int p1), .val (.long q2), .second, .val (.long q3), .second, .val (.long q4), .second, .val (.int p5), .val (.int (3 : Int32)), .val (.double v11_187), .second, .unset, .unset, .unset, .unset, .unset, .unset, .unset]) rfl z_) ?_
    show OWay p e below G s₁ (mkF m 20 #[.val (.long q0), .second, .val (.int p1), .val (.long q2), .second, .val (.long q3), .second, .val (.long q4), .second, .val (.int p5), .val (.int (3 : Int32)), .val (.double v11_187), .second, .unset, .unset, .unset, .unset, .unset, .unset, .unset] [])
    refine ogo (fun _ z_ => XS.iload X0.here hx rfl (hb hby at_20) rfl z_) ?_
    show OWay p e below G s₁ (mkF m 22 #[.val (.long q0), .second, .val (.int p1), .val (.long q2), .second, .val (.long q3), .second, .val (.long q4), .second, .val (.int p5), .val (.int (3 : Int32)), .val (.double v11_187), .second, .unset, .unset, .unset, .unset, .unset, .unset, .unset] [(.int (3 : Int32))])
    obtain ⟨T188, h188, k188, X188, eT188, E188, A188, D188, st188⟩ := newPE X0 hx hZ (hw _ (List.mem_of_getElem? (i := 2) rfl)) eh0 (g := (mkF m 22 #[.val (.long q0), .second, .val (.int p1), .val (.long q2), .second, .val (.long q3), .second, .val (.long q4), .second, .val (.int p5), .val (.int (3 : Int32)), .val (.double v11_187), .second, .unset, .unset, .unset, .unset, .unset, .unset, .unset] [(.int (3 : Int32))])) rfl (hb hby at_22) rfl (by decide) (cap := 3) (by decide) (by decide) (by decide) (by decide)
    obtain ⟨b188, g188⟩ : ∃ z, z = h0.size := ⟨_, rfl⟩
    rw [← g188] at A188 D188 st188
    have g_b188 : n0 ≤ b188 := Nat.le_trans Z0 (Nat.le_of_eq g188.symm)
    have sz_b188 : h0.size ≤ b188 := Nat.le_trans K0.1 (Nat.le_of_eq g188.symm)
    have K189 : Keep h0 h188 [] := K0.ext E188
    have V_b188 : Arv Z h188 b188 k188 .long (3 : Int32) [(.long (0 : Int64)), (.long (0 : Int64)), (.long (0 : Int64))] (.long (0 : Int64)) := (Arv.new A188 (by decide)).pad (pad_rep [] (.long (0 : Int64)) 3)
    have Ex_b188 : Exa Z h188 b188 "[J" := D188
    refine ogo st188 ?_
    show OWay p e below G T188 (mkF m 24 #[.val (.long q0), .second, .val (.int p1), .val (.long q2), .second, .val (.long q3), .second, .val (.long q4), .second, .val (.int p5), .val (.int (3 : Int32)), .val (.double v11_187), .second, .unset, .unset, .unset, .unset, .unset, .unset, .unset] [(.ref b188)])
    refine ogo (fun _ z_ => XS.astore X188.here hx rfl (hb hby at_24) rfl rfl (l' := #[.val (.long q0), .second, .val (.int p1), .val (.long q2), .second, .val (.long q3), .second, .val (.long q4), .second, .val (.int p5), .val (.int (3 : Int32)), .val (.double v11_187), .second, .val (.ref b188), .unset, .unset, .unset, .unset, .unset, .unset]) rfl z_) ?_
    show OWay p e below G T188 (mkF m 26 #[.val (.long q0), .second, .val (.int p1), .val (.long q2), .second, .val (.long q3), .second, .val (.long q4), .second, .val (.int p5), .val (.int (3 : Int32)), .val (.double v11_187), .second, .val (.ref b188), .unset, .unset, .unset, .unset, .unset, .unset] [])
    refine ogo (fun _ z_ => XS.iload X188.here hx rfl (hb hby at_26) rfl z_) ?_
    show OWay p e below G T188 (mkF m 28 #[.val (.long q0), .second, .val (.int p1), .val (.long q2), .second, .val (.long q3), .second, .val (.long q4), .second, .val (.int p5), .val (.int (3 : Int32)), .val (.double v11_187), .second, .val (.ref b188), .unset, .unset, .unset, .unset, .unset, .unset] [(.int (3 : Int32))])
    refine ogo (fun _ z_ => XS.ifNo X188.here hx rfl (hb hby at_28) rfl ((if0 _ _).trans (tlt (by decide)).2.2.2) z_) ?_
    show OWay p e below G T188 (mkF m 31 #[.val (.long q0), .second, .val (.int p1), .val (.long q2), .second, .val (.long q3), .second, .val (.long q4), .second, .val (.int p5), .val (.int (3 : Int32)), .val (.double v11_187), .second, .val (.ref b188), .unset, .unset, .unset, .unset, .unset, .unset] [])
    refine ogo (fun _ z_ => XS.aload X188.here hx rfl (hb hby at_31) rfl rfl z_) ?_
    show OWay p e below G T188 (mkF m 33 #[.val (.long q0), .second, .val (.int p1), .val (.long q2), .second, .val (.long q3), .second, .val (.long q4), .second, .val (.int p5), .val (.int (3 : Int32)), .val (.double v11_187), .second, .val (.ref b188), .unset, .unset, .unset, .unset, .unset, .unset] [(.ref b188)])
    refine ogo (fun _ z_ => XS.iconst X188.here hx rfl (hb hby at_33) z_) ?_
    show OWay p e below G T188 (mkF m 34 #[.val (.long q0), .second, .val (.int p1), .val (.long q2), .second, .val (.long q3), .second, .val (.long q4), .second, .val (.int p5), .val (.int (3 : Int32)), .val (.double v11_187), .second, .val (.ref b188), .unset, .unset, .unset, .unset, .unset, .unset] [(.int (0 : Int32)), (.ref b188)])
    refine ogo (fun _ z_ => XS.iconst X188.here hx rfl (hb hby at_34) z_) ?_
    show OWay p e below G T188 (mkF m 35 #[.val (.long q0), .second, .val (.int p1), .val (.long q2), .second, .val (.long q3), .second, .val (.long q4), .second, .val (.int p5), .val (.int (3 : Int32)), .val (.double v11_187), .second, .val (.ref b188), .unset, .unset, .unset, .unset, .unset, .unset] [(.int (0 : Int32)), (.int (0 : Int32)), (.ref b188)])
    refine ogo (fun _ z_ => XS.lloadN X188.here hx rfl (hb hby at_35) rfl z_) ?_
    show OWay p e below G T188 (mkF m 36 #[.val (.long q0), .second, .val (.int p1), .val (.long q2), .second, .val (.long q3), .second, .val (.long q4), .second, .val (.int p5), .val (.int (3 : Int32)), .val (.double v11_187), .second, .val (.ref b188), .unset, .unset, .unset, .unset, .unset, .unset] [(.long q2), (.int (0 : Int32)), (.int (0 : Int32)), (.ref b188)])
    refine ogo (fun _ z_ => XS.lload X188.here hx rfl (hb hby at_36) rfl z_) ?_
    show OWay p e below G T188 (mkF m 38 #[.val (.long q0), .second, .val (.int p1), .val (.long q2), .second, .val (.long q3), .second, .val (.long q4), .second, .val (.int p5), .val (.int (3 : Int32)), .val (.double v11_187), .second, .val (.ref b188), .unset, .unset, .unset, .unset, .unset, .unset] [(.long q3), (.long q2), (.int (0 : Int32)), (.int (0 : Int32)), (.ref b188)])
    obtain ⟨_, T190, L190, X190, hQ190, st190⟩ := wStatic X188 hx hZ (y := (⟨"com/example/sito/sito/SliceCopyPinLaw", "expected", "(IJJ)J"⟩ : MethodName)) hown (hw _ (List.mem_of_getElem? (i := 72) rfl)) (hw _ (List.mem_of_getElem? (i := 73) rfl)) (hw _ (List.mem_of_getElem? (i := 74) rfl)) (hw _ (List.mem_of_getElem? (i := 75) rfl)) (by decide) (exp0_c l Z az hw [] q2 q3 h188 n0 (Nat.le_trans Z0 E188.1)) 2 (by decide) (by decide) (g := (mkF m 38 #[.val (.long q0), .second, .val (.int p1), .val (.long q2), .second, .val (.long q3), .second, .val (.long q4), .second, .val (.int p5), .val (.int (3 : Int32)), .val (.double v11_187), .second, .val (.ref b188), .unset, .unset, .unset, .unset, .unset, .unset] [(.long q3), (.long q2), (.int (0 : Int32)), (.int (0 : Int32)), (.ref b188)])) rfl (by rw [hml]; rfl) (argsL := [(.int (0 : Int32)), (.long q2), (.long q3)]) (rest := [(.int (0 : Int32)), (.ref b188)]) (lenOf pd__IJJ_J rfl) rfl (by show 2 * 0 + _ ≤ _; exact Nat.le_of_eq rfl) (hb hby at_38) rfl eT188 (by decide) (by decide)
    obtain ⟨rfl, N190q, eq190⟩ := hQ190
    have N190 := Fr.app N0 N190q
    refine ogo st190 ?_
    show OWay p e below G T190 (mkF m 41 #[.val (.long q0), .second, .val (.int p1), .val (.long q2), .second, .val (.long q3), .second, .val (.long q4), .second, .val (.int p5), .val (.int (3 : Int32)), .val (.double v11_187), .second, .val (.ref b188), .unset, .unset, .unset, .unset, .unset, .unset] [(.long q2), (.int (0 : Int32)), (.ref b188)])
    obtain ⟨cl_o191, Ar_o191, q_o191, S_o191, N_o191, H_o191, G_o191⟩ := id V_b188
    have hin_o191 : ¬ ((0 : Int32) < 0 ∨ cl_o191.slots.size ≤ ((0 : Int32)).toNatClampNeg) := inb_of S_o191 ⟨by decide, by decide⟩
    obtain ⟨T192, h192, X192, eT192, W192, st192⟩ := stJ X190 hx hZ eq190 Ar_o191 (j := (0 : Int32)) hin_o191 (g := (mkF m 41 #[.val (.long q0), .second, .val (.int p1), .val (.long q2), .second, .val (.long q3), .second, .val (.long q4), .second, .val (.int p5), .val (.int (3 : Int32)), .val (.double v11_187), .second, .val (.ref b188), .unset, .unset, .unset, .unset, .unset, .unset] [(.long q2), (.int (0 : Int32)), (.ref b188)])) rfl rfl (hb hby at_41)
    have K193 : Keep h0 h192 [] := K189.wr W192 (Or.inr sz_b188)
    have V_192 : Arv Z h192 b188 k188 .long (3 : Int32) [(.long q2), (.long (0 : Int64)), (.long (0 : Int64))] (.long (0 : Int64)) := Arv.set Ar_o191 q_o191 S_o191 N_o191 H_o191 G_o191 rfl W192 0 rfl (Nat.le_of_ble_eq_true rfl)
    have N192 := Fr.snoc X192 N190 g_b188
    refine ogo st192 ?_
    show OWay p e below G T192 (mkF m 42 #[.val (.long q0), .second, .val (.int p1), .val (.long q2), .second, .val (.long q3), .second, .val (.long q4), .second, .val (.int p5), .val (.int (3 : Int32)), .val (.double v11_187), .second, .val (.ref b188), .unset, .unset, .unset, .unset, .unset, .unset] [])
    refine ogo (fun _ z_ => XS.iload X192.here hx rfl (hb hby at_42) rfl z_) ?_
    show OWay p e below G T192 (mkF m 44 #[.val (.long q0), .second, .val (.int p1), .val (.long q2), .second, .val (.long q3), .second, .val (.long q4), .second, .val (.int p5), .val (.int (3 : Int32)), .val (.double v11_187), .second, .val (.ref b188), .unset, .unset, .unset, .unset, .unset, .unset] [(.int (3 : Int32))])
    refine ogo (fun _ z_ => XS.iconst X192.here hx rfl (hb hby at_44) z_) ?_
    show OWay p e below G T192 (mkF m 45 #[.val (.long q0), .second, .val (.int p1), .val (.long q2), .second, .val (.long q3), .second, .val (.long q4), .second, .val (.int p5), .val (.int (3 : Int32)), .val (.double v11_187), .second, .val (.ref b188), .unset, .unset, .unset, .unset, .unset, .unset] [(.int (1 : Int32)), (.int (3 : Int32))])
    refine ogo (fun _ z_ => XS.icmpNo X192.here hx rfl (hb hby at_45) rfl (tlt (by decide)).2.2.2 z_) ?_
    show OWay p e below G T192 (mkF m 48 #[.val (.long q0), .second, .val (.int p1), .val (.long q2), .second, .val (.long q3), .second, .val (.long q4), .second, .val (.int p5), .val (.int (3 : Int32)), .val (.double v11_187), .second, .val (.ref b188), .unset, .unset, .unset, .unset, .unset, .unset] [])
    refine ogo (fun _ z_ => XS.aload X192.here hx rfl (hb hby at_48) rfl rfl z_) ?_
    show OWay p e below G T192 (mkF m 50 #[.val (.long q0), .second, .val (.int p1), .val (.long q2), .second, .val (.long q3), .second, .val (.long q4), .second, .val (.int p5), .val (.int (3 : Int32)), .val (.double v11_187), .second, .val (.ref b188), .unset, .unset, .unset, .unset, .unset, .unset] [(.ref b188)])
    refine ogo (fun _ z_ => XS.iconst X192.here hx rfl (hb hby at_50) z_) ?_
    show OWay p e below G T192 (mkF m 51 #[.val (.long q0), .second, .val (.int p1), .val (.long q2), .second, .val (.long q3), .second, .val (.long q4), .second, .val (.int p5), .val (.int (3 : Int32)), .val (.double v11_187), .second, .val (.ref b188), .unset, .unset, .unset, .unset, .unset, .unset] [(.int (1 : Int32)), (.ref b188)])
    refine ogo (fun _ z_ => XS.iconst X192.here hx rfl (hb hby at_51) z_) ?_
    show OWay p e below G T192 (mkF m 52 #[.val (.long q0), .second, .val (.int p1), .val (.long q2), .second, .val (.long q3), .second, .val (.long q4), .second, .val (.int p5), .val (.int (3 : Int32)), .val (.double v11_187), .second, .val (.ref b188), .unset, .unset, .unset, .unset, .unset, .unset] [(.int (1 : Int32)), (.int (1 : Int32)), (.ref b188)])
    refine ogo (fun _ z_ => XS.lloadN X192.here hx rfl (hb hby at_52) rfl z_) ?_
    show OWay p e below G T192 (mkF m 53 #[.val (.long q0), .second, .val (.int p1), .val (.long q2), .second, .val (.long q3), .second, .val (.long q4), .second, .val (.int p5), .val (.int (3 : Int32)), .val (.double v11_187), .second, .val (.ref b188), .unset, .unset, .unset, .unset, .unset, .unset] [(.long q2), (.int (1 : Int32)), (.int (1 : Int32)), (.ref b188)])
    refine ogo (fun _ z_ => XS.lload X192.here hx rfl (hb hby at_53) rfl z_) ?_
    show OWay p e below G T192 (mkF m 55 #[.val (.long q0), .second, .val (.int p1), .val (.long q2), .second, .val (.long q3), .second, .val (.long q4), .second, .val (.int p5), .val (.int (3 : Int32)), .val (.double v11_187), .second, .val (.ref b188), .unset, .unset, .unset, .unset, .unset, .unset] [(.long q3), (.long q2), (.int (1 : Int32)), (.int (1 : Int32)), (.ref b188)])
    obtain ⟨_, T194, L194, X194, hQ194, st194⟩ := wStatic X192 hx hZ (y := (⟨"com/example/sito/sito/SliceCopyPinLaw", "expected", "(IJJ)J"⟩ : MethodName)) hown (hw _ (List.mem_of_getElem? (i := 72) rfl)) (hw _ (List.mem_of_getElem? (i := 73) rfl)) (hw _ (List.mem_of_getElem? (i := 74) rfl)) (hw _ (List.mem_of_getElem? (i := 75) rfl)) (by decide) (exp1_c l Z az hw [] q2 q3 h192 n0 (Nat.le_trans (Nat.le_trans Z0 E188.1) (Keep.of_wr W192).1)) 2 (by decide) (by decide) (g := (mkF m 55 #[.val (.long q0), .second, .val (.int p1), .val (.long q2), .second, .val (.long q3), .second, .val (.long q4), .second, .val (.int p5), .val (.int (3 : Int32)), .val (.double v11_187), .second, .val (.ref b188), .unset, .unset, .unset, .unset, .unset, .unset] [(.long q3), (.long q2), (.int (1 : Int32)), (.int (1 : Int32)), (.ref b188)])) rfl (by rw [hml]; rfl) (argsL := [(.int (1 : Int32)), (.long q2), (.long q3)]) (rest := [(.int (1 : Int32)), (.ref b188)]) (lenOf pd__IJJ_J rfl) rfl (by show 2 * 0 + _ ≤ _; exact Nat.le_of_eq rfl) (hb hby at_55) rfl eT192 (by decide) (by decide)
    obtain ⟨rfl, N194q, eq194⟩ := hQ194
    have N194 := Fr.app N192 N194q
    refine ogo st194 ?_
    show OWay p e below G T194 (mkF m 58 #[.val (.long q0), .second, .val (.int p1), .val (.long q2), .second, .val (.long q3), .second, .val (.long q4), .second, .val (.int p5), .val (.int (3 : Int32)), .val (.double v11_187), .second, .val (.ref b188), .unset, .unset, .unset, .unset, .unset, .unset] [(.long q3), (.int (1 : Int32)), (.ref b188)])
    obtain ⟨cl_o195, Ar_o195, q_o195, S_o195, N_o195, H_o195, G_o195⟩ := id V_192
    have hin_o195 : ¬ ((1 : Int32) < 0 ∨ cl_o195.slots.size ≤ ((1 : Int32)).toNatClampNeg) := inb_of S_o195 ⟨by decide, by decide⟩
    obtain ⟨T196, h196, X196, eT196, W196, st196⟩ := stJ X194 hx hZ eq194 Ar_o195 (j := (1 : Int32)) hin_o195 (g := (mkF m 58 #[.val (.long q0), .second, .val (.int p1), .val (.long q2), .second, .val (.long q3), .second, .val (.long q4), .second, .val (.int p5), .val (.int (3 : Int32)), .val (.double v11_187), .second, .val (.ref b188), .unset, .unset, .unset, .unset, .unset, .unset] [(.long q3), (.int (1 : Int32)), (.ref b188)])) rfl rfl (hb hby at_58)
    have K197 : Keep h0 h196 [] := K193.wr W196 (Or.inr sz_b188)
    have V_196 : Arv Z h196 b188 k188 .long (3 : Int32) [(.long q2), (.long q3), (.long (0 : Int64))] (.long (0 : Int64)) := Arv.set Ar_o195 q_o195 S_o195 N_o195 H_o195 G_o195 rfl W196 1 rfl (Nat.le_of_ble_eq_true rfl)
    have N196 := Fr.snoc X196 N194 g_b188
    refine ogo st196 ?_
    show OWay p e below G T196 (mkF m 59 #[.val (.long q0), .second, .val (.int p1), .val (.long q2), .second, .val (.long q3), .second, .val (.long q4), .second, .val (.int p5), .val (.int (3 : Int32)), .val (.double v11_187), .second, .val (.ref b188), .unset, .unset, .unset, .unset, .unset, .unset] [])
    refine ogo (fun _ z_ => XS.iload X196.here hx rfl (hb hby at_59) rfl z_) ?_
    show OWay p e below G T196 (mkF m 61 #[.val (.long q0), .second, .val (.int p1), .val (.long q2), .second, .val (.long q3), .second, .val (.long q4), .second, .val (.int p5), .val (.int (3 : Int32)), .val (.double v11_187), .second, .val (.ref b188), .unset, .unset, .unset, .unset, .unset, .unset] [(.int (3 : Int32))])
    refine ogo (fun _ z_ => XS.iconst X196.here hx rfl (hb hby at_61) z_) ?_
    show OWay p e below G T196 (mkF m 62 #[.val (.long q0), .second, .val (.int p1), .val (.long q2), .second, .val (.long q3), .second, .val (.long q4), .second, .val (.int p5), .val (.int (3 : Int32)), .val (.double v11_187), .second, .val (.ref b188), .unset, .unset, .unset, .unset, .unset, .unset] [(.int (2 : Int32)), (.int (3 : Int32))])
    refine ogo (fun _ z_ => XS.icmpNo X196.here hx rfl (hb hby at_62) rfl (tlt (by decide)).2.2.2 z_) ?_
    show OWay p e below G T196 (mkF m 65 #[.val (.long q0), .second, .val (.int p1), .val (.long q2), .second, .val (.long q3), .second, .val (.long q4), .second, .val (.int p5), .val (.int (3 : Int32)), .val (.double v11_187), .second, .val (.ref b188), .unset, .unset, .unset, .unset, .unset, .unset] [])
    refine ogo (fun _ z_ => XS.aload X196.here hx rfl (hb hby at_65) rfl rfl z_) ?_
    show OWay p e below G T196 (mkF m 67 #[.val (.long q0), .second, .val (.int p1), .val (.long q2), .second, .val (.long q3), .second, .val (.long q4), .second, .val (.int p5), .val (.int (3 : Int32)), .val (.double v11_187), .second, .val (.ref b188), .unset, .unset, .unset, .unset, .unset, .unset] [(.ref b188)])
    refine ogo (fun _ z_ => XS.iconst X196.here hx rfl (hb hby at_67) z_) ?_
    show OWay p e below G T196 (mkF m 68 #[.val (.long q0), .second, .val (.int p1), .val (.long q2), .second, .val (.long q3), .second, .val (.long q4), .second, .val (.int p5), .val (.int (3 : Int32)), .val (.double v11_187), .second, .val (.ref b188), .unset, .unset, .unset, .unset, .unset, .unset] [(.int (2 : Int32)), (.ref b188)])
    refine ogo (fun _ z_ => XS.iconst X196.here hx rfl (hb hby at_68) z_) ?_
    show OWay p e below G T196 (mkF m 69 #[.val (.long q0), .second, .val (.int p1), .val (.long q2), .second, .val (.long q3), .second, .val (.long q4), .second, .val (.int p5), .val (.int (3 : Int32)), .val (.double v11_187), .second, .val (.ref b188), .unset, .unset, .unset, .unset, .unset, .unset] [(.int (2 : Int32)), (.int (2 : Int32)), (.ref b188)])
    refine ogo (fun _ z_ => XS.lloadN X196.here hx rfl (hb hby at_69) rfl z_) ?_
    show OWay p e below G T196 (mkF m 70 #[.val (.long q0), .second, .val (.int p1), .val (.long q2), .second, .val (.long q3), .second, .val (.long q4), .second, .val (.int p5), .val (.int (3 : Int32)), .val (.double v11_187), .second, .val (.ref b188), .unset, .unset, .unset, .unset, .unset, .unset] [(.long q2), (.int (2 : Int32)), (.int (2 : Int32)), (.ref b188)])
    refine ogo (fun _ z_ => XS.lload X196.here hx rfl (hb hby at_70) rfl z_) ?_
    show OWay p e below G T196 (mkF m 72 #[.val (.long q0), .second, .val (.int p1), .val (.long q2), .second, .val (.long q3), .second, .val (.long q4), .second, .val (.int p5), .val (.int (3 : Int32)), .val (.double v11_187), .second, .val (.ref b188), .unset, .unset, .unset, .unset, .unset, .unset] [(.long q3), (.long q2), (.int (2 : Int32)), (.int (2 : Int32)), (.ref b188)])
    obtain ⟨_, T198, L198, X198, hQ198, st198⟩ := wStatic X196 hx hZ (y := (⟨"com/example/sito/sito/SliceCopyPinLaw", "expected", "(IJJ)J"⟩ : MethodName)) hown (hw _ (List.mem_of_getElem? (i := 72) rfl)) (hw _ (List.mem_of_getElem? (i := 73) rfl)) (hw _ (List.mem_of_getElem? (i := 74) rfl)) (hw _ (List.mem_of_getElem? (i := 75) rfl)) (by decide) (exp2_c l Z az hw [] q2 q3 h196 n0 (Nat.le_trans (Nat.le_trans (Nat.le_trans Z0 E188.1) (Keep.of_wr W192).1) (Keep.of_wr W196).1)) 2 (by decide) (by decide) (g := (mkF m 72 #[.val (.long q0), .second, .val (.int p1), .val (.long q2), .second, .val (.long q3), .second, .val (.long q4), .second, .val (.int p5), .val (.int (3 : Int32)), .val (.double v11_187), .second, .val (.ref b188), .unset, .unset, .unset, .unset, .unset, .unset] [(.long q3), (.long q2), (.int (2 : Int32)), (.int (2 : Int32)), (.ref b188)])) rfl (by rw [hml]; rfl) (argsL := [(.int (2 : Int32)), (.long q2), (.long q3)]) (rest := [(.int (2 : Int32)), (.ref b188)]) (lenOf pd__IJJ_J rfl) rfl (by show 2 * 0 + _ ≤ _; exact Nat.le_of_eq rfl) (hb hby at_72) rfl eT196 (by decide) (by decide)
    obtain ⟨rfl, N198q, eq198⟩ := hQ198
    have N198 := Fr.app N196 N198q
    refine ogo st198 ?_
    show OWay p e below G T198 (mkF m 75 #[.val (.long q0), .second, .val (.int p1), .val (.long q2), .second, .val (.long q3), .second, .val (.long q4), .second, .val (.int p5), .val (.int (3 : Int32)), .val (.double v11_187), .second, .val (.ref b188), .unset, .unset, .unset, .unset, .unset, .unset] [(.long (q2 ^^^ (q3 ^^^ (-1 : Int64)))), (.int (2 : Int32)), (.ref b188)])
    obtain ⟨cl_o199, Ar_o199, q_o199, S_o199, N_o199, H_o199, G_o199⟩ := id V_196
    have hin_o199 : ¬ ((2 : Int32) < 0 ∨ cl_o199.slots.size ≤ ((2 : Int32)).toNatClampNeg) := inb_of S_o199 ⟨by decide, by decide⟩
    obtain ⟨T200, h200, X200, eT200, W200, st200⟩ := stJ X198 hx hZ eq198 Ar_o199 (j := (2 : Int32)) hin_o199 (g := (mkF m 75 #[.val (.long q0), .second, .val (.int p1), .val (.long q2), .second, .val (.long q3), .second, .val (.long q4), .second, .val (.int p5), .val (.int (3 : Int32)), .val (.double v11_187), .second, .val (.ref b188), .unset, .unset, .unset, .unset, .unset, .unset] [(.long (q2 ^^^ (q3 ^^^ (-1 : Int64)))), (.int (2 : Int32)), (.ref b188)])) rfl rfl (hb hby at_75)
    have K201 : Keep h0 h200 [] := K197.wr W200 (Or.inr sz_b188)
    have V_200 : Arv Z h200 b188 k188 .long (3 : Int32) [(.long q2), (.long q3), (.long (q2 ^^^ (q3 ^^^ (-1 : Int64))))] (.long (0 : Int64)) := Arv.set Ar_o199 q_o199 S_o199 N_o199 H_o199 G_o199 rfl W200 2 rfl (Nat.le_of_ble_eq_true rfl)
    have N200 := Fr.snoc X200 N198 g_b188
    refine ogo st200 ?_
    show OWay p e below G T200 (mkF m 76 #[.val (.long q0), .second, .val (.int p1), .val (.long q2), .second, .val (.long q3), .second, .val (.long q4), .second, .val (.int p5), .val (.int (3 : Int32)), .val (.double v11_187), .second, .val (.ref b188), .unset, .unset, .unset, .unset, .unset, .unset] [])
    obtain ⟨T202, h202, X202, eT202, E202, A202, D202, -, st202⟩ := newO X200 hx hZ hown (hw _ (List.mem_of_getElem? (i := 3) rfl)) (hw _ (List.mem_of_getElem? (i := 4) rfl)) (hw _ (List.mem_of_getElem? (i := 5) rfl)) eT200 (g := (mkF m 76 #[.val (.long q0), .second, .val (.int p1), .val (.long q2), .second, .val (.long q3), .second, .val (.long q4), .second, .val (.int p5), .val (.int (3 : Int32)), .val (.double v11_187), .second, .val (.ref b188), .unset, .unset, .unset, .unset, .unset, .unset] [])) rfl (hb hby at_76) (by decide) (by decide)
    obtain ⟨b202, g202⟩ : ∃ z, z = h200.size := ⟨_, rfl⟩
    rw [← g202] at A202 D202 st202
    have g_b202 : n0 ≤ b202 := Nat.le_trans (Nat.le_trans (Nat.le_trans (Nat.le_trans (Nat.le_trans Z0 E188.1) (Keep.of_wr W192).1) (Keep.of_wr W196).1) (Keep.of_wr W200).1) (Nat.le_of_eq g202.symm)
    have sz_b202 : h0.size ≤ b202 := Nat.le_trans K201.1 (Nat.le_of_eq g202.symm)
    have K203 : Keep h0 h202 [] := K201.ext E202
    have F_capacity_b202 : Fld Z h202 b202 "com/example/sito/sito/Slice" "capacity" "J" (.long (0 : Int64)) := D202 (Or.inr (hw _ (List.mem_of_getElem? (i := 13) rfl))) (ty := .long) (by decide)
    have F_bound_b202 : Fld Z h202 b202 "com/example/sito/sito/Slice" "bound" "D" (.double (0 : UInt64)) := D202 (Or.inr (hw _ (List.mem_of_getElem? (i := 15) rfl))) (ty := .double) (by decide)
    have F_hashCount_b202 : Fld Z h202 b202 "com/example/sito/sito/Slice" "hashCount" "I" (.int (0 : Int32)) := D202 (Or.inr (hw _ (List.mem_of_getElem? (i := 17) rfl))) (ty := .int) (by decide)
    have F_bitCount_b202 : Fld Z h202 b202 "com/example/sito/sito/Slice" "bitCount" "J" (.long (0 : Int64)) := D202 (Or.inr (hw _ (List.mem_of_getElem? (i := 20) rfl))) (ty := .long) (by decide)
    have F_words_b202 : Fld Z h202 b202 "com/example/sito/sito/Slice" "words" "[J" .null := D202 (Or.inr (hw _ (List.mem_of_getElem? (i := 22) rfl))) (ty := (.array .long)) (by decide)
    have F_items_b202 : Fld Z h202 b202 "com/example/sito/sito/Slice" "items" "J" (.long (0 : Int64)) := D202 (Or.inl (hw _ (List.mem_of_getElem? (i := 24) rfl))) (ty := .long) (by decide)
    refine ogo st202 ?_
    show OWay p e below G T202 (mkF m 79 #[.val (.long q0), .second, .val (.int p1), .val (.long q2), .second, .val (.long q3), .second, .val (.long q4), .second, .val (.int p5), .val (.int (3 : Int32)), .val (.double v11_187), .second, .val (.ref b188), .unset, .unset, .unset, .unset, .unset, .unset] [(.ref b202)])
    refine ogo (fun _ z_ => XS.dup X202.here hx rfl (hb hby at_79) rfl rfl z_) ?_
    show OWay p e below G T202 (mkF m 80 #[.val (.long q0), .second, .val (.int p1), .val (.long q2), .second, .val (.long q3), .second, .val (.long q4), .second, .val (.int p5), .val (.int (3 : Int32)), .val (.double v11_187), .second, .val (.ref b188), .unset, .unset, .unset, .unset, .unset, .unset] [(.ref b202), (.ref b202)])
    refine ogo (fun _ z_ => XS.lloadN X202.here hx rfl (hb hby at_80) rfl z_) ?_
    show OWay p e below G T202 (mkF m 81 #[.val (.long q0), .second, .val (.int p1), .val (.long q2), .second, .val (.long q3), .second, .val (.long q4), .second, .val (.int p5), .val (.int (3 : Int32)), .val (.double v11_187), .second, .val (.ref b188), .unset, .unset, .unset, .unset, .unset, .unset] [(.long q0), (.ref b202), (.ref b202)])
    refine ogo (fun _ z_ => XS.dload X202.here hx rfl (hb hby at_81) rfl z_) ?_
    show OWay p e below G T202 (mkF m 83 #[.val (.long q0), .second, .val (.int p1), .val (.long q2), .second, .val (.long q3), .second, .val (.long q4), .second, .val (.int p5), .val (.int (3 : Int32)), .val (.double v11_187), .second, .val (.ref b188), .unset, .unset, .unset, .unset, .unset, .unset] [(.double v11_187), (.long q0), (.ref b202), (.ref b202)])
    refine ogo (fun _ z_ => XS.iloadN X202.here hx rfl (hb hby at_83) rfl z_) ?_
    show OWay p e below G T202 (mkF m 84 #[.val (.long q0), .second, .val (.int p1), .val (.long q2), .second, .val (.long q3), .second, .val (.long q4), .second, .val (.int p5), .val (.int (3 : Int32)), .val (.double v11_187), .second, .val (.ref b188), .unset, .unset, .unset, .unset, .unset, .unset] [(.int p1), (.double v11_187), (.long q0), (.ref b202), (.ref b202)])
    refine ogo (fun _ z_ => XS.aload X202.here hx rfl (hb hby at_84) rfl rfl z_) ?_
    show OWay p e below G T202 (mkF m 86 #[.val (.long q0), .second, .val (.int p1), .val (.long q2), .second, .val (.long q3), .second, .val (.long q4), .second, .val (.int p5), .val (.int (3 : Int32)), .val (.double v11_187), .second, .val (.ref b188), .unset, .unset, .unset, .unset, .unset, .unset] [(.ref b188), (.int p1), (.double v11_187), (.long q0), (.ref b202), (.ref b202)])
    refine ogo (fun _ z_ => XS.lload X202.here hx rfl (hb hby at_86) rfl z_) ?_
    show OWay p e below G T202 (mkF m 88 #[.val (.long q0), .second, .val (.int p1), .val (.long q2), .second, .val (.long q3), .second, .val (.long q4), .second, .val (.int p5), .val (.int (3 : Int32)), .val (.double v11_187), .second, .val (.ref b188), .unset, .unset, .unset, .unset, .unset, .unset] [(.long q4), (.ref b188), (.int p1), (.double v11_187), (.long q0), (.ref b202), (.ref b202)])
    have F204 : Arv Z h202 b188 k188 .long (3 : Int32) [(.long q2), (.long q3), (.long (q2 ^^^ (q3 ^^^ (-1 : Int64))))] (.long (0 : Int64)) := (V_200.ext E202)
    obtain ⟨_, T205, L205, X205, hQ205, st205⟩ := wInit X202 hx hZ (y := (⟨"com/example/sito/sito/Slice", "<init>", "(JDI[JJ)V"⟩ : MethodName)) rfl hown (hw _ (List.mem_of_getElem? (i := 6) rfl)) (hw _ (List.mem_of_getElem? (i := 7) rfl)) (hw _ (List.mem_of_getElem? (i := 5) rfl)) (hw _ (List.mem_of_getElem? (i := 8) rfl)) (by decide) (ctor_3_c l Z az hw [] b202 q0 v11_187 p1 b188 q4 k188 (.long q2) (.long q3) (.long (q2 ^^^ (q3 ^^^ (-1 : Int64)))) h202 n0 (Nat.le_trans (Nat.le_trans (Nat.le_trans (Nat.le_trans (Nat.le_trans Z0 E188.1) (Keep.of_wr W192).1) (Keep.of_wr W196).1) (Keep.of_wr W200).1) E202.1) F204 (Nat.ne_of_lt (Nat.lt_of_lt_of_le V_200.lt (Nat.le_of_eq g202.symm))) A202 g_b202 F_capacity_b202 F_bound_b202 F_hashCount_b202 F_bitCount_b202 F_words_b202 F_items_b202) 1 (by decide) (by decide) (g := (mkF m 88 #[.val (.long q0), .second, .val (.int p1), .val (.long q2), .second, .val (.long q3), .second, .val (.long q4), .second, .val (.int p5), .val (.int (3 : Int32)), .val (.double v11_187), .second, .val (.ref b188), .unset, .unset, .unset, .unset, .unset, .unset] [(.long q4), (.ref b188), (.int p1), (.double v11_187), (.long q0), (.ref b202), (.ref b202)])) rfl (by rw [hml]; rfl) (a := b202) (argsL := [(.long q0), (.double v11_187), (.int p1), (.ref b188), (.long q4)]) (rest := [(.ref b202)]) (lenOf pd__JDI_JJ_V rfl) rfl (by show 2 * 0 + _ ≤ _; exact Nat.le_of_eq rfl) (hb hby at_88) rfl eT202 (by decide) (by decide)
    obtain ⟨rfl, N205q, Kq205, P206, P207, P208, P209, P210, P211⟩ := hQ205
    have N205 := Fr.app N200 N205q
    have K212 : Keep h0 T205.heap [] := K203.trans Kq205 (allS (Or.inr sz_b202) all0)
    refine ogoS st205 ?_
    show OWay p e below G T205 (mkF m 91 #[.val (.long q0), .second, .val (.int p1), .val (.long q2), .second, .val (.long q3), .second, .val (.long q4), .second, .val (.int p5), .val (.int (3 : Int32)), .val (.double v11_187), .second, .val (.ref b188), .unset, .unset, .unset, .unset, .unset, .unset] [(.ref b202)])
    refine ogo (fun _ z_ => XS.astore X205.here hx rfl (hb hby at_91) rfl rfl (l' := #[.val (.long q0), .second, .val (.int p1), .val (.long q2), .second, .val (.long q3), .second, .val (.long q4), .second, .val (.int p5), .val (.int (3 : Int32)), .val (.double v11_187), .second, .val (.ref b188), .val (.ref b202), .unset, .unset, .unset, .unset, .unset]) rfl z_) ?_
    show OWay p e below G T205 (mkF m 93 #[.val (.long q0), .second, .val (.int p1), .val (.long q2), .second, .val (.long q3), .second, .val (.long q4), .second, .val (.int p5), .val (.int (3 : Int32)), .val (.double v11_187), .second, .val (.ref b188), .val (.ref b202), .unset, .unset, .unset, .unset, .unset] [])
    refine ogo (fun _ z_ => XS.aload X205.here hx rfl (hb hby at_93) rfl rfl z_) ?_
    show OWay p e below G T205 (mkF m 95 #[.val (.long q0), .second, .val (.int p1), .val (.long q2), .second, .val (.long q3), .second, .val (.long q4), .second, .val (.int p5), .val (.int (3 : Int32)), .val (.double v11_187), .second, .val (.ref b188), .val (.ref b202), .unset, .unset, .unset, .unset, .unset] [(.ref b202)])
    have F213 : Arv Z T205.heap b188 k188 .long (3 : Int32) [(.long q2), (.long q3), (.long (q2 ^^^ (q3 ^^^ (-1 : Int64))))] (.long (0 : Int64)) := (F204.keep Kq205 (ninS (Nat.ne_of_lt (Nat.lt_of_lt_of_le V_200.lt (Nat.le_of_eq g202.symm))) nin0))
    have F214 : Exa Z T205.heap b188 "[J" := (((((Ex_b188.wr W192).wr W196).wr W200).ext E202).keep Kq205)
    have F216 : Exa Z T205.heap b202 "com/example/sito/sito/Slice" := (A202.keep Kq205)
    obtain ⟨_, T215, L215, X215, hQ215, st215⟩ := wVirtual X205 hx hZ (y := (⟨"com/example/sito/sito/Slice", "copy", "()Lcom/example/sito/sito/Slice;"⟩ : MethodName)) (z := (⟨"com/example/sito/sito/Slice", "copy", "()Lcom/example/sito/sito/Slice;"⟩ : MethodName)) hown (hw _ (List.mem_of_getElem? (i := 25) rfl)) (hw _ (List.mem_of_getElem? (i := 26) rfl)) (notFace_of_selects (args := #[]) (mvT hZ (hw _ (List.mem_of_getElem? (i := 28) rfl)))) (hw _ (List.mem_of_getElem? (i := 28) rfl)) (hw _ (List.mem_of_getElem? (i := 27) rfl)) (hw _ (List.mem_of_getElem? (i := 5) rfl)) (hw _ (List.mem_of_getElem? (i := 29) rfl)) (by decide) (copy3_c l Z az hw [] b202 q0 v11_187 p1 b188 q4 k188 q2 q3 (q2 ^^^ (q3 ^^^ (-1 : Int64))) T205.heap n0 (Nat.le_trans (Nat.le_trans (Nat.le_trans (Nat.le_trans (Nat.le_trans (Nat.le_trans Z0 E188.1) (Keep.of_wr W192).1) (Keep.of_wr W196).1) (Keep.of_wr W200).1) E202.1) Kq205.1) P206 P207 P208 P210 P211 F213 F214) 0 (by decide) (by decide) F216 (g := (mkF m 95 #[.val (.long q0), .second, .val (.int p1), .val (.long q2), .second, .val (.long q3), .second, .val (.long q4), .second, .val (.int p5), .val (.int (3 : Int32)), .val (.double v11_187), .second, .val (.ref b188), .val (.ref b202), .unset, .unset, .unset, .unset, .unset] [(.ref b202)])) rfl (by rw [hml]; rfl) (argsL := []) (rest := []) (lenOf pd___Lcom_example_sito_sito_Slice_ rfl) rfl (by show 2 * 0 + _ ≤ _; exact Nat.le_of_eq rfl) (hb hby at_95) rfl rfl (by decide) (by decide)
    obtain ⟨b_217, c_218, kc_219, rfl, N215q, Kq215, P220, P221, P222, P223, P224, P225, P226, P227, P228, P229, P230, P231, P232⟩ := hQ215
    have N215 := Fr.app N205 N215q
    have K233 : Keep h0 T215.heap [] := K212.trans Kq215 all0
    have g_b_217 := P220
    have sz_b_217 : h0.size ≤ b_217 := Nat.le_trans K212.1 P221
    have g_c_218 := P222
    have sz_c_218 : h0.size ≤ c_218 := Nat.le_trans K212.1 P223
    refine ogoS st215 ?_
    show OWay p e below G T215 (mkF m 98 #[.val (.long q0), .second, .val (.int p1), .val (.long q2), .second, .val (.long q3), .second, .val (.long q4), .second, .val (.int p5), .val (.int (3 : Int32)), .val (.double v11_187), .second, .val (.ref b188), .val (.ref b202), .unset, .unset, .unset, .unset, .unset] [(.ref b_217)])
    refine ogo (fun _ z_ => XS.astore X215.here hx rfl (hb hby at_98) rfl rfl (l' := #[.val (.long q0), .second, .val (.int p1), .val (.long q2), .second, .val (.long q3), .second, .val (.long q4), .second, .val (.int p5), .val (.int (3 : Int32)), .val (.double v11_187), .second, .val (.ref b188), .val (.ref b202), .val (.ref b_217), .unset, .unset, .unset, .unset]) rfl z_) ?_
    show OWay p e below G T215 (mkF m 100 #[.val (.long q0), .second, .val (.int p1), .val (.long q2), .second, .val (.long q3), .second, .val (.long q4), .second, .val (.int p5), .val (.int (3 : Int32)), .val (.double v11_187), .second, .val (.ref b188), .val (.ref b202), .val (.ref b_217), .unset, .unset, .unset, .unset] [])
    refine ogo (fun _ z_ => XS.aload X215.here hx rfl (hb hby at_100) rfl rfl z_) ?_
    show OWay p e below G T215 (mkF m 102 #[.val (.long q0), .second, .val (.int p1), .val (.long q2), .second, .val (.long q3), .second, .val (.long q4), .second, .val (.int p5), .val (.int (3 : Int32)), .val (.double v11_187), .second, .val (.ref b188), .val (.ref b202), .val (.ref b_217), .unset, .unset, .unset, .unset] [(.ref b_217)])
    refine ogo (fun _ z_ => XS.ifnullNo X215.here hx rfl (hb hby at_102) rfl z_) ?_
    show OWay p e below G T215 (mkF m 105 #[.val (.long q0), .second, .val (.int p1), .val (.long q2), .second, .val (.long q3), .second, .val (.long q4), .second, .val (.int p5), .val (.int (3 : Int32)), .val (.double v11_187), .second, .val (.ref b188), .val (.ref b202), .val (.ref b_217), .unset, .unset, .unset, .unset] [])
    refine ogo (fun _ z_ => XS.aload X215.here hx rfl (hb hby at_105) rfl rfl z_) ?_
    show OWay p e below G T215 (mkF m 107 #[.val (.long q0), .second, .val (.int p1), .val (.long q2), .second, .val (.long q3), .second, .val (.long q4), .second, .val (.int p5), .val (.int (3 : Int32)), .val (.double v11_187), .second, .val (.ref b188), .val (.ref b202), .val (.ref b_217), .unset, .unset, .unset, .unset] [(.ref b_217)])
    refine ogo (fun _ z_ => XS.aload X215.here hx rfl (hb hby at_107) rfl rfl z_) ?_
    show OWay p e below G T215 (mkF m 109 #[.val (.long q0), .second, .val (.int p1), .val (.long q2), .second, .val (.long q3), .second, .val (.long q4), .second, .val (.int p5), .val (.int (3 : Int32)), .val (.double v11_187), .second, .val (.ref b188), .val (.ref b202), .val (.ref b_217), .unset, .unset, .unset, .unset] [(.ref b202), (.ref b_217)])
    refine ogo (fun _ z_ => Jvm.RoadKit.acmp (g := (mkF m 109 #[.val (.long q0), .second, .val (.int p1), .val (.long q2), .second, .val (.long q3), .second, .val (.long q4), .second, .val (.int p5), .val (.int (3 : Int32)), .val (.double v11_187), .second, .val (.ref b188), .val (.ref b202), .val (.ref b_217), .unset, .unset, .unset, .unset] [(.ref b202), (.ref b_217)])) X215 hx rfl rfl rfl (pc0 := 109) (pc' := 114) (same := false) rfl (hb hby at_109) rfl (decide_eq_false fun q => (Ne.symm (Nat.ne_of_lt (Nat.lt_of_lt_of_le F216.lt P221))) (Value.ref.inj q)) (by decide) (by decide) z_) ?_
    show OWay p e below G T215 (mkF m 114 #[.val (.long q0), .second, .val (.int p1), .val (.long q2), .second, .val (.long q3), .second, .val (.long q4), .second, .val (.int p5), .val (.int (3 : Int32)), .val (.double v11_187), .second, .val (.ref b188), .val (.ref b202), .val (.ref b_217), .unset, .unset, .unset, .unset] [])
    refine ogo (fun _ z_ => XS.aload X215.here hx rfl (hb hby at_114) rfl rfl z_) ?_
    show OWay p e below G T215 (mkF m 116 #[.val (.long q0), .second, .val (.int p1), .val (.long q2), .second, .val (.long q3), .second, .val (.long q4), .second, .val (.int p5), .val (.int (3 : Int32)), .val (.double v11_187), .second, .val (.ref b188), .val (.ref b202), .val (.ref b_217), .unset, .unset, .unset, .unset] [(.ref b_217)])
    obtain ⟨_, T234, L234, X234, hQ234, st234⟩ := wVirtual X215 hx hZ (y := (⟨"com/example/sito/sito/Slice", "getCapacity", "()J"⟩ : MethodName)) (z := (⟨"com/example/sito/sito/Slice", "getCapacity", "()J"⟩ : MethodName)) hown (hw _ (List.mem_of_getElem? (i := 41) rfl)) (hw _ (List.mem_of_getElem? (i := 42) rfl)) (notFace_of_selects (args := #[]) (mvT hZ (hw _ (List.mem_of_getElem? (i := 44) rfl)))) (hw _ (List.mem_of_getElem? (i := 44) rfl)) (hw _ (List.mem_of_getElem? (i := 43) rfl)) (hw _ (List.mem_of_getElem? (i := 5) rfl)) (hw _ (List.mem_of_getElem? (i := 45) rfl)) (by decide) (get4_c l Z az hw [] b_217 q0 T215.heap n0 (Nat.le_trans (Nat.le_trans (Nat.le_trans (Nat.le_trans (Nat.le_trans (Nat.le_trans (Nat.le_trans Z0 E188.1) (Keep.of_wr W192).1) (Keep.of_wr W196).1) (Keep.of_wr W200).1) E202.1) Kq205.1) Kq215.1) P226) 0 (by decide) (by decide) P225 (g := (mkF m 116 #[.val (.long q0), .second, .val (.int p1), .val (.long q2), .second, .val (.long q3), .second, .val (.long q4), .second, .val (.int p5), .val (.int (3 : Int32)), .val (.double v11_187), .second, .val (.ref b188), .val (.ref b202), .val (.ref b_217), .unset, .unset, .unset, .unset] [(.ref b_217)])) rfl (by rw [hml]; rfl) (argsL := []) (rest := []) (lenOf pd___J rfl) rfl (by show 2 * 0 + _ ≤ _; exact Nat.le_of_eq rfl) (hb hby at_116) rfl rfl (by decide) (by decide)
    obtain ⟨rfl, N234q, eq234⟩ := hQ234
    have N234 := Fr.app N215 N234q
    refine ogoS st234 ?_
    show OWay p e below G T234 (mkF m 119 #[.val (.long q0), .second, .val (.int p1), .val (.long q2), .second, .val (.long q3), .second, .val (.long q4), .second, .val (.int p5), .val (.int (3 : Int32)), .val (.double v11_187), .second, .val (.ref b188), .val (.ref b202), .val (.ref b_217), .unset, .unset, .unset, .unset] [(.long q0)])
    refine ogo (fun _ z_ => XS.lloadN X234.here hx rfl (hb hby at_119) rfl z_) ?_
    show OWay p e below G T234 (mkF m 120 #[.val (.long q0), .second, .val (.int p1), .val (.long q2), .second, .val (.long q3), .second, .val (.long q4), .second, .val (.int p5), .val (.int (3 : Int32)), .val (.double v11_187), .second, .val (.ref b188), .val (.ref b202), .val (.ref b_217), .unset, .unset, .unset, .unset] [(.long q0), (.long q0)])
    refine ogo (fun _ z_ => XS.lcmp X234.here hx rfl (hb hby at_120) rfl z_) ?_
    show OWay p e below G T234 (mkF m 121 #[.val (.long q0), .second, .val (.int p1), .val (.long q2), .second, .val (.long q3), .second, .val (.long q4), .second, .val (.int p5), .val (.int (3 : Int32)), .val (.double v11_187), .second, .val (.ref b188), .val (.ref b202), .val (.ref b_217), .unset, .unset, .unset, .unset] [(.int (lcmpW q0 q0))])
    refine ogo (fun _ z_ => XS.ifNo X234.here hx rfl (hb hby at_121) rfl ((if0 _ _).trans (teq ((lw_eq _ _).mpr rfl)).2) z_) ?_
    show OWay p e below G T234 (mkF m 124 #[.val (.long q0), .second, .val (.int p1), .val (.long q2), .second, .val (.long q3), .second, .val (.long q4), .second, .val (.int p5), .val (.int (3 : Int32)), .val (.double v11_187), .second, .val (.ref b188), .val (.ref b202), .val (.ref b_217), .unset, .unset, .unset, .unset] [])
    refine ogo (fun _ z_ => XS.aload X234.here hx rfl (hb hby at_124) rfl rfl z_) ?_
    show OWay p e below G T234 (mkF m 126 #[.val (.long q0), .second, .val (.int p1), .val (.long q2), .second, .val (.long q3), .second, .val (.long q4), .second, .val (.int p5), .val (.int (3 : Int32)), .val (.double v11_187), .second, .val (.ref b188), .val (.ref b202), .val (.ref b_217), .unset, .unset, .unset, .unset] [(.ref b_217)])
    obtain ⟨_, T235, L235, X235, hQ235, st235⟩ := wVirtual X234 hx hZ (y := (⟨"com/example/sito/sito/Slice", "getBound", "()D"⟩ : MethodName)) (z := (⟨"com/example/sito/sito/Slice", "getBound", "()D"⟩ : MethodName)) hown (hw _ (List.mem_of_getElem? (i := 46) rfl)) (hw _ (List.mem_of_getElem? (i := 47) rfl)) (notFace_of_selects (args := #[]) (mvT hZ (hw _ (List.mem_of_getElem? (i := 49) rfl)))) (hw _ (List.mem_of_getElem? (i := 49) rfl)) (hw _ (List.mem_of_getElem? (i := 48) rfl)) (hw _ (List.mem_of_getElem? (i := 5) rfl)) (hw _ (List.mem_of_getElem? (i := 50) rfl)) (by decide) (get5_c l Z az hw [] b_217 v11_187 T215.heap n0 (Nat.le_trans (Nat.le_trans (Nat.le_trans (Nat.le_trans (Nat.le_trans (Nat.le_trans (Nat.le_trans Z0 E188.1) (Keep.of_wr W192).1) (Keep.of_wr W196).1) (Keep.of_wr W200).1) E202.1) Kq205.1) Kq215.1) P227) 0 (by decide) (by decide) P225 (g := (mkF m 126 #[.val (.long q0), .second, .val (.int p1), .val (.long q2), .second, .val (.long q3), .second, .val (.long q4), .second, .val (.int p5), .val (.int (3 : Int32)), .val (.double v11_187), .second, .val (.ref b188), .val (.ref b202), .val (.ref b_217), .unset, .unset, .unset, .unset] [(.ref b_217)])) rfl (by rw [hml]; rfl) (argsL := []) (rest := []) (lenOf pd___D rfl) rfl (by show 2 * 0 + _ ≤ _; exact Nat.le_of_eq rfl) (hb hby at_126) rfl eq234 (by decide) (by decide)
    obtain ⟨rfl, N235q, eq235⟩ := hQ235
    have N235 := Fr.app N234 N235q
    refine ogoS st235 ?_
    show OWay p e below G T235 (mkF m 129 #[.val (.long q0), .second, .val (.int p1), .val (.long q2), .second, .val (.long q3), .second, .val (.long q4), .second, .val (.int p5), .val (.int (3 : Int32)), .val (.double v11_187), .second, .val (.ref b188), .val (.ref b202), .val (.ref b_217), .unset, .unset, .unset, .unset] [(.double v11_187)])
    refine ogo (fun _ z_ => XS.dload X235.here hx rfl (hb hby at_129) rfl z_) ?_
    show OWay p e below G T235 (mkF m 131 #[.val (.long q0), .second, .val (.int p1), .val (.long q2), .second, .val (.long q3), .second, .val (.long q4), .second, .val (.int p5), .val (.int (3 : Int32)), .val (.double v11_187), .second, .val (.ref b188), .val (.ref b202), .val (.ref b_217), .unset, .unset, .unset, .unset] [(.double v11_187), (.double v11_187)])
    refine ogo (fun _ z_ => XS.dcmpS X235.here hx rfl (hb hby at_131) rfl rfl z_) ?_
    show OWay p e below G T235 (mkF m 132 #[.val (.long q0), .second, .val (.int p1), .val (.long q2), .second, .val (.long q3), .second, .val (.long q4), .second, .val (.int p5), .val (.int (3 : Int32)), .val (.double v11_187), .second, .val (.ref b188), .val (.ref b202), .val (.ref b_217), .unset, .unset, .unset, .unset] [(.int (cmpValue (FP.dcmp v11_187 v11_187) .l))])
    refine ogo (fun _ z_ => XS.ifNo X235.here hx rfl (hb hby at_132) rfl ((if0 _ _).trans (teq (dcmpV_self (by rw [hv11_187]; exact own_nn _) .l)).2) z_) ?_
    show OWay p e below G T235 (mkF m 135 #[.val (.long q0), .second, .val (.int p1), .val (.long q2), .second, .val (.long q3), .second, .val (.long q4), .second, .val (.int p5), .val (.int (3 : Int32)), .val (.double v11_187), .second, .val (.ref b188), .val (.ref b202), .val (.ref b_217), .unset, .unset, .unset, .unset] [])
    refine ogo (fun _ z_ => XS.aload X235.here hx rfl (hb hby at_135) rfl rfl z_) ?_
    show OWay p e below G T235 (mkF m 137 #[.val (.long q0), .second, .val (.int p1), .val (.long q2), .second, .val (.long q3), .second, .val (.long q4), .second, .val (.int p5), .val (.int (3 : Int32)), .val (.double v11_187), .second, .val (.ref b188), .val (.ref b202), .val (.ref b_217), .unset, .unset, .unset, .unset] [(.ref b_217)])
    obtain ⟨_, T236, L236, X236, hQ236, st236⟩ := wVirtual X235 hx hZ (y := (⟨"com/example/sito/sito/Slice", "getHashCount", "()I"⟩ : MethodName)) (z := (⟨"com/example/sito/sito/Slice", "getHashCount", "()I"⟩ : MethodName)) hown (hw _ (List.mem_of_getElem? (i := 51) rfl)) (hw _ (List.mem_of_getElem? (i := 52) rfl)) (notFace_of_selects (args := #[]) (mvT hZ (hw _ (List.mem_of_getElem? (i := 54) rfl)))) (hw _ (List.mem_of_getElem? (i := 54) rfl)) (hw _ (List.mem_of_getElem? (i := 53) rfl)) (hw _ (List.mem_of_getElem? (i := 5) rfl)) (hw _ (List.mem_of_getElem? (i := 55) rfl)) (by decide) (get6_c l Z az hw [] b_217 p1 T215.heap n0 (Nat.le_trans (Nat.le_trans (Nat.le_trans (Nat.le_trans (Nat.le_trans (Nat.le_trans (Nat.le_trans Z0 E188.1) (Keep.of_wr W192).1) (Keep.of_wr W196).1) (Keep.of_wr W200).1) E202.1) Kq205.1) Kq215.1) P228) 0 (by decide) (by decide) P225 (g := (mkF m 137 #[.val (.long q0), .second, .val (.int p1), .val (.long q2), .second, .val (.long q3), .second, .val (.long q4), .second, .val (.int p5), .val (.int (3 : Int32)), .val (.double v11_187), .second, .val (.ref b188), .val (.ref b202), .val (.ref b_217), .unset, .unset, .unset, .unset] [(.ref b_217)])) rfl (by rw [hml]; rfl) (argsL := []) (rest := []) (lenOf pd___I rfl) rfl (by show 2 * 0 + _ ≤ _; exact Nat.le_of_eq rfl) (hb hby at_137) rfl eq235 (by decide) (by decide)
    obtain ⟨rfl, N236q, eq236⟩ := hQ236
    have N236 := Fr.app N235 N236q
    refine ogoS st236 ?_
    show OWay p e below G T236 (mkF m 140 #[.val (.long q0), .second, .val (.int p1), .val (.long q2), .second, .val (.long q3), .second, .val (.long q4), .second, .val (.int p5), .val (.int (3 : Int32)), .val (.double v11_187), .second, .val (.ref b188), .val (.ref b202), .val (.ref b_217), .unset, .unset, .unset, .unset] [(.int p1)])
    refine ogo (fun _ z_ => XS.iloadN X236.here hx rfl (hb hby at_140) rfl z_) ?_
    show OWay p e below G T236 (mkF m 141 #[.val (.long q0), .second, .val (.int p1), .val (.long q2), .second, .val (.long q3), .second, .val (.long q4), .second, .val (.int p5), .val (.int (3 : Int32)), .val (.double v11_187), .second, .val (.ref b188), .val (.ref b202), .val (.ref b_217), .unset, .unset, .unset, .unset] [(.int p1), (.int p1)])
    refine ogo (fun _ z_ => XS.icmpNo X236.here hx rfl (hb hby at_141) rfl (teq rfl).2 z_) ?_
    show OWay p e below G T236 (mkF m 144 #[.val (.long q0), .second, .val (.int p1), .val (.long q2), .second, .val (.long q3), .second, .val (.long q4), .second, .val (.int p5), .val (.int (3 : Int32)), .val (.double v11_187), .second, .val (.ref b188), .val (.ref b202), .val (.ref b_217), .unset, .unset, .unset, .unset] [])
    refine ogo (fun _ z_ => XS.aload X236.here hx rfl (hb hby at_144) rfl rfl z_) ?_
    show OWay p e below G T236 (mkF m 146 #[.val (.long q0), .second, .val (.int p1), .val (.long q2), .second, .val (.long q3), .second, .val (.long q4), .second, .val (.int p5), .val (.int (3 : Int32)), .val (.double v11_187), .second, .val (.ref b188), .val (.ref b202), .val (.ref b_217), .unset, .unset, .unset, .unset] [(.ref b_217)])
    obtain ⟨_, T237, L237, X237, hQ237, st237⟩ := wVirtual X236 hx hZ (y := (⟨"com/example/sito/sito/Slice", "getBitCount", "()J"⟩ : MethodName)) (z := (⟨"com/example/sito/sito/Slice", "getBitCount", "()J"⟩ : MethodName)) hown (hw _ (List.mem_of_getElem? (i := 56) rfl)) (hw _ (List.mem_of_getElem? (i := 57) rfl)) (notFace_of_selects (args := #[]) (mvT hZ (hw _ (List.mem_of_getElem? (i := 59) rfl)))) (hw _ (List.mem_of_getElem? (i := 59) rfl)) (hw _ (List.mem_of_getElem? (i := 58) rfl)) (hw _ (List.mem_of_getElem? (i := 5) rfl)) (hw _ (List.mem_of_getElem? (i := 60) rfl)) (by decide) (get7_c l Z az hw [] b_217 (192 : Int64) T215.heap n0 (Nat.le_trans (Nat.le_trans (Nat.le_trans (Nat.le_trans (Nat.le_trans (Nat.le_trans (Nat.le_trans Z0 E188.1) (Keep.of_wr W192).1) (Keep.of_wr W196).1) (Keep.of_wr W200).1) E202.1) Kq205.1) Kq215.1) P229) 0 (by decide) (by decide) P225 (g := (mkF m 146 #[.val (.long q0), .second, .val (.int p1), .val (.long q2), .second, .val (.long q3), .second, .val (.long q4), .second, .val (.int p5), .val (.int (3 : Int32)), .val (.double v11_187), .second, .val (.ref b188), .val (.ref b202), .val (.ref b_217), .unset, .unset, .unset, .unset] [(.ref b_217)])) rfl (by rw [hml]; rfl) (argsL := []) (rest := []) (lenOf pd___J rfl) rfl (by show 2 * 0 + _ ≤ _; exact Nat.le_of_eq rfl) (hb hby at_146) rfl eq236 (by decide) (by decide)
    obtain ⟨rfl, N237q, eq237⟩ := hQ237
    have N237 := Fr.app N236 N237q
    refine ogoS st237 ?_
    show OWay p e below G T237 (mkF m 149 #[.val (.long q0), .second, .val (.int p1), .val (.long q2), .second, .val (.long q3), .second, .val (.long q4), .second, .val (.int p5), .val (.int (3 : Int32)), .val (.double v11_187), .second, .val (.ref b188), .val (.ref b202), .val (.ref b_217), .unset, .unset, .unset, .unset] [(.long (192 : Int64))])
    refine ogo (fun _ z_ => X237.ldc2Long hx hown (mvT hZ (hw _ (List.mem_of_getElem? (i := 61) rfl))) (g := (mkF m 149 #[.val (.long q0), .second, .val (.int p1), .val (.long q2), .second, .val (.long q3), .second, .val (.long q4), .second, .val (.int p5), .val (.int (3 : Int32)), .val (.double v11_187), .second, .val (.ref b188), .val (.ref b202), .val (.ref b_217), .unset, .unset, .unset, .unset] [(.long (192 : Int64))])) rfl (hb hby at_149) _ z_) ?_
    show OWay p e below G T237 (mkF m 152 #[.val (.long q0), .second, .val (.int p1), .val (.long q2), .second, .val (.long q3), .second, .val (.long q4), .second, .val (.int p5), .val (.int (3 : Int32)), .val (.double v11_187), .second, .val (.ref b188), .val (.ref b202), .val (.ref b_217), .unset, .unset, .unset, .unset] [(.long (64 : Int64)), (.long (192 : Int64))])
    refine ogo (fun _ z_ => XS.iload X237.here hx rfl (hb hby at_152) rfl z_) ?_
    show OWay p e below G T237 (mkF m 154 #[.val (.long q0), .second, .val (.int p1), .val (.long q2), .second, .val (.long q3), .second, .val (.long q4), .second, .val (.int p5), .val (.int (3 : Int32)), .val (.double v11_187), .second, .val (.ref b188), .val (.ref b202), .val (.ref b_217), .unset, .unset, .unset, .unset] [(.int (3 : Int32)), (.long (64 : Int64)), (.long (192 : Int64))])
    refine ogo (fun _ z_ => XS.i2l X237.here hx rfl (hb hby at_154) rfl z_) ?_
    show OWay p e below G T237 (mkF m 155 #[.val (.long q0), .second, .val (.int p1), .val (.long q2), .second, .val (.long q3), .second, .val (.long q4), .second, .val (.int p5), .val (.int (3 : Int32)), .val (.double v11_187), .second, .val (.ref b188), .val (.ref b202), .val (.ref b_217), .unset, .unset, .unset, .unset] [(.long ((3 : Int32).toInt64)), (.long (64 : Int64)), (.long (192 : Int64))])
    refine ogoE (g' := (mkF m 155 #[.val (.long q0), .second, .val (.int p1), .val (.long q2), .second, .val (.long q3), .second, .val (.long q4), .second, .val (.int p5), .val (.int (3 : Int32)), .val (.double v11_187), .second, .val (.ref b188), .val (.ref b202), .val (.ref b_217), .unset, .unset, .unset, .unset] [(.long (3 : Int64)), (.long (64 : Int64)), (.long (192 : Int64))])) (by rw [show ((3 : Int32).toInt64) = (3 : Int64) from by decide]) ?_
    refine ogo (fun _ z_ => XS.lmul X237.here hx rfl (hb hby at_155) rfl z_) ?_
    show OWay p e below G T237 (mkF m 156 #[.val (.long q0), .second, .val (.int p1), .val (.long q2), .second, .val (.long q3), .second, .val (.long q4), .second, .val (.int p5), .val (.int (3 : Int32)), .val (.double v11_187), .second, .val (.ref b188), .val (.ref b202), .val (.ref b_217), .unset, .unset, .unset, .unset] [(.long ((64 : Int64) * (3 : Int64))), (.long (192 : Int64))])
    refine ogoE (g' := (mkF m 156 #[.val (.long q0), .second, .val (.int p1), .val (.long q2), .second, .val (.long q3), .second, .val (.long q4), .second, .val (.int p5), .val (.int (3 : Int32)), .val (.double v11_187), .second, .val (.ref b188), .val (.ref b202), .val (.ref b_217), .unset, .unset, .unset, .unset] [(.long (192 : Int64)), (.long (192 : Int64))])) (by rw [show ((64 : Int64) * (3 : Int64)) = (192 : Int64) from by decide]) ?_
    refine ogo (fun _ z_ => XS.lcmp X237.here hx rfl (hb hby at_156) rfl z_) ?_
    show OWay p e below G T237 (mkF m 157 #[.val (.long q0), .second, .val (.int p1), .val (.long q2), .second, .val (.long q3), .second, .val (.long q4), .second, .val (.int p5), .val (.int (3 : Int32)), .val (.double v11_187), .second, .val (.ref b188), .val (.ref b202), .val (.ref b_217), .unset, .unset, .unset, .unset] [(.int (lcmpW (192 : Int64) (192 : Int64)))])
    refine ogo (fun _ z_ => XS.ifNo X237.here hx rfl (hb hby at_157) rfl ((if0 _ _).trans (teq ((lw_eq _ _).mpr rfl)).2) z_) ?_
    show OWay p e below G T237 (mkF m 160 #[.val (.long q0), .second, .val (.int p1), .val (.long q2), .second, .val (.long q3), .second, .val (.long q4), .second, .val (.int p5), .val (.int (3 : Int32)), .val (.double v11_187), .second, .val (.ref b188), .val (.ref b202), .val (.ref b_217), .unset, .unset, .unset, .unset] [])
    refine ogo (fun _ z_ => XS.aload X237.here hx rfl (hb hby at_160) rfl rfl z_) ?_
    show OWay p e below G T237 (mkF m 162 #[.val (.long q0), .second, .val (.int p1), .val (.long q2), .second, .val (.long q3), .second, .val (.long q4), .second, .val (.int p5), .val (.int (3 : Int32)), .val (.double v11_187), .second, .val (.ref b188), .val (.ref b202), .val (.ref b_217), .unset, .unset, .unset, .unset] [(.ref b_217)])
    obtain ⟨_, T238, L238, X238, hQ238, st238⟩ := wVirtual X237 hx hZ (y := (⟨"com/example/sito/sito/Slice", "getItems", "()J"⟩ : MethodName)) (z := (⟨"com/example/sito/sito/Slice", "getItems", "()J"⟩ : MethodName)) hown (hw _ (List.mem_of_getElem? (i := 62) rfl)) (hw _ (List.mem_of_getElem? (i := 63) rfl)) (notFace_of_selects (args := #[]) (mvT hZ (hw _ (List.mem_of_getElem? (i := 65) rfl)))) (hw _ (List.mem_of_getElem? (i := 65) rfl)) (hw _ (List.mem_of_getElem? (i := 64) rfl)) (hw _ (List.mem_of_getElem? (i := 5) rfl)) (hw _ (List.mem_of_getElem? (i := 66) rfl)) (by decide) (get8_c l Z az hw [] b_217 q4 T215.heap n0 (Nat.le_trans (Nat.le_trans (Nat.le_trans (Nat.le_trans (Nat.le_trans (Nat.le_trans (Nat.le_trans Z0 E188.1) (Keep.of_wr W192).1) (Keep.of_wr W196).1) (Keep.of_wr W200).1) E202.1) Kq205.1) Kq215.1) P231) 0 (by decide) (by decide) P225 (g := (mkF m 162 #[.val (.long q0), .second, .val (.int p1), .val (.long q2), .second, .val (.long q3), .second, .val (.long q4), .second, .val (.int p5), .val (.int (3 : Int32)), .val (.double v11_187), .second, .val (.ref b188), .val (.ref b202), .val (.ref b_217), .unset, .unset, .unset, .unset] [(.ref b_217)])) rfl (by rw [hml]; rfl) (argsL := []) (rest := []) (lenOf pd___J rfl) rfl (by show 2 * 0 + _ ≤ _; exact Nat.le_of_eq rfl) (hb hby at_162) rfl eq237 (by decide) (by decide)
    obtain ⟨rfl, N238q, eq238⟩ := hQ238
    have N238 := Fr.app N237 N238q
    refine ogoS st238 ?_
    show OWay p e below G T238 (mkF m 165 #[.val (.long q0), .second, .val (.int p1), .val (.long q2), .second, .val (.long q3), .second, .val (.long q4), .second, .val (.int p5), .val (.int (3 : Int32)), .val (.double v11_187), .second, .val (.ref b188), .val (.ref b202), .val (.ref b_217), .unset, .unset, .unset, .unset] [(.long q4)])
    refine ogo (fun _ z_ => XS.lload X238.here hx rfl (hb hby at_165) rfl z_) ?_
    show OWay p e below G T238 (mkF m 167 #[.val (.long q0), .second, .val (.int p1), .val (.long q2), .second, .val (.long q3), .second, .val (.long q4), .second, .val (.int p5), .val (.int (3 : Int32)), .val (.double v11_187), .second, .val (.ref b188), .val (.ref b202), .val (.ref b_217), .unset, .unset, .unset, .unset] [(.long q4), (.long q4)])
    refine ogo (fun _ z_ => XS.lcmp X238.here hx rfl (hb hby at_167) rfl z_) ?_
    show OWay p e below G T238 (mkF m 168 #[.val (.long q0), .second, .val (.int p1), .val (.long q2), .second, .val (.long q3), .second, .val (.long q4), .second, .val (.int p5), .val (.int (3 : Int32)), .val (.double v11_187), .second, .val (.ref b188), .val (.ref b202), .val (.ref b_217), .unset, .unset, .unset, .unset] [(.int (lcmpW q4 q4))])
    refine ogo (fun _ z_ => XS.ifNo X238.here hx rfl (hb hby at_168) rfl ((if0 _ _).trans (teq ((lw_eq _ _).mpr rfl)).2) z_) ?_
    show OWay p e below G T238 (mkF m 171 #[.val (.long q0), .second, .val (.int p1), .val (.long q2), .second, .val (.long q3), .second, .val (.long q4), .second, .val (.int p5), .val (.int (3 : Int32)), .val (.double v11_187), .second, .val (.ref b188), .val (.ref b202), .val (.ref b_217), .unset, .unset, .unset, .unset] [])
    refine ogo (fun _ z_ => XS.iconst X238.here hx rfl (hb hby at_171) z_) ?_
    show OWay p e below G T238 (mkF m 172 #[.val (.long q0), .second, .val (.int p1), .val (.long q2), .second, .val (.long q3), .second, .val (.long q4), .second, .val (.int p5), .val (.int (3 : Int32)), .val (.double v11_187), .second, .val (.ref b188), .val (.ref b202), .val (.ref b_217), .unset, .unset, .unset, .unset] [(.int (1 : Int32))])
    refine ogo (fun _ z_ => XS.goto X238.here hx rfl (pc0 := 172) (pc' := 176) rfl (hb hby at_172) (by decide) (by decide) z_) ?_
    show OWay p e below G T238 (mkF m 176 #[.val (.long q0), .second, .val (.int p1), .val (.long q2), .second, .val (.long q3), .second, .val (.long q4), .second, .val (.int p5), .val (.int (3 : Int32)), .val (.double v11_187), .second, .val (.ref b188), .val (.ref b202), .val (.ref b_217), .unset, .unset, .unset, .unset] [(.int (1 : Int32))])
    refine ogo (fun _ z_ => XS.istore X238.here hx rfl (hb hby at_176) rfl (l' := #[.val (.long q0), .second, .val (.int p1), .val (.long q2), .second, .val (.long q3), .second, .val (.long q4), .second, .val (.int p5), .val (.int (3 : Int32)), .val (.double v11_187), .second, .val (.ref b188), .val (.ref b202), .val (.ref b_217), .val (.int (1 : Int32)), .unset, .unset, .unset]) rfl z_) ?_
    show OWay p e below G T238 (mkF m 178 #[.val (.long q0), .second, .val (.int p1), .val (.long q2), .second, .val (.long q3), .second, .val (.long q4), .second, .val (.int p5), .val (.int (3 : Int32)), .val (.double v11_187), .second, .val (.ref b188), .val (.ref b202), .val (.ref b_217), .val (.int (1 : Int32)), .unset, .unset, .unset] [])
    refine ogo (fun _ z_ => XS.aload X238.here hx rfl (hb hby at_178) rfl rfl z_) ?_
    show OWay p e below G T238 (mkF m 180 #[.val (.long q0), .second, .val (.int p1), .val (.long q2), .second, .val (.long q3), .second, .val (.long q4), .second, .val (.int p5), .val (.int (3 : Int32)), .val (.double v11_187), .second, .val (.ref b188), .val (.ref b202), .val (.ref b_217), .val (.int (1 : Int32)), .unset, .unset, .unset] [(.ref b_217)])
    obtain ⟨_, T239, L239, X239, hQ239, st239⟩ := wVirtual X238 hx hZ (y := (⟨"com/example/sito/sito/Slice", "getWords", "()[J"⟩ : MethodName)) (z := (⟨"com/example/sito/sito/Slice", "getWords", "()[J"⟩ : MethodName)) hown (hw _ (List.mem_of_getElem? (i := 67) rfl)) (hw _ (List.mem_of_getElem? (i := 68) rfl)) (notFace_of_selects (args := #[]) (mvT hZ (hw _ (List.mem_of_getElem? (i := 70) rfl)))) (hw _ (List.mem_of_getElem? (i := 70) rfl)) (hw _ (List.mem_of_getElem? (i := 69) rfl)) (hw _ (List.mem_of_getElem? (i := 5) rfl)) (hw _ (List.mem_of_getElem? (i := 71) rfl)) (by decide) (get9_c l Z az hw [] b_217 c_218 T215.heap n0 (Nat.le_trans (Nat.le_trans (Nat.le_trans (Nat.le_trans (Nat.le_trans (Nat.le_trans (Nat.le_trans Z0 E188.1) (Keep.of_wr W192).1) (Keep.of_wr W196).1) (Keep.of_wr W200).1) E202.1) Kq205.1) Kq215.1) P230) 0 (by decide) (by decide) P225 (g := (mkF m 180 #[.val (.long q0), .second, .val (.int p1), .val (.long q2), .second, .val (.long q3), .second, .val (.long q4), .second, .val (.int p5), .val (.int (3 : Int32)), .val (.double v11_187), .second, .val (.ref b188), .val (.ref b202), .val (.ref b_217), .val (.int (1 : Int32)), .unset, .unset, .unset] [(.ref b_217)])) rfl (by rw [hml]; rfl) (argsL := []) (rest := []) (lenOf pd____J rfl) rfl (by show 2 * 0 + _ ≤ _; exact Nat.le_of_eq rfl) (hb hby at_180) rfl eq238 (by decide) (by decide)
    obtain ⟨rfl, N239q, eq239⟩ := hQ239
    have N239 := Fr.app N238 N239q
    refine ogoS st239 ?_
    show OWay p e below G T239 (mkF m 183 #[.val (.long q0), .second, .val (.int p1), .val (.long q2), .second, .val (.long q3), .second, .val (.long q4), .second, .val (.int p5), .val (.int (3 : Int32)), .val (.double v11_187), .second, .val (.ref b188), .val (.ref b202), .val (.ref b_217), .val (.int (1 : Int32)), .unset, .unset, .unset] [(.ref c_218)])
    refine ogo (fun _ z_ => XS.astore X239.here hx rfl (hb hby at_183) rfl rfl (l' := #[.val (.long q0), .second, .val (.int p1), .val (.long q2), .second, .val (.long q3), .second, .val (.long q4), .second, .val (.int p5), .val (.int (3 : Int32)), .val (.double v11_187), .second, .val (.ref b188), .val (.ref b202), .val (.ref b_217), .val (.int (1 : Int32)), .val (.ref c_218), .unset, .unset]) rfl z_) ?_
    show OWay p e below G T239 (mkF m 185 #[.val (.long q0), .second, .val (.int p1), .val (.long q2), .second, .val (.long q3), .second, .val (.long q4), .second, .val (.int p5), .val (.int (3 : Int32)), .val (.double v11_187), .second, .val (.ref b188), .val (.ref b202), .val (.ref b_217), .val (.int (1 : Int32)), .val (.ref c_218), .unset, .unset] [])
    refine ogo (fun _ z_ => XS.iload X239.here hx rfl (hb hby at_185) rfl z_) ?_
    show OWay p e below G T239 (mkF m 187 #[.val (.long q0), .second, .val (.int p1), .val (.long q2), .second, .val (.long q3), .second, .val (.long q4), .second, .val (.int p5), .val (.int (3 : Int32)), .val (.double v11_187), .second, .val (.ref b188), .val (.ref b202), .val (.ref b_217), .val (.int (1 : Int32)), .val (.ref c_218), .unset, .unset] [(.int (1 : Int32))])
    refine ogo (fun _ z_ => XS.ifNo X239.here hx rfl (hb hby at_187) rfl ((if0 _ _).trans (feq (by decide)).1) z_) ?_
    show OWay p e below G T239 (mkF m 190 #[.val (.long q0), .second, .val (.int p1), .val (.long q2), .second, .val (.long q3), .second, .val (.long q4), .second, .val (.int p5), .val (.int (3 : Int32)), .val (.double v11_187), .second, .val (.ref b188), .val (.ref b202), .val (.ref b_217), .val (.int (1 : Int32)), .val (.ref c_218), .unset, .unset] [])
    refine ogo (fun _ z_ => XS.aload X239.here hx rfl (hb hby at_190) rfl rfl z_) ?_
    show OWay p e below G T239 (mkF m 192 #[.val (.long q0), .second, .val (.int p1), .val (.long q2), .second, .val (.long q3), .second, .val (.long q4), .second, .val (.int p5), .val (.int (3 : Int32)), .val (.double v11_187), .second, .val (.ref b188), .val (.ref b202), .val (.ref b_217), .val (.int (1 : Int32)), .val (.ref c_218), .unset, .unset] [(.ref c_218)])
    refine ogo (fun _ z_ => XS.ifnullNo X239.here hx rfl (hb hby at_192) rfl z_) ?_
    show OWay p e below G T239 (mkF m 195 #[.val (.long q0), .second, .val (.int p1), .val (.long q2), .second, .val (.long q3), .second, .val (.long q4), .second, .val (.int p5), .val (.int (3 : Int32)), .val (.double v11_187), .second, .val (.ref b188), .val (.ref b202), .val (.ref b_217), .val (.int (1 : Int32)), .val (.ref c_218), .unset, .unset] [])
    refine ogo (fun _ z_ => XS.aload X239.here hx rfl (hb hby at_195) rfl rfl z_) ?_
    show OWay p e below G T239 (mkF m 197 #[.val (.long q0), .second, .val (.int p1), .val (.long q2), .second, .val (.long q3), .second, .val (.long q4), .second, .val (.int p5), .val (.int (3 : Int32)), .val (.double v11_187), .second, .val (.ref b188), .val (.ref b202), .val (.ref b_217), .val (.int (1 : Int32)), .val (.ref c_218), .unset, .unset] [(.ref c_218)])
    refine ogo (fun _ z_ => XS.aload X239.here hx rfl (hb hby at_197) rfl rfl z_) ?_
    show OWay p e below G T239 (mkF m 199 #[.val (.long q0), .second, .val (.int p1), .val (.long q2), .second, .val (.long q3), .second, .val (.long q4), .second, .val (.int p5), .val (.int (3 : Int32)), .val (.double v11_187), .second, .val (.ref b188), .val (.ref b202), .val (.ref b_217), .val (.int (1 : Int32)), .val (.ref c_218), .unset, .unset] [(.ref b188), (.ref c_218)])
    refine ogo (fun _ z_ => Jvm.RoadKit.acmp (g := (mkF m 199 #[.val (.long q0), .second, .val (.int p1), .val (.long q2), .second, .val (.long q3), .second, .val (.long q4), .second, .val (.int p5), .val (.int (3 : Int32)), .val (.double v11_187), .second, .val (.ref b188), .val (.ref b202), .val (.ref b_217), .val (.int (1 : Int32)), .val (.ref c_218), .unset, .unset] [(.ref b188), (.ref c_218)])) X239 hx rfl rfl rfl (pc0 := 199) (pc' := 202) (same := false) rfl (hb hby at_199) rfl (decide_eq_false fun q => (Ne.symm (Nat.ne_of_lt (Nat.lt_of_lt_of_le F213.lt P223))) (Value.ref.inj q)) (by decide) (by decide) z_) ?_
    show OWay p e below G T239 (mkF m 202 #[.val (.long q0), .second, .val (.int p1), .val (.long q2), .second, .val (.long q3), .second, .val (.long q4), .second, .val (.int p5), .val (.int (3 : Int32)), .val (.double v11_187), .second, .val (.ref b188), .val (.ref b202), .val (.ref b_217), .val (.int (1 : Int32)), .val (.ref c_218), .unset, .unset] [])
    refine ogo (fun _ z_ => XS.aload X239.here hx rfl (hb hby at_202) rfl rfl z_) ?_
    show OWay p e below G T239 (mkF m 204 #[.val (.long q0), .second, .val (.int p1), .val (.long q2), .second, .val (.long q3), .second, .val (.long q4), .second, .val (.int p5), .val (.int (3 : Int32)), .val (.double v11_187), .second, .val (.ref b188), .val (.ref b202), .val (.ref b_217), .val (.int (1 : Int32)), .val (.ref c_218), .unset, .unset] [(.ref c_218)])
    obtain ⟨cl_o240, Ar_o240, -, S_o240, N_o240, -, -⟩ := id P232
    refine ogo (fun _ z_ => X239.arraylength hx (by rw [eq239]; exact Ar_o240.1) (State.isArrayOf_alike hZ.alike Ar_o240.2.1) (g := (mkF m 204 #[.val (.long q0), .second, .val (.int p1), .val (.long q2), .second, .val (.long q3), .second, .val (.long q4), .second, .val (.int p5), .val (.int (3 : Int32)), .val (.double v11_187), .second, .val (.ref b188), .val (.ref b202), .val (.ref b_217), .val (.int (1 : Int32)), .val (.ref c_218), .unset, .unset] [(.ref c_218)])) rfl rfl (hb hby at_204) _ z_) ?_
    rw [len_of S_o240 N_o240]
    show OWay p e below G T239 (mkF m 205 #[.val (.long q0), .second, .val (.int p1), .val (.long q2), .second, .val (.long q3), .second, .val (.long q4), .second, .val (.int p5), .val (.int (3 : Int32)), .val (.double v11_187), .second, .val (.ref b188), .val (.ref b202), .val (.ref b_217), .val (.int (1 : Int32)), .val (.ref c_218), .unset, .unset] [(.int (3 : Int32))])
    refine ogo (fun _ z_ => XS.iload X239.here hx rfl (hb hby at_205) rfl z_) ?_
    show OWay p e below G T239 (mkF m 207 #[.val (.long q0), .second, .val (.int p1), .val (.long q2), .second, .val (.long q3), .second, .val (.long q4), .second, .val (.int p5), .val (.int (3 : Int32)), .val (.double v11_187), .second, .val (.ref b188), .val (.ref b202), .val (.ref b_217), .val (.int (1 : Int32)), .val (.ref c_218), .unset, .unset] [(.int (3 : Int32)), (.int (3 : Int32))])
    refine ogo (fun _ z_ => XS.icmpNo X239.here hx rfl (hb hby at_207) rfl (teq rfl).2 z_) ?_
    show OWay p e below G T239 (mkF m 210 #[.val (.long q0), .second, .val (.int p1), .val (.long q2), .second, .val (.long q3), .second, .val (.long q4), .second, .val (.int p5), .val (.int (3 : Int32)), .val (.double v11_187), .second, .val (.ref b188), .val (.ref b202), .val (.ref b_217), .val (.int (1 : Int32)), .val (.ref c_218), .unset, .unset] [])
    refine ogo (fun _ z_ => XS.iconst X239.here hx rfl (hb hby at_210) z_) ?_
    show OWay p e below G T239 (mkF m 211 #[.val (.long q0), .second, .val (.int p1), .val (.long q2), .second, .val (.long q3), .second, .val (.long q4), .second, .val (.int p5), .val (.int (3 : Int32)), .val (.double v11_187), .second, .val (.ref b188), .val (.ref b202), .val (.ref b_217), .val (.int (1 : Int32)), .val (.ref c_218), .unset, .unset] [(.int (1 : Int32))])
    refine ogo (fun _ z_ => XS.goto X239.here hx rfl (pc0 := 211) (pc' := 215) rfl (hb hby at_211) (by decide) (by decide) z_) ?_
    show OWay p e below G T239 (mkF m 215 #[.val (.long q0), .second, .val (.int p1), .val (.long q2), .second, .val (.long q3), .second, .val (.long q4), .second, .val (.int p5), .val (.int (3 : Int32)), .val (.double v11_187), .second, .val (.ref b188), .val (.ref b202), .val (.ref b_217), .val (.int (1 : Int32)), .val (.ref c_218), .unset, .unset] [(.int (1 : Int32))])
    refine ogo (fun _ z_ => XS.istore X239.here hx rfl (hb hby at_215) rfl (l' := #[.val (.long q0), .second, .val (.int p1), .val (.long q2), .second, .val (.long q3), .second, .val (.long q4), .second, .val (.int p5), .val (.int (3 : Int32)), .val (.double v11_187), .second, .val (.ref b188), .val (.ref b202), .val (.ref b_217), .val (.int (1 : Int32)), .val (.ref c_218), .unset, .unset]) rfl z_) ?_
    show OWay p e below G T239 (mkF m 217 #[.val (.long q0), .second, .val (.int p1), .val (.long q2), .second, .val (.long q3), .second, .val (.long q4), .second, .val (.int p5), .val (.int (3 : Int32)), .val (.double v11_187), .second, .val (.ref b188), .val (.ref b202), .val (.ref b_217), .val (.int (1 : Int32)), .val (.ref c_218), .unset, .unset] [])
    refine ogo (fun _ z_ => XS.iload X239.here hx rfl (hb hby at_217) rfl z_) ?_
    show OWay p e below G T239 (mkF m 219 #[.val (.long q0), .second, .val (.int p1), .val (.long q2), .second, .val (.long q3), .second, .val (.long q4), .second, .val (.int p5), .val (.int (3 : Int32)), .val (.double v11_187), .second, .val (.ref b188), .val (.ref b202), .val (.ref b_217), .val (.int (1 : Int32)), .val (.ref c_218), .unset, .unset] [(.int (1 : Int32))])
    refine ogo (fun _ z_ => XS.ifNo X239.here hx rfl (hb hby at_219) rfl ((if0 _ _).trans (feq (by decide)).1) z_) ?_
    show OWay p e below G T239 (mkF m 222 #[.val (.long q0), .second, .val (.int p1), .val (.long q2), .second, .val (.long q3), .second, .val (.long q4), .second, .val (.int p5), .val (.int (3 : Int32)), .val (.double v11_187), .second, .val (.ref b188), .val (.ref b202), .val (.ref b_217), .val (.int (1 : Int32)), .val (.ref c_218), .unset, .unset] [])
    refine ogo (fun _ z_ => XS.aload X239.here hx rfl (hb hby at_222) rfl rfl z_) ?_
    show OWay p e below G T239 (mkF m 224 #[.val (.long q0), .second, .val (.int p1), .val (.long q2), .second, .val (.long q3), .second, .val (.long q4), .second, .val (.int p5), .val (.int (3 : Int32)), .val (.double v11_187), .second, .val (.ref b188), .val (.ref b202), .val (.ref b_217), .val (.int (1 : Int32)), .val (.ref c_218), .unset, .unset] [(.ref b202)])
    have F241 : Fld Z T215.heap b202 "com/example/sito/sito/Slice" "words" "[J" (.ref b188) := (P210.keep Kq215 nin0)
    have F243 : Exa Z T215.heap b202 "com/example/sito/sito/Slice" := (F216.keep Kq215)
    obtain ⟨_, T242, L242, X242, hQ242, st242⟩ := wVirtual X239 hx hZ (y := (⟨"com/example/sito/sito/Slice", "getWords", "()[J"⟩ : MethodName)) (z := (⟨"com/example/sito/sito/Slice", "getWords", "()[J"⟩ : MethodName)) hown (hw _ (List.mem_of_getElem? (i := 67) rfl)) (hw _ (List.mem_of_getElem? (i := 68) rfl)) (notFace_of_selects (args := #[]) (mvT hZ (hw _ (List.mem_of_getElem? (i := 70) rfl)))) (hw _ (List.mem_of_getElem? (i := 70) rfl)) (hw _ (List.mem_of_getElem? (i := 69) rfl)) (hw _ (List.mem_of_getElem? (i := 5) rfl)) (hw _ (List.mem_of_getElem? (i := 71) rfl)) (by decide) (get9_c l Z az hw [] b202 b188 T215.heap n0 (Nat.le_trans (Nat.le_trans (Nat.le_trans (Nat.le_trans (Nat.le_trans (Nat.le_trans (Nat.le_trans Z0 E188.1) (Keep.of_wr W192).1) (Keep.of_wr W196).1) (Keep.of_wr W200).1) E202.1) Kq205.1) Kq215.1) F241) 0 (by decide) (by decide) F243 (g := (mkF m 224 #[.val (.long q0), .second, .val (.int p1), .val (.long q2), .second, .val (.long q3), .second, .val (.long q4), .second, .val (.int p5), .val (.int (3 : Int32)), .val (.double v11_187), .second, .val (.ref b188), .val (.ref b202), .val (.ref b_217), .val (.int (1 : Int32)), .val (.ref c_218), .unset, .unset] [(.ref b202)])) rfl (by rw [hml]; rfl) (argsL := []) (rest := []) (lenOf pd____J rfl) rfl (by show 2 * 0 + _ ≤ _; exact Nat.le_of_eq rfl) (hb hby at_224) rfl eq239 (by decide) (by decide)
    obtain ⟨rfl, N242q, eq242⟩ := hQ242
    have N242 := Fr.app N239 N242q
    refine ogoS st242 ?_
    show OWay p e below G T242 (mkF m 227 #[.val (.long q0), .second, .val (.int p1), .val (.long q2), .second, .val (.long q3), .second, .val (.long q4), .second, .val (.int p5), .val (.int (3 : Int32)), .val (.double v11_187), .second, .val (.ref b188), .val (.ref b202), .val (.ref b_217), .val (.int (1 : Int32)), .val (.ref c_218), .unset, .unset] [(.ref b188)])
    refine ogo (fun _ z_ => XS.aload X242.here hx rfl (hb hby at_227) rfl rfl z_) ?_
    show OWay p e below G T242 (mkF m 229 #[.val (.long q0), .second, .val (.int p1), .val (.long q2), .second, .val (.long q3), .second, .val (.long q4), .second, .val (.int p5), .val (.int (3 : Int32)), .val (.double v11_187), .second, .val (.ref b188), .val (.ref b202), .val (.ref b_217), .val (.int (1 : Int32)), .val (.ref c_218), .unset, .unset] [(.ref b188), (.ref b188)])
    refine ogo (fun _ z_ => Jvm.RoadKit.acmp (g := (mkF m 229 #[.val (.long q0), .second, .val (.int p1), .val (.long q2), .second, .val (.long q3), .second, .val (.long q4), .second, .val (.int p5), .val (.int (3 : Int32)), .val (.double v11_187), .second, .val (.ref b188), .val (.ref b202), .val (.ref b_217), .val (.int (1 : Int32)), .val (.ref c_218), .unset, .unset] [(.ref b188), (.ref b188)])) X242 hx rfl rfl rfl (pc0 := 229) (pc' := 232) (same := true) rfl (hb hby at_229) rfl (decide_eq_true rfl) (by decide) (by decide) z_) ?_
    show OWay p e below G T242 (mkF m 232 #[.val (.long q0), .second, .val (.int p1), .val (.long q2), .second, .val (.long q3), .second, .val (.long q4), .second, .val (.int p5), .val (.int (3 : Int32)), .val (.double v11_187), .second, .val (.ref b188), .val (.ref b202), .val (.ref b_217), .val (.int (1 : Int32)), .val (.ref c_218), .unset, .unset] [])
    refine ogo (fun _ z_ => XS.aload X242.here hx rfl (hb hby at_232) rfl rfl z_) ?_
    show OWay p e below G T242 (mkF m 234 #[.val (.long q0), .second, .val (.int p1), .val (.long q2), .second, .val (.long q3), .second, .val (.long q4), .second, .val (.int p5), .val (.int (3 : Int32)), .val (.double v11_187), .second, .val (.ref b188), .val (.ref b202), .val (.ref b_217), .val (.int (1 : Int32)), .val (.ref c_218), .unset, .unset] [(.ref b202)])
    have F244 : Fld Z T215.heap b202 "com/example/sito/sito/Slice" "items" "J" (.long q4) := (P211.keep Kq215 nin0)
    obtain ⟨_, T245, L245, X245, hQ245, st245⟩ := wVirtual X242 hx hZ (y := (⟨"com/example/sito/sito/Slice", "getItems", "()J"⟩ : MethodName)) (z := (⟨"com/example/sito/sito/Slice", "getItems", "()J"⟩ : MethodName)) hown (hw _ (List.mem_of_getElem? (i := 62) rfl)) (hw _ (List.mem_of_getElem? (i := 63) rfl)) (notFace_of_selects (args := #[]) (mvT hZ (hw _ (List.mem_of_getElem? (i := 65) rfl)))) (hw _ (List.mem_of_getElem? (i := 65) rfl)) (hw _ (List.mem_of_getElem? (i := 64) rfl)) (hw _ (List.mem_of_getElem? (i := 5) rfl)) (hw _ (List.mem_of_getElem? (i := 66) rfl)) (by decide) (get8_c l Z az hw [] b202 q4 T215.heap n0 (Nat.le_trans (Nat.le_trans (Nat.le_trans (Nat.le_trans (Nat.le_trans (Nat.le_trans (Nat.le_trans Z0 E188.1) (Keep.of_wr W192).1) (Keep.of_wr W196).1) (Keep.of_wr W200).1) E202.1) Kq205.1) Kq215.1) F244) 0 (by decide) (by decide) F243 (g := (mkF m 234 #[.val (.long q0), .second, .val (.int p1), .val (.long q2), .second, .val (.long q3), .second, .val (.long q4), .second, .val (.int p5), .val (.int (3 : Int32)), .val (.double v11_187), .second, .val (.ref b188), .val (.ref b202), .val (.ref b_217), .val (.int (1 : Int32)), .val (.ref c_218), .unset, .unset] [(.ref b202)])) rfl (by rw [hml]; rfl) (argsL := []) (rest := []) (lenOf pd___J rfl) rfl (by show 2 * 0 + _ ≤ _; exact Nat.le_of_eq rfl) (hb hby at_234) rfl eq242 (by decide) (by decide)
    obtain ⟨rfl, N245q, eq245⟩ := hQ245
    have N245 := Fr.app N242 N245q
    refine ogoS st245 ?_
    show OWay p e below G T245 (mkF m 237 #[.val (.long q0), .second, .val (.int p1), .val (.long q2), .second, .val (.long q3), .second, .val (.long q4), .second, .val (.int p5), .val (.int (3 : Int32)), .val (.double v11_187), .second, .val (.ref b188), .val (.ref b202), .val (.ref b_217), .val (.int (1 : Int32)), .val (.ref c_218), .unset, .unset] [(.long q4)])
    refine ogo (fun _ z_ => XS.lload X245.here hx rfl (hb hby at_237) rfl z_) ?_
    show OWay p e below G T245 (mkF m 239 #[.val (.long q0), .second, .val (.int p1), .val (.long q2), .second, .val (.long q3), .second, .val (.long q4), .second, .val (.int p5), .val (.int (3 : Int32)), .val (.double v11_187), .second, .val (.ref b188), .val (.ref b202), .val (.ref b_217), .val (.int (1 : Int32)), .val (.ref c_218), .unset, .unset] [(.long q4), (.long q4)])
    refine ogo (fun _ z_ => XS.lcmp X245.here hx rfl (hb hby at_239) rfl z_) ?_
    show OWay p e below G T245 (mkF m 240 #[.val (.long q0), .second, .val (.int p1), .val (.long q2), .second, .val (.long q3), .second, .val (.long q4), .second, .val (.int p5), .val (.int (3 : Int32)), .val (.double v11_187), .second, .val (.ref b188), .val (.ref b202), .val (.ref b_217), .val (.int (1 : Int32)), .val (.ref c_218), .unset, .unset] [(.int (lcmpW q4 q4))])
    refine ogo (fun _ z_ => XS.ifNo X245.here hx rfl (hb hby at_240) rfl ((if0 _ _).trans (teq ((lw_eq _ _).mpr rfl)).2) z_) ?_
    show OWay p e below G T245 (mkF m 243 #[.val (.long q0), .second, .val (.int p1), .val (.long q2), .second, .val (.long q3), .second, .val (.long q4), .second, .val (.int p5), .val (.int (3 : Int32)), .val (.double v11_187), .second, .val (.ref b188), .val (.ref b202), .val (.ref b_217), .val (.int (1 : Int32)), .val (.ref c_218), .unset, .unset] [])
    refine ogo (fun _ z_ => XS.iconst X245.here hx rfl (hb hby at_243) z_) ?_
    show OWay p e below G T245 (mkF m 244 #[.val (.long q0), .second, .val (.int p1), .val (.long q2), .second, .val (.long q3), .second, .val (.long q4), .second, .val (.int p5), .val (.int (3 : Int32)), .val (.double v11_187), .second, .val (.ref b188), .val (.ref b202), .val (.ref b_217), .val (.int (1 : Int32)), .val (.ref c_218), .unset, .unset] [(.int (1 : Int32))])
    refine ogo (fun _ z_ => XS.goto X245.here hx rfl (pc0 := 244) (pc' := 248) rfl (hb hby at_244) (by decide) (by decide) z_) ?_
    show OWay p e below G T245 (mkF m 248 #[.val (.long q0), .second, .val (.int p1), .val (.long q2), .second, .val (.long q3), .second, .val (.long q4), .second, .val (.int p5), .val (.int (3 : Int32)), .val (.double v11_187), .second, .val (.ref b188), .val (.ref b202), .val (.ref b_217), .val (.int (1 : Int32)), .val (.ref c_218), .unset, .unset] [(.int (1 : Int32))])
    refine ogo (fun _ z_ => XS.istore X245.here hx rfl (hb hby at_248) rfl (l' := #[.val (.long q0), .second, .val (.int p1), .val (.long q2), .second, .val (.long q3), .second, .val (.long q4), .second, .val (.int p5), .val (.int (3 : Int32)), .val (.double v11_187), .second, .val (.ref b188), .val (.ref b202), .val (.ref b_217), .val (.int (1 : Int32)), .val (.ref c_218), .unset, .unset]) rfl z_) ?_
    show OWay p e below G T245 (mkF m 250 #[.val (.long q0), .second, .val (.int p1), .val (.long q2), .second, .val (.long q3), .second, .val (.long q4), .second, .val (.int p5), .val (.int (3 : Int32)), .val (.double v11_187), .second, .val (.ref b188), .val (.ref b202), .val (.ref b_217), .val (.int (1 : Int32)), .val (.ref c_218), .unset, .unset] [])
    refine ogo (fun _ z_ => XS.iload X245.here hx rfl (hb hby at_250) rfl z_) ?_
    show OWay p e below G T245 (mkF m 252 #[.val (.long q0), .second, .val (.int p1), .val (.long q2), .second, .val (.long q3), .second, .val (.long q4), .second, .val (.int p5), .val (.int (3 : Int32)), .val (.double v11_187), .second, .val (.ref b188), .val (.ref b202), .val (.ref b_217), .val (.int (1 : Int32)), .val (.ref c_218), .unset, .unset] [(.int (1 : Int32))])
    refine ogo (fun _ z_ => XS.ifYes X245.here hx rfl (pc0 := 252) (pc' := 257) rfl (hb hby at_252) rfl ((if0 _ _).trans (feq (by decide)).2) (by decide) (by decide) z_) ?_
    show OWay p e below G T245 (mkF m 257 #[.val (.long q0), .second, .val (.int p1), .val (.long q2), .second, .val (.long q3), .second, .val (.long q4), .second, .val (.int p5), .val (.int (3 : Int32)), .val (.double v11_187), .second, .val (.ref b188), .val (.ref b202), .val (.ref b_217), .val (.int (1 : Int32)), .val (.ref c_218), .unset, .unset] [])
    refine ogo (fun _ z_ => XS.iload X245.here hx rfl (hb hby at_257) rfl z_) ?_
    show OWay p e below G T245 (mkF m 259 #[.val (.long q0), .second, .val (.int p1), .val (.long q2), .second, .val (.long q3), .second, .val (.long q4), .second, .val (.int p5), .val (.int (3 : Int32)), .val (.double v11_187), .second, .val (.ref b188), .val (.ref b202), .val (.ref b_217), .val (.int (1 : Int32)), .val (.ref c_218), .unset, .unset] [(.int (3 : Int32))])
    refine ogo (fun _ z_ => XS.ifNo X245.here hx rfl (hb hby at_259) rfl ((if0 _ _).trans (tlt (by decide)).2.2.2) z_) ?_
    show OWay p e below G T245 (mkF m 262 #[.val (.long q0), .second, .val (.int p1), .val (.long q2), .second, .val (.long q3), .second, .val (.long q4), .second, .val (.int p5), .val (.int (3 : Int32)), .val (.double v11_187), .second, .val (.ref b188), .val (.ref b202), .val (.ref b_217), .val (.int (1 : Int32)), .val (.ref c_218), .unset, .unset] [])
    refine ogo (fun _ z_ => XS.iload X245.here hx rfl (hb hby at_262) rfl z_) ?_
    show OWay p e below G T245 (mkF m 264 #[.val (.long q0), .second, .val (.int p1), .val (.long q2), .second, .val (.long q3), .second, .val (.long q4), .second, .val (.int p5), .val (.int (3 : Int32)), .val (.double v11_187), .second, .val (.ref b188), .val (.ref b202), .val (.ref b_217), .val (.int (1 : Int32)), .val (.ref c_218), .unset, .unset] [(.int (1 : Int32))])
    refine ogo (fun _ z_ => XS.ifNo X245.here hx rfl (hb hby at_264) rfl ((if0 _ _).trans (feq (by decide)).1) z_) ?_
    show OWay p e below G T245 (mkF m 267 #[.val (.long q0), .second, .val (.int p1), .val (.long q2), .second, .val (.long q3), .second, .val (.long q4), .second, .val (.int p5), .val (.int (3 : Int32)), .val (.double v11_187), .second, .val (.ref b188), .val (.ref b202), .val (.ref b_217), .val (.int (1 : Int32)), .val (.ref c_218), .unset, .unset] [])
    refine ogo (fun _ z_ => XS.aload X245.here hx rfl (hb hby at_267) rfl rfl z_) ?_
    show OWay p e below G T245 (mkF m 269 #[.val (.long q0), .second, .val (.int p1), .val (.long q2), .second, .val (.long q3), .second, .val (.long q4), .second, .val (.int p5), .val (.int (3 : Int32)), .val (.double v11_187), .second, .val (.ref b188), .val (.ref b202), .val (.ref b_217), .val (.int (1 : Int32)), .val (.ref c_218), .unset, .unset] [(.ref c_218)])
    refine ogo (fun _ z_ => XS.iconst X245.here hx rfl (hb hby at_269) z_) ?_
    show OWay p e below G T245 (mkF m 270 #[.val (.long q0), .second, .val (.int p1), .val (.long q2), .second, .val (.long q3), .second, .val (.long q4), .second, .val (.int p5), .val (.int (3 : Int32)), .val (.double v11_187), .second, .val (.ref b188), .val (.ref b202), .val (.ref b_217), .val (.int (1 : Int32)), .val (.ref c_218), .unset, .unset] [(.int (0 : Int32)), (.ref c_218)])
    obtain ⟨cl_o246, Ar_o246, q_o246, S_o246, N_o246, H_o246, G_o246⟩ := id P232
    have hin_o246 : ¬ ((0 : Int32) < 0 ∨ cl_o246.slots.size ≤ ((0 : Int32)).toNatClampNeg) := inb_of S_o246 ⟨by decide, by decide⟩
    have hat_o246 : cl_o246.slots[((0 : Int32)).toNatClampNeg]? = some (.long q2) := H_o246.at hin_o246 rfl
    refine ogo (fun _ z_ => X245.laload hx (j := (0 : Int32)) (v := (.long q2)) (by rw [eq245]; exact Ar_o246.1) (State.isArrayOf_alike hZ.alike Ar_o246.2.1) Ar_o246.2.2 hin_o246 hat_o246 (g := (mkF m 270 #[.val (.long q0), .second, .val (.int p1), .val (.long q2), .second, .val (.long q3), .second, .val (.long q4), .second, .val (.int p5), .val (.int (3 : Int32)), .val (.double v11_187), .second, .val (.ref b188), .val (.ref b202), .val (.ref b_217), .val (.int (1 : Int32)), .val (.ref c_218), .unset, .unset] [(.int (0 : Int32)), (.ref c_218)])) rfl rfl (hb hby at_270) _ z_) ?_
    show OWay p e below G T245 (mkF m 271 #[.val (.long q0), .second, .val (.int p1), .val (.long q2), .second, .val (.long q3), .second, .val (.long q4), .second, .val (.int p5), .val (.int (3 : Int32)), .val (.double v11_187), .second, .val (.ref b188), .val (.ref b202), .val (.ref b_217), .val (.int (1 : Int32)), .val (.ref c_218), .unset, .unset] [(.long q2)])
    refine ogo (fun _ z_ => XS.iconst X245.here hx rfl (hb hby at_271) z_) ?_
    show OWay p e below G T245 (mkF m 272 #[.val (.long q0), .second, .val (.int p1), .val (.long q2), .second, .val (.long q3), .second, .val (.long q4), .second, .val (.int p5), .val (.int (3 : Int32)), .val (.double v11_187), .second, .val (.ref b188), .val (.ref b202), .val (.ref b_217), .val (.int (1 : Int32)), .val (.ref c_218), .unset, .unset] [(.int (0 : Int32)), (.long q2)])
    refine ogo (fun _ z_ => XS.lloadN X245.here hx rfl (hb hby at_272) rfl z_) ?_
    show OWay p e below G T245 (mkF m 273 #[.val (.long q0), .second, .val (.int p1), .val (.long q2), .second, .val (.long q3), .second, .val (.long q4), .second, .val (.int p5), .val (.int (3 : Int32)), .val (.double v11_187), .second, .val (.ref b188), .val (.ref b202), .val (.ref b_217), .val (.int (1 : Int32)), .val (.ref c_218), .unset, .unset] [(.long q2), (.int (0 : Int32)), (.long q2)])
    refine ogo (fun _ z_ => XS.lload X245.here hx rfl (hb hby at_273) rfl z_) ?_
    show OWay p e below G T245 (mkF m 275 #[.val (.long q0), .second, .val (.int p1), .val (.long q2), .second, .val (.long q3), .second, .val (.long q4), .second, .val (.int p5), .val (.int (3 : Int32)), .val (.double v11_187), .second, .val (.ref b188), .val (.ref b202), .val (.ref b_217), .val (.int (1 : Int32)), .val (.ref c_218), .unset, .unset] [(.long q3), (.long q2), (.int (0 : Int32)), (.long q2)])
    obtain ⟨_, T247, L247, X247, hQ247, st247⟩ := wStatic X245 hx hZ (y := (⟨"com/example/sito/sito/SliceCopyPinLaw", "expected", "(IJJ)J"⟩ : MethodName)) hown (hw _ (List.mem_of_getElem? (i := 72) rfl)) (hw _ (List.mem_of_getElem? (i := 73) rfl)) (hw _ (List.mem_of_getElem? (i := 74) rfl)) (hw _ (List.mem_of_getElem? (i := 75) rfl)) (by decide) (exp0_c l Z az hw [] q2 q3 T215.heap n0 (Nat.le_trans (Nat.le_trans (Nat.le_trans (Nat.le_trans (Nat.le_trans (Nat.le_trans (Nat.le_trans Z0 E188.1) (Keep.of_wr W192).1) (Keep.of_wr W196).1) (Keep.of_wr W200).1) E202.1) Kq205.1) Kq215.1)) 2 (by decide) (by decide) (g := (mkF m 275 #[.val (.long q0), .second, .val (.int p1), .val (.long q2), .second, .val (.long q3), .second, .val (.long q4), .second, .val (.int p5), .val (.int (3 : Int32)), .val (.double v11_187), .second, .val (.ref b188), .val (.ref b202), .val (.ref b_217), .val (.int (1 : Int32)), .val (.ref c_218), .unset, .unset] [(.long q3), (.long q2), (.int (0 : Int32)), (.long q2)])) rfl (by rw [hml]; rfl) (argsL := [(.int (0 : Int32)), (.long q2), (.long q3)]) (rest := [(.long q2)]) (lenOf pd__IJJ_J rfl) rfl (by show 2 * 0 + _ ≤ _; exact Nat.le_of_eq rfl) (hb hby at_275) rfl eq245 (by decide) (by decide)
    obtain ⟨rfl, N247q, eq247⟩ := hQ247
    have N247 := Fr.app N245 N247q
    refine ogo st247 ?_
    show OWay p e below G T247 (mkF m 278 #[.val (.long q0), .second, .val (.int p1), .val (.long q2), .second, .val (.long q3), .second, .val (.long q4), .second, .val (.int p5), .val (.int (3 : Int32)), .val (.double v11_187), .second, .val (.ref b188), .val (.ref b202), .val (.ref b_217), .val (.int (1 : Int32)), .val (.ref c_218), .unset, .unset] [(.long q2), (.long q2)])
    refine ogo (fun _ z_ => XS.lcmp X247.here hx rfl (hb hby at_278) rfl z_) ?_
    show OWay p e below G T247 (mkF m 279 #[.val (.long q0), .second, .val (.int p1), .val (.long q2), .second, .val (.long q3), .second, .val (.long q4), .second, .val (.int p5), .val (.int (3 : Int32)), .val (.double v11_187), .second, .val (.ref b188), .val (.ref b202), .val (.ref b_217), .val (.int (1 : Int32)), .val (.ref c_218), .unset, .unset] [(.int (lcmpW q2 q2))])
    refine ogo (fun _ z_ => XS.ifNo X247.here hx rfl (hb hby at_279) rfl ((if0 _ _).trans (teq ((lw_eq _ _).mpr rfl)).2) z_) ?_
    show OWay p e below G T247 (mkF m 282 #[.val (.long q0), .second, .val (.int p1), .val (.long q2), .second, .val (.long q3), .second, .val (.long q4), .second, .val (.int p5), .val (.int (3 : Int32)), .val (.double v11_187), .second, .val (.ref b188), .val (.ref b202), .val (.ref b_217), .val (.int (1 : Int32)), .val (.ref c_218), .unset, .unset] [])
    refine ogo (fun _ z_ => XS.iconst X247.here hx rfl (hb hby at_282) z_) ?_
    show OWay p e below G T247 (mkF m 283 #[.val (.long q0), .second, .val (.int p1), .val (.long q2), .second, .val (.long q3), .second, .val (.long q4), .second, .val (.int p5), .val (.int (3 : Int32)), .val (.double v11_187), .second, .val (.ref b188), .val (.ref b202), .val (.ref b_217), .val (.int (1 : Int32)), .val (.ref c_218), .unset, .unset] [(.int (1 : Int32))])
    refine ogo (fun _ z_ => XS.goto X247.here hx rfl (pc0 := 283) (pc' := 287) rfl (hb hby at_283) (by decide) (by decide) z_) ?_
    show OWay p e below G T247 (mkF m 287 #[.val (.long q0), .second, .val (.int p1), .val (.long q2), .second, .val (.long q3), .second, .val (.long q4), .second, .val (.int p5), .val (.int (3 : Int32)), .val (.double v11_187), .second, .val (.ref b188), .val (.ref b202), .val (.ref b_217), .val (.int (1 : Int32)), .val (.ref c_218), .unset, .unset] [(.int (1 : Int32))])
    refine ogo (fun _ z_ => XS.istore X247.here hx rfl (hb hby at_287) rfl (l' := #[.val (.long q0), .second, .val (.int p1), .val (.long q2), .second, .val (.long q3), .second, .val (.long q4), .second, .val (.int p5), .val (.int (3 : Int32)), .val (.double v11_187), .second, .val (.ref b188), .val (.ref b202), .val (.ref b_217), .val (.int (1 : Int32)), .val (.ref c_218), .unset, .unset]) rfl z_) ?_
    show OWay p e below G T247 (mkF m 289 #[.val (.long q0), .second, .val (.int p1), .val (.long q2), .second, .val (.long q3), .second, .val (.long q4), .second, .val (.int p5), .val (.int (3 : Int32)), .val (.double v11_187), .second, .val (.ref b188), .val (.ref b202), .val (.ref b_217), .val (.int (1 : Int32)), .val (.ref c_218), .unset, .unset] [])
    refine ogo (fun _ z_ => XS.iload X247.here hx rfl (hb hby at_289) rfl z_) ?_
    show OWay p e below G T247 (mkF m 291 #[.val (.long q0), .second, .val (.int p1), .val (.long q2), .second, .val (.long q3), .second, .val (.long q4), .second, .val (.int p5), .val (.int (3 : Int32)), .val (.double v11_187), .second, .val (.ref b188), .val (.ref b202), .val (.ref b_217), .val (.int (1 : Int32)), .val (.ref c_218), .unset, .unset] [(.int (3 : Int32))])
    refine ogo (fun _ z_ => XS.iconst X247.here hx rfl (hb hby at_291) z_) ?_
    show OWay p e below G T247 (mkF m 292 #[.val (.long q0), .second, .val (.int p1), .val (.long q2), .second, .val (.long q3), .second, .val (.long q4), .second, .val (.int p5), .val (.int (3 : Int32)), .val (.double v11_187), .second, .val (.ref b188), .val (.ref b202), .val (.ref b_217), .val (.int (1 : Int32)), .val (.ref c_218), .unset, .unset] [(.int (1 : Int32)), (.int (3 : Int32))])
    refine ogo (fun _ z_ => XS.icmpNo X247.here hx rfl (hb hby at_292) rfl (tlt (by decide)).2.2.2 z_) ?_
    show OWay p e below G T247 (mkF m 295 #[.val (.long q0), .second, .val (.int p1), .val (.long q2), .second, .val (.long q3), .second, .val (.long q4), .second, .val (.int p5), .val (.int (3 : Int32)), .val (.double v11_187), .second, .val (.ref b188), .val (.ref b202), .val (.ref b_217), .val (.int (1 : Int32)), .val (.ref c_218), .unset, .unset] [])
    refine ogo (fun _ z_ => XS.iload X247.here hx rfl (hb hby at_295) rfl z_) ?_
    show OWay p e below G T247 (mkF m 297 #[.val (.long q0), .second, .val (.int p1), .val (.long q2), .second, .val (.long q3), .second, .val (.long q4), .second, .val (.int p5), .val (.int (3 : Int32)), .val (.double v11_187), .second, .val (.ref b188), .val (.ref b202), .val (.ref b_217), .val (.int (1 : Int32)), .val (.ref c_218), .unset, .unset] [(.int (1 : Int32))])
    refine ogo (fun _ z_ => XS.ifNo X247.here hx rfl (hb hby at_297) rfl ((if0 _ _).trans (feq (by decide)).1) z_) ?_
    show OWay p e below G T247 (mkF m 300 #[.val (.long q0), .second, .val (.int p1), .val (.long q2), .second, .val (.long q3), .second, .val (.long q4), .second, .val (.int p5), .val (.int (3 : Int32)), .val (.double v11_187), .second, .val (.ref b188), .val (.ref b202), .val (.ref b_217), .val (.int (1 : Int32)), .val (.ref c_218), .unset, .unset] [])
    refine ogo (fun _ z_ => XS.aload X247.here hx rfl (hb hby at_300) rfl rfl z_) ?_
    show OWay p e below G T247 (mkF m 302 #[.val (.long q0), .second, .val (.int p1), .val (.long q2), .second, .val (.long q3), .second, .val (.long q4), .second, .val (.int p5), .val (.int (3 : Int32)), .val (.double v11_187), .second, .val (.ref b188), .val (.ref b202), .val (.ref b_217), .val (.int (1 : Int32)), .val (.ref c_218), .unset, .unset] [(.ref c_218)])
    refine ogo (fun _ z_ => XS.iconst X247.here hx rfl (hb hby at_302) z_) ?_
    show OWay p e below G T247 (mkF m 303 #[.val (.long q0), .second, .val (.int p1), .val (.long q2), .second, .val (.long q3), .second, .val (.long q4), .second, .val (.int p5), .val (.int (3 : Int32)), .val (.double v11_187), .second, .val (.ref b188), .val (.ref b202), .val (.ref b_217), .val (.int (1 : Int32)), .val (.ref c_218), .unset, .unset] [(.int (1 : Int32)), (.ref c_218)])
    obtain ⟨cl_o248, Ar_o248, q_o248, S_o248, N_o248, H_o248, G_o248⟩ := id P232
    have hin_o248 : ¬ ((1 : Int32) < 0 ∨ cl_o248.slots.size ≤ ((1 : Int32)).toNatClampNeg) := inb_of S_o248 ⟨by decide, by decide⟩
    have hat_o248 : cl_o248.slots[((1 : Int32)).toNatClampNeg]? = some (.long q3) := H_o248.at hin_o248 rfl
    refine ogo (fun _ z_ => X247.laload hx (j := (1 : Int32)) (v := (.long q3)) (by rw [eq247]; exact Ar_o248.1) (State.isArrayOf_alike hZ.alike Ar_o248.2.1) Ar_o248.2.2 hin_o248 hat_o248 (g := (mkF m 303 #[.val (.long q0), .second, .val (.int p1), .val (.long q2), .second, .val (.long q3), .second, .val (.long q4), .second, .val (.int p5), .val (.int (3 : Int32)), .val (.double v11_187), .second, .val (.ref b188), .val (.ref b202), .val (.ref b_217), .val (.int (1 : Int32)), .val (.ref c_218), .unset, .unset] [(.int (1 : Int32)), (.ref c_218)])) rfl rfl (hb hby at_303) _ z_) ?_
    show OWay p e below G T247 (mkF m 304 #[.val (.long q0), .second, .val (.int p1), .val (.long q2), .second, .val (.long q3), .second, .val (.long q4), .second, .val (.int p5), .val (.int (3 : Int32)), .val (.double v11_187), .second, .val (.ref b188), .val (.ref b202), .val (.ref b_217), .val (.int (1 : Int32)), .val (.ref c_218), .unset, .unset] [(.long q3)])
    refine ogo (fun _ z_ => XS.iconst X247.here hx rfl (hb hby at_304) z_) ?_
    show OWay p e below G T247 (mkF m 305 #[.val (.long q0), .second, .val (.int p1), .val (.long q2), .second, .val (.long q3), .second, .val (.long q4), .second, .val (.int p5), .val (.int (3 : Int32)), .val (.double v11_187), .second, .val (.ref b188), .val (.ref b202), .val (.ref b_217), .val (.int (1 : Int32)), .val (.ref c_218), .unset, .unset] [(.int (1 : Int32)), (.long q3)])
    refine ogo (fun _ z_ => XS.lloadN X247.here hx rfl (hb hby at_305) rfl z_) ?_
    show OWay p e below G T247 (mkF m 306 #[.val (.long q0), .second, .val (.int p1), .val (.long q2), .second, .val (.long q3), .second, .val (.long q4), .second, .val (.int p5), .val (.int (3 : Int32)), .val (.double v11_187), .second, .val (.ref b188), .val (.ref b202), .val (.ref b_217), .val (.int (1 : Int32)), .val (.ref c_218), .unset, .unset] [(.long q2), (.int (1 : Int32)), (.long q3)])
    refine ogo (fun _ z_ => XS.lload X247.here hx rfl (hb hby at_306) rfl z_) ?_
    show OWay p e below G T247 (mkF m 308 #[.val (.long q0), .second, .val (.int p1), .val (.long q2), .second, .val (.long q3), .second, .val (.long q4), .second, .val (.int p5), .val (.int (3 : Int32)), .val (.double v11_187), .second, .val (.ref b188), .val (.ref b202), .val (.ref b_217), .val (.int (1 : Int32)), .val (.ref c_218), .unset, .unset] [(.long q3), (.long q2), (.int (1 : Int32)), (.long q3)])
    obtain ⟨_, T249, L249, X249, hQ249, st249⟩ := wStatic X247 hx hZ (y := (⟨"com/example/sito/sito/SliceCopyPinLaw", "expected", "(IJJ)J"⟩ : MethodName)) hown (hw _ (List.mem_of_getElem? (i := 72) rfl)) (hw _ (List.mem_of_getElem? (i := 73) rfl)) (hw _ (List.mem_of_getElem? (i := 74) rfl)) (hw _ (List.mem_of_getElem? (i := 75) rfl)) (by decide) (exp1_c l Z az hw [] q2 q3 T215.heap n0 (Nat.le_trans (Nat.le_trans (Nat.le_trans (Nat.le_trans (Nat.le_trans (Nat.le_trans (Nat.le_trans Z0 E188.1) (Keep.of_wr W192).1) (Keep.of_wr W196).1) (Keep.of_wr W200).1) E202.1) Kq205.1) Kq215.1)) 2 (by decide) (by decide) (g := (mkF m 308 #[.val (.long q0), .second, .val (.int p1), .val (.long q2), .second, .val (.long q3), .second, .val (.long q4), .second, .val (.int p5), .val (.int (3 : Int32)), .val (.double v11_187), .second, .val (.ref b188), .val (.ref b202), .val (.ref b_217), .val (.int (1 : Int32)), .val (.ref c_218), .unset, .unset] [(.long q3), (.long q2), (.int (1 : Int32)), (.long q3)])) rfl (by rw [hml]; rfl) (argsL := [(.int (1 : Int32)), (.long q2), (.long q3)]) (rest := [(.long q3)]) (lenOf pd__IJJ_J rfl) rfl (by show 2 * 0 + _ ≤ _; exact Nat.le_of_eq rfl) (hb hby at_308) rfl eq247 (by decide) (by decide)
    obtain ⟨rfl, N249q, eq249⟩ := hQ249
    have N249 := Fr.app N247 N249q
    refine ogo st249 ?_
    show OWay p e below G T249 (mkF m 311 #[.val (.long q0), .second, .val (.int p1), .val (.long q2), .second, .val (.long q3), .second, .val (.long q4), .second, .val (.int p5), .val (.int (3 : Int32)), .val (.double v11_187), .second, .val (.ref b188), .val (.ref b202), .val (.ref b_217), .val (.int (1 : Int32)), .val (.ref c_218), .unset, .unset] [(.long q3), (.long q3)])
    refine ogo (fun _ z_ => XS.lcmp X249.here hx rfl (hb hby at_311) rfl z_) ?_
    show OWay p e below G T249 (mkF m 312 #[.val (.long q0), .second, .val (.int p1), .val (.long q2), .second, .val (.long q3), .second, .val (.long q4), .second, .val (.int p5), .val (.int (3 : Int32)), .val (.double v11_187), .second, .val (.ref b188), .val (.ref b202), .val (.ref b_217), .val (.int (1 : Int32)), .val (.ref c_218), .unset, .unset] [(.int (lcmpW q3 q3))])
    refine ogo (fun _ z_ => XS.ifNo X249.here hx rfl (hb hby at_312) rfl ((if0 _ _).trans (teq ((lw_eq _ _).mpr rfl)).2) z_) ?_
    show OWay p e below G T249 (mkF m 315 #[.val (.long q0), .second, .val (.int p1), .val (.long q2), .second, .val (.long q3), .second, .val (.long q4), .second, .val (.int p5), .val (.int (3 : Int32)), .val (.double v11_187), .second, .val (.ref b188), .val (.ref b202), .val (.ref b_217), .val (.int (1 : Int32)), .val (.ref c_218), .unset, .unset] [])
    refine ogo (fun _ z_ => XS.iconst X249.here hx rfl (hb hby at_315) z_) ?_
    show OWay p e below G T249 (mkF m 316 #[.val (.long q0), .second, .val (.int p1), .val (.long q2), .second, .val (.long q3), .second, .val (.long q4), .second, .val (.int p5), .val (.int (3 : Int32)), .val (.double v11_187), .second, .val (.ref b188), .val (.ref b202), .val (.ref b_217), .val (.int (1 : Int32)), .val (.ref c_218), .unset, .unset] [(.int (1 : Int32))])
    refine ogo (fun _ z_ => XS.goto X249.here hx rfl (pc0 := 316) (pc' := 320) rfl (hb hby at_316) (by decide) (by decide) z_) ?_
    show OWay p e below G T249 (mkF m 320 #[.val (.long q0), .second, .val (.int p1), .val (.long q2), .second, .val (.long q3), .second, .val (.long q4), .second, .val (.int p5), .val (.int (3 : Int32)), .val (.double v11_187), .second, .val (.ref b188), .val (.ref b202), .val (.ref b_217), .val (.int (1 : Int32)), .val (.ref c_218), .unset, .unset] [(.int (1 : Int32))])
    refine ogo (fun _ z_ => XS.istore X249.here hx rfl (hb hby at_320) rfl (l' := #[.val (.long q0), .second, .val (.int p1), .val (.long q2), .second, .val (.long q3), .second, .val (.long q4), .second, .val (.int p5), .val (.int (3 : Int32)), .val (.double v11_187), .second, .val (.ref b188), .val (.ref b202), .val (.ref b_217), .val (.int (1 : Int32)), .val (.ref c_218), .unset, .unset]) rfl z_) ?_
    show OWay p e below G T249 (mkF m 322 #[.val (.long q0), .second, .val (.int p1), .val (.long q2), .second, .val (.long q3), .second, .val (.long q4), .second, .val (.int p5), .val (.int (3 : Int32)), .val (.double v11_187), .second, .val (.ref b188), .val (.ref b202), .val (.ref b_217), .val (.int (1 : Int32)), .val (.ref c_218), .unset, .unset] [])
    refine ogo (fun _ z_ => XS.iload X249.here hx rfl (hb hby at_322) rfl z_) ?_
    show OWay p e below G T249 (mkF m 324 #[.val (.long q0), .second, .val (.int p1), .val (.long q2), .second, .val (.long q3), .second, .val (.long q4), .second, .val (.int p5), .val (.int (3 : Int32)), .val (.double v11_187), .second, .val (.ref b188), .val (.ref b202), .val (.ref b_217), .val (.int (1 : Int32)), .val (.ref c_218), .unset, .unset] [(.int (3 : Int32))])
    refine ogo (fun _ z_ => XS.iconst X249.here hx rfl (hb hby at_324) z_) ?_
    show OWay p e below G T249 (mkF m 325 #[.val (.long q0), .second, .val (.int p1), .val (.long q2), .second, .val (.long q3), .second, .val (.long q4), .second, .val (.int p5), .val (.int (3 : Int32)), .val (.double v11_187), .second, .val (.ref b188), .val (.ref b202), .val (.ref b_217), .val (.int (1 : Int32)), .val (.ref c_218), .unset, .unset] [(.int (2 : Int32)), (.int (3 : Int32))])
    refine ogo (fun _ z_ => XS.icmpNo X249.here hx rfl (hb hby at_325) rfl (tlt (by decide)).2.2.2 z_) ?_
    show OWay p e below G T249 (mkF m 328 #[.val (.long q0), .second, .val (.int p1), .val (.long q2), .second, .val (.long q3), .second, .val (.long q4), .second, .val (.int p5), .val (.int (3 : Int32)), .val (.double v11_187), .second, .val (.ref b188), .val (.ref b202), .val (.ref b_217), .val (.int (1 : Int32)), .val (.ref c_218), .unset, .unset] [])
    refine ogo (fun _ z_ => XS.iload X249.here hx rfl (hb hby at_328) rfl z_) ?_
    show OWay p e below G T249 (mkF m 330 #[.val (.long q0), .second, .val (.int p1), .val (.long q2), .second, .val (.long q3), .second, .val (.long q4), .second, .val (.int p5), .val (.int (3 : Int32)), .val (.double v11_187), .second, .val (.ref b188), .val (.ref b202), .val (.ref b_217), .val (.int (1 : Int32)), .val (.ref c_218), .unset, .unset] [(.int (1 : Int32))])
    refine ogo (fun _ z_ => XS.ifNo X249.here hx rfl (hb hby at_330) rfl ((if0 _ _).trans (feq (by decide)).1) z_) ?_
    show OWay p e below G T249 (mkF m 333 #[.val (.long q0), .second, .val (.int p1), .val (.long q2), .second, .val (.long q3), .second, .val (.long q4), .second, .val (.int p5), .val (.int (3 : Int32)), .val (.double v11_187), .second, .val (.ref b188), .val (.ref b202), .val (.ref b_217), .val (.int (1 : Int32)), .val (.ref c_218), .unset, .unset] [])
    refine ogo (fun _ z_ => XS.aload X249.here hx rfl (hb hby at_333) rfl rfl z_) ?_
    show OWay p e below G T249 (mkF m 335 #[.val (.long q0), .second, .val (.int p1), .val (.long q2), .second, .val (.long q3), .second, .val (.long q4), .second, .val (.int p5), .val (.int (3 : Int32)), .val (.double v11_187), .second, .val (.ref b188), .val (.ref b202), .val (.ref b_217), .val (.int (1 : Int32)), .val (.ref c_218), .unset, .unset] [(.ref c_218)])
    refine ogo (fun _ z_ => XS.iconst X249.here hx rfl (hb hby at_335) z_) ?_
    show OWay p e below G T249 (mkF m 336 #[.val (.long q0), .second, .val (.int p1), .val (.long q2), .second, .val (.long q3), .second, .val (.long q4), .second, .val (.int p5), .val (.int (3 : Int32)), .val (.double v11_187), .second, .val (.ref b188), .val (.ref b202), .val (.ref b_217), .val (.int (1 : Int32)), .val (.ref c_218), .unset, .unset] [(.int (2 : Int32)), (.ref c_218)])
    obtain ⟨cl_o250, Ar_o250, q_o250, S_o250, N_o250, H_o250, G_o250⟩ := id P232
    have hin_o250 : ¬ ((2 : Int32) < 0 ∨ cl_o250.slots.size ≤ ((2 : Int32)).toNatClampNeg) := inb_of S_o250 ⟨by decide, by decide⟩
    have hat_o250 : cl_o250.slots[((2 : Int32)).toNatClampNeg]? = some (.long (q2 ^^^ (q3 ^^^ (-1 : Int64)))) := H_o250.at hin_o250 rfl
    refine ogo (fun _ z_ => X249.laload hx (j := (2 : Int32)) (v := (.long (q2 ^^^ (q3 ^^^ (-1 : Int64))))) (by rw [eq249]; exact Ar_o250.1) (State.isArrayOf_alike hZ.alike Ar_o250.2.1) Ar_o250.2.2 hin_o250 hat_o250 (g := (mkF m 336 #[.val (.long q0), .second, .val (.int p1), .val (.long q2), .second, .val (.long q3), .second, .val (.long q4), .second, .val (.int p5), .val (.int (3 : Int32)), .val (.double v11_187), .second, .val (.ref b188), .val (.ref b202), .val (.ref b_217), .val (.int (1 : Int32)), .val (.ref c_218), .unset, .unset] [(.int (2 : Int32)), (.ref c_218)])) rfl rfl (hb hby at_336) _ z_) ?_
    show OWay p e below G T249 (mkF m 337 #[.val (.long q0), .second, .val (.int p1), .val (.long q2), .second, .val (.long q3), .second, .val (.long q4), .second, .val (.int p5), .val (.int (3 : Int32)), .val (.double v11_187), .second, .val (.ref b188), .val (.ref b202), .val (.ref b_217), .val (.int (1 : Int32)), .val (.ref c_218), .unset, .unset] [(.long (q2 ^^^ (q3 ^^^ (-1 : Int64))))])
    refine ogo (fun _ z_ => XS.iconst X249.here hx rfl (hb hby at_337) z_) ?_
    show OWay p e below G T249 (mkF m 338 #[.val (.long q0), .second, .val (.int p1), .val (.long q2), .second, .val (.long q3), .second, .val (.long q4), .second, .val (.int p5), .val (.int (3 : Int32)), .val (.double v11_187), .second, .val (.ref b188), .val (.ref b202), .val (.ref b_217), .val (.int (1 : Int32)), .val (.ref c_218), .unset, .unset] [(.int (2 : Int32)), (.long (q2 ^^^ (q3 ^^^ (-1 : Int64))))])
    refine ogo (fun _ z_ => XS.lloadN X249.here hx rfl (hb hby at_338) rfl z_) ?_
    show OWay p e below G T249 (mkF m 339 #[.val (.long q0), .second, .val (.int p1), .val (.long q2), .second, .val (.long q3), .second, .val (.long q4), .second, .val (.int p5), .val (.int (3 : Int32)), .val (.double v11_187), .second, .val (.ref b188), .val (.ref b202), .val (.ref b_217), .val (.int (1 : Int32)), .val (.ref c_218), .unset, .unset] [(.long q2), (.int (2 : Int32)), (.long (q2 ^^^ (q3 ^^^ (-1 : Int64))))])
    refine ogo (fun _ z_ => XS.lload X249.here hx rfl (hb hby at_339) rfl z_) ?_
    show OWay p e below G T249 (mkF m 341 #[.val (.long q0), .second, .val (.int p1), .val (.long q2), .second, .val (.long q3), .second, .val (.long q4), .second, .val (.int p5), .val (.int (3 : Int32)), .val (.double v11_187), .second, .val (.ref b188), .val (.ref b202), .val (.ref b_217), .val (.int (1 : Int32)), .val (.ref c_218), .unset, .unset] [(.long q3), (.long q2), (.int (2 : Int32)), (.long (q2 ^^^ (q3 ^^^ (-1 : Int64))))])
    obtain ⟨_, T251, L251, X251, hQ251, st251⟩ := wStatic X249 hx hZ (y := (⟨"com/example/sito/sito/SliceCopyPinLaw", "expected", "(IJJ)J"⟩ : MethodName)) hown (hw _ (List.mem_of_getElem? (i := 72) rfl)) (hw _ (List.mem_of_getElem? (i := 73) rfl)) (hw _ (List.mem_of_getElem? (i := 74) rfl)) (hw _ (List.mem_of_getElem? (i := 75) rfl)) (by decide) (exp2_c l Z az hw [] q2 q3 T215.heap n0 (Nat.le_trans (Nat.le_trans (Nat.le_trans (Nat.le_trans (Nat.le_trans (Nat.le_trans (Nat.le_trans Z0 E188.1) (Keep.of_wr W192).1) (Keep.of_wr W196).1) (Keep.of_wr W200).1) E202.1) Kq205.1) Kq215.1)) 2 (by decide) (by decide) (g := (mkF m 341 #[.val (.long q0), .second, .val (.int p1), .val (.long q2), .second, .val (.long q3), .second, .val (.long q4), .second, .val (.int p5), .val (.int (3 : Int32)), .val (.double v11_187), .second, .val (.ref b188), .val (.ref b202), .val (.ref b_217), .val (.int (1 : Int32)), .val (.ref c_218), .unset, .unset] [(.long q3), (.long q2), (.int (2 : Int32)), (.long (q2 ^^^ (q3 ^^^ (-1 : Int64))))])) rfl (by rw [hml]; rfl) (argsL := [(.int (2 : Int32)), (.long q2), (.long q3)]) (rest := [(.long (q2 ^^^ (q3 ^^^ (-1 : Int64))))]) (lenOf pd__IJJ_J rfl) rfl (by show 2 * 0 + _ ≤ _; exact Nat.le_of_eq rfl) (hb hby at_341) rfl eq249 (by decide) (by decide)
    obtain ⟨rfl, N251q, eq251⟩ := hQ251
    have N251 := Fr.app N249 N251q
    refine ogo st251 ?_
    show OWay p e below G T251 (mkF m 344 #[.val (.long q0), .second, .val (.int p1), .val (.long q2), .second, .val (.long q3), .second, .val (.long q4), .second, .val (.int p5), .val (.int (3 : Int32)), .val (.double v11_187), .second, .val (.ref b188), .val (.ref b202), .val (.ref b_217), .val (.int (1 : Int32)), .val (.ref c_218), .unset, .unset] [(.long (q2 ^^^ (q3 ^^^ (-1 : Int64)))), (.long (q2 ^^^ (q3 ^^^ (-1 : Int64))))])
    refine ogo (fun _ z_ => XS.lcmp X251.here hx rfl (hb hby at_344) rfl z_) ?_
    show OWay p e below G T251 (mkF m 345 #[.val (.long q0), .second, .val (.int p1), .val (.long q2), .second, .val (.long q3), .second, .val (.long q4), .second, .val (.int p5), .val (.int (3 : Int32)), .val (.double v11_187), .second, .val (.ref b188), .val (.ref b202), .val (.ref b_217), .val (.int (1 : Int32)), .val (.ref c_218), .unset, .unset] [(.int (lcmpW (q2 ^^^ (q3 ^^^ (-1 : Int64))) (q2 ^^^ (q3 ^^^ (-1 : Int64)))))])
    refine ogo (fun _ z_ => XS.ifNo X251.here hx rfl (hb hby at_345) rfl ((if0 _ _).trans (teq ((lw_eq _ _).mpr rfl)).2) z_) ?_
    show OWay p e below G T251 (mkF m 348 #[.val (.long q0), .second, .val (.int p1), .val (.long q2), .second, .val (.long q3), .second, .val (.long q4), .second, .val (.int p5), .val (.int (3 : Int32)), .val (.double v11_187), .second, .val (.ref b188), .val (.ref b202), .val (.ref b_217), .val (.int (1 : Int32)), .val (.ref c_218), .unset, .unset] [])
    refine ogo (fun _ z_ => XS.iconst X251.here hx rfl (hb hby at_348) z_) ?_
    show OWay p e below G T251 (mkF m 349 #[.val (.long q0), .second, .val (.int p1), .val (.long q2), .second, .val (.long q3), .second, .val (.long q4), .second, .val (.int p5), .val (.int (3 : Int32)), .val (.double v11_187), .second, .val (.ref b188), .val (.ref b202), .val (.ref b_217), .val (.int (1 : Int32)), .val (.ref c_218), .unset, .unset] [(.int (1 : Int32))])
    refine ogo (fun _ z_ => XS.goto X251.here hx rfl (pc0 := 349) (pc' := 353) rfl (hb hby at_349) (by decide) (by decide) z_) ?_
    show OWay p e below G T251 (mkF m 353 #[.val (.long q0), .second, .val (.int p1), .val (.long q2), .second, .val (.long q3), .second, .val (.long q4), .second, .val (.int p5), .val (.int (3 : Int32)), .val (.double v11_187), .second, .val (.ref b188), .val (.ref b202), .val (.ref b_217), .val (.int (1 : Int32)), .val (.ref c_218), .unset, .unset] [(.int (1 : Int32))])
    refine ogo (fun _ z_ => XS.istore X251.here hx rfl (hb hby at_353) rfl (l' := #[.val (.long q0), .second, .val (.int p1), .val (.long q2), .second, .val (.long q3), .second, .val (.long q4), .second, .val (.int p5), .val (.int (3 : Int32)), .val (.double v11_187), .second, .val (.ref b188), .val (.ref b202), .val (.ref b_217), .val (.int (1 : Int32)), .val (.ref c_218), .unset, .unset]) rfl z_) ?_
    show OWay p e below G T251 (mkF m 355 #[.val (.long q0), .second, .val (.int p1), .val (.long q2), .second, .val (.long q3), .second, .val (.long q4), .second, .val (.int p5), .val (.int (3 : Int32)), .val (.double v11_187), .second, .val (.ref b188), .val (.ref b202), .val (.ref b_217), .val (.int (1 : Int32)), .val (.ref c_218), .unset, .unset] [])
    refine ogo (fun _ z_ => XS.iload X251.here hx rfl (hb hby at_355) rfl z_) ?_
    show OWay p e below G T251 (mkF m 357 #[.val (.long q0), .second, .val (.int p1), .val (.long q2), .second, .val (.long q3), .second, .val (.long q4), .second, .val (.int p5), .val (.int (3 : Int32)), .val (.double v11_187), .second, .val (.ref b188), .val (.ref b202), .val (.ref b_217), .val (.int (1 : Int32)), .val (.ref c_218), .unset, .unset] [(.int (1 : Int32))])
    refine ogo (fun _ z_ => XS.ifNo X251.here hx rfl (hb hby at_357) rfl ((if0 _ _).trans (feq (by decide)).1) z_) ?_
    show OWay p e below G T251 (mkF m 360 #[.val (.long q0), .second, .val (.int p1), .val (.long q2), .second, .val (.long q3), .second, .val (.long q4), .second, .val (.int p5), .val (.int (3 : Int32)), .val (.double v11_187), .second, .val (.ref b188), .val (.ref b202), .val (.ref b_217), .val (.int (1 : Int32)), .val (.ref c_218), .unset, .unset] [])
    refine ogo (fun _ z_ => XS.iload X251.here hx rfl (hb hby at_360) rfl z_) ?_
    show OWay p e below G T251 (mkF m 362 #[.val (.long q0), .second, .val (.int p1), .val (.long q2), .second, .val (.long q3), .second, .val (.long q4), .second, .val (.int p5), .val (.int (3 : Int32)), .val (.double v11_187), .second, .val (.ref b188), .val (.ref b202), .val (.ref b_217), .val (.int (1 : Int32)), .val (.ref c_218), .unset, .unset] [(.int (3 : Int32))])
    refine ogo (fun _ z_ => XS.ifNo X251.here hx rfl (hb hby at_362) rfl ((if0 _ _).trans (tlt (by decide)).2.2.2) z_) ?_
    show OWay p e below G T251 (mkF m 365 #[.val (.long q0), .second, .val (.int p1), .val (.long q2), .second, .val (.long q3), .second, .val (.long q4), .second, .val (.int p5), .val (.int (3 : Int32)), .val (.double v11_187), .second, .val (.ref b188), .val (.ref b202), .val (.ref b_217), .val (.int (1 : Int32)), .val (.ref c_218), .unset, .unset] [])
    refine ogo (fun _ z_ => XS.aload X251.here hx rfl (hb hby at_365) rfl rfl z_) ?_
    show OWay p e below G T251 (mkF m 367 #[.val (.long q0), .second, .val (.int p1), .val (.long q2), .second, .val (.long q3), .second, .val (.long q4), .second, .val (.int p5), .val (.int (3 : Int32)), .val (.double v11_187), .second, .val (.ref b188), .val (.ref b202), .val (.ref b_217), .val (.int (1 : Int32)), .val (.ref c_218), .unset, .unset] [(.ref c_218)])
    refine ogo (fun _ z_ => XS.iconst X251.here hx rfl (hb hby at_367) z_) ?_
    show OWay p e below G T251 (mkF m 368 #[.val (.long q0), .second, .val (.int p1), .val (.long q2), .second, .val (.long q3), .second, .val (.long q4), .second, .val (.int p5), .val (.int (3 : Int32)), .val (.double v11_187), .second, .val (.ref b188), .val (.ref b202), .val (.ref b_217), .val (.int (1 : Int32)), .val (.ref c_218), .unset, .unset] [(.int (0 : Int32)), (.ref c_218)])
    refine ogo (fun _ z_ => XS.aload X251.here hx rfl (hb hby at_368) rfl rfl z_) ?_
    show OWay p e below G T251 (mkF m 370 #[.val (.long q0), .second, .val (.int p1), .val (.long q2), .second, .val (.long q3), .second, .val (.long q4), .second, .val (.int p5), .val (.int (3 : Int32)), .val (.double v11_187), .second, .val (.ref b188), .val (.ref b202), .val (.ref b_217), .val (.int (1 : Int32)), .val (.ref c_218), .unset, .unset] [(.ref c_218), (.int (0 : Int32)), (.ref c_218)])
    refine ogo (fun _ z_ => XS.iconst X251.here hx rfl (hb hby at_370) z_) ?_
    show OWay p e below G T251 (mkF m 371 #[.val (.long q0), .second, .val (.int p1), .val (.long q2), .second, .val (.long q3), .second, .val (.long q4), .second, .val (.int p5), .val (.int (3 : Int32)), .val (.double v11_187), .second, .val (.ref b188), .val (.ref b202), .val (.ref b_217), .val (.int (1 : Int32)), .val (.ref c_218), .unset, .unset] [(.int (0 : Int32)), (.ref c_218), (.int (0 : Int32)), (.ref c_218)])
    obtain ⟨cl_o252, Ar_o252, q_o252, S_o252, N_o252, H_o252, G_o252⟩ := id P232
    have hin_o252 : ¬ ((0 : Int32) < 0 ∨ cl_o252.slots.size ≤ ((0 : Int32)).toNatClampNeg) := inb_of S_o252 ⟨by decide, by decide⟩
    have hat_o252 : cl_o252.slots[((0 : Int32)).toNatClampNeg]? = some (.long q2) := H_o252.at hin_o252 rfl
    refine ogo (fun _ z_ => X251.laload hx (j := (0 : Int32)) (v := (.long q2)) (by rw [eq251]; exact Ar_o252.1) (State.isArrayOf_alike hZ.alike Ar_o252.2.1) Ar_o252.2.2 hin_o252 hat_o252 (g := (mkF m 371 #[.val (.long q0), .second, .val (.int p1), .val (.long q2), .second, .val (.long q3), .second, .val (.long q4), .second, .val (.int p5), .val (.int (3 : Int32)), .val (.double v11_187), .second, .val (.ref b188), .val (.ref b202), .val (.ref b_217), .val (.int (1 : Int32)), .val (.ref c_218), .unset, .unset] [(.int (0 : Int32)), (.ref c_218), (.int (0 : Int32)), (.ref c_218)])) rfl rfl (hb hby at_371) _ z_) ?_
    show OWay p e below G T251 (mkF m 372 #[.val (.long q0), .second, .val (.int p1), .val (.long q2), .second, .val (.long q3), .second, .val (.long q4), .second, .val (.int p5), .val (.int (3 : Int32)), .val (.double v11_187), .second, .val (.ref b188), .val (.ref b202), .val (.ref b_217), .val (.int (1 : Int32)), .val (.ref c_218), .unset, .unset] [(.long q2), (.int (0 : Int32)), (.ref c_218)])
    refine ogo (fun _ z_ => X251.ldc2Long hx hown (mvT hZ (hw _ (List.mem_of_getElem? (i := 76) rfl))) (g := (mkF m 372 #[.val (.long q0), .second, .val (.int p1), .val (.long q2), .second, .val (.long q3), .second, .val (.long q4), .second, .val (.int p5), .val (.int (3 : Int32)), .val (.double v11_187), .second, .val (.ref b188), .val (.ref b202), .val (.ref b_217), .val (.int (1 : Int32)), .val (.ref c_218), .unset, .unset] [(.long q2), (.int (0 : Int32)), (.ref c_218)])) rfl (hb hby at_372) _ z_) ?_
    show OWay p e below G T251 (mkF m 375 #[.val (.long q0), .second, .val (.int p1), .val (.long q2), .second, .val (.long q3), .second, .val (.long q4), .second, .val (.int p5), .val (.int (3 : Int32)), .val (.double v11_187), .second, .val (.ref b188), .val (.ref b202), .val (.ref b_217), .val (.int (1 : Int32)), .val (.ref c_218), .unset, .unset] [(.long (-1 : Int64)), (.long q2), (.int (0 : Int32)), (.ref c_218)])
    refine ogo (fun _ z_ => XS.lxor X251.here hx rfl (hb hby at_375) rfl z_) ?_
    show OWay p e below G T251 (mkF m 376 #[.val (.long q0), .second, .val (.int p1), .val (.long q2), .second, .val (.long q3), .second, .val (.long q4), .second, .val (.int p5), .val (.int (3 : Int32)), .val (.double v11_187), .second, .val (.ref b188), .val (.ref b202), .val (.ref b_217), .val (.int (1 : Int32)), .val (.ref c_218), .unset, .unset] [(.long (q2 ^^^ (-1 : Int64))), (.int (0 : Int32)), (.ref c_218)])
    obtain ⟨cl_o253, Ar_o253, q_o253, S_o253, N_o253, H_o253, G_o253⟩ := id P232
    have hin_o253 : ¬ ((0 : Int32) < 0 ∨ cl_o253.slots.size ≤ ((0 : Int32)).toNatClampNeg) := inb_of S_o253 ⟨by decide, by decide⟩
    obtain ⟨T254, h254, X254, eT254, W254, st254⟩ := stJ X251 hx hZ eq251 Ar_o253 (j := (0 : Int32)) hin_o253 (g := (mkF m 376 #[.val (.long q0), .second, .val (.int p1), .val (.long q2), .second, .val (.long q3), .second, .val (.long q4), .second, .val (.int p5), .val (.int (3 : Int32)), .val (.double v11_187), .second, .val (.ref b188), .val (.ref b202), .val (.ref b_217), .val (.int (1 : Int32)), .val (.ref c_218), .unset, .unset] [(.long (q2 ^^^ (-1 : Int64))), (.int (0 : Int32)), (.ref c_218)])) rfl rfl (hb hby at_376)
    have K255 : Keep h0 h254 [] := K233.wr W254 (Or.inr sz_c_218)
    have V_254 : Arv Z h254 c_218 kc_219 .long (3 : Int32) [(.long (q2 ^^^ (-1 : Int64))), (.long q3), (.long (q2 ^^^ (q3 ^^^ (-1 : Int64))))] (.long (0 : Int64)) := Arv.set Ar_o253 q_o253 S_o253 N_o253 H_o253 G_o253 rfl W254 0 rfl (Nat.le_of_ble_eq_true rfl)
    have N254 := Fr.snoc X254 N251 g_c_218
    refine ogo st254 ?_
    show OWay p e below G T254 (mkF m 377 #[.val (.long q0), .second, .val (.int p1), .val (.long q2), .second, .val (.long q3), .second, .val (.long q4), .second, .val (.int p5), .val (.int (3 : Int32)), .val (.double v11_187), .second, .val (.ref b188), .val (.ref b202), .val (.ref b_217), .val (.int (1 : Int32)), .val (.ref c_218), .unset, .unset] [])
    refine ogo (fun _ z_ => XS.aload X254.here hx rfl (hb hby at_377) rfl rfl z_) ?_
    show OWay p e below G T254 (mkF m 379 #[.val (.long q0), .second, .val (.int p1), .val (.long q2), .second, .val (.long q3), .second, .val (.long q4), .second, .val (.int p5), .val (.int (3 : Int32)), .val (.double v11_187), .second, .val (.ref b188), .val (.ref b202), .val (.ref b_217), .val (.int (1 : Int32)), .val (.ref c_218), .unset, .unset] [(.ref b188)])
    refine ogo (fun _ z_ => XS.iconst X254.here hx rfl (hb hby at_379) z_) ?_
    show OWay p e below G T254 (mkF m 380 #[.val (.long q0), .second, .val (.int p1), .val (.long q2), .second, .val (.long q3), .second, .val (.long q4), .second, .val (.int p5), .val (.int (3 : Int32)), .val (.double v11_187), .second, .val (.ref b188), .val (.ref b202), .val (.ref b_217), .val (.int (1 : Int32)), .val (.ref c_218), .unset, .unset] [(.int (0 : Int32)), (.ref b188)])
    have F256 : Arv Z h254 b188 k188 .long (3 : Int32) [(.long q2), (.long q3), (.long (q2 ^^^ (q3 ^^^ (-1 : Int64))))] (.long (0 : Int64)) := ((F213.keep Kq215 nin0).other W254 (Nat.ne_of_lt (Nat.lt_of_lt_of_le F213.lt P223)))
    obtain ⟨cl_o257, Ar_o257, q_o257, S_o257, N_o257, H_o257, G_o257⟩ := id F256
    have hin_o257 : ¬ ((0 : Int32) < 0 ∨ cl_o257.slots.size ≤ ((0 : Int32)).toNatClampNeg) := inb_of S_o257 ⟨by decide, by decide⟩
    have hat_o257 : cl_o257.slots[((0 : Int32)).toNatClampNeg]? = some (.long q2) := H_o257.at hin_o257 rfl
    refine ogo (fun _ z_ => X254.laload hx (j := (0 : Int32)) (v := (.long q2)) (by rw [eT254]; exact Ar_o257.1) (State.isArrayOf_alike hZ.alike Ar_o257.2.1) Ar_o257.2.2 hin_o257 hat_o257 (g := (mkF m 380 #[.val (.long q0), .second, .val (.int p1), .val (.long q2), .second, .val (.long q3), .second, .val (.long q4), .second, .val (.int p5), .val (.int (3 : Int32)), .val (.double v11_187), .second, .val (.ref b188), .val (.ref b202), .val (.ref b_217), .val (.int (1 : Int32)), .val (.ref c_218), .unset, .unset] [(.int (0 : Int32)), (.ref b188)])) rfl rfl (hb hby at_380) _ z_) ?_
    show OWay p e below G T254 (mkF m 381 #[.val (.long q0), .second, .val (.int p1), .val (.long q2), .second, .val (.long q3), .second, .val (.long q4), .second, .val (.int p5), .val (.int (3 : Int32)), .val (.double v11_187), .second, .val (.ref b188), .val (.ref b202), .val (.ref b_217), .val (.int (1 : Int32)), .val (.ref c_218), .unset, .unset] [(.long q2)])
    refine ogo (fun _ z_ => XS.lloadN X254.here hx rfl (hb hby at_381) rfl z_) ?_
    show OWay p e below G T254 (mkF m 382 #[.val (.long q0), .second, .val (.int p1), .val (.long q2), .second, .val (.long q3), .second, .val (.long q4), .second, .val (.int p5), .val (.int (3 : Int32)), .val (.double v11_187), .second, .val (.ref b188), .val (.ref b202), .val (.ref b_217), .val (.int (1 : Int32)), .val (.ref c_218), .unset, .unset] [(.long q2), (.long q2)])
    refine ogo (fun _ z_ => XS.lcmp X254.here hx rfl (hb hby at_382) rfl z_) ?_
    show OWay p e below G T254 (mkF m 383 #[.val (.long q0), .second, .val (.int p1), .val (.long q2), .second, .val (.long q3), .second, .val (.long q4), .second, .val (.int p5), .val (.int (3 : Int32)), .val (.double v11_187), .second, .val (.ref b188), .val (.ref b202), .val (.ref b_217), .val (.int (1 : Int32)), .val (.ref c_218), .unset, .unset] [(.int (lcmpW q2 q2))])
    refine ogo (fun _ z_ => XS.ifNo X254.here hx rfl (hb hby at_383) rfl ((if0 _ _).trans (teq ((lw_eq _ _).mpr rfl)).2) z_) ?_
    show OWay p e below G T254 (mkF m 386 #[.val (.long q0), .second, .val (.int p1), .val (.long q2), .second, .val (.long q3), .second, .val (.long q4), .second, .val (.int p5), .val (.int (3 : Int32)), .val (.double v11_187), .second, .val (.ref b188), .val (.ref b202), .val (.ref b_217), .val (.int (1 : Int32)), .val (.ref c_218), .unset, .unset] [])
    refine ogo (fun _ z_ => XS.iconst X254.here hx rfl (hb hby at_386) z_) ?_
    show OWay p e below G T254 (mkF m 387 #[.val (.long q0), .second, .val (.int p1), .val (.long q2), .second, .val (.long q3), .second, .val (.long q4), .second, .val (.int p5), .val (.int (3 : Int32)), .val (.double v11_187), .second, .val (.ref b188), .val (.ref b202), .val (.ref b_217), .val (.int (1 : Int32)), .val (.ref c_218), .unset, .unset] [(.int (1 : Int32))])
    refine ogo (fun _ z_ => XS.goto X254.here hx rfl (pc0 := 387) (pc' := 391) rfl (hb hby at_387) (by decide) (by decide) z_) ?_
    show OWay p e below G T254 (mkF m 391 #[.val (.long q0), .second, .val (.int p1), .val (.long q2), .second, .val (.long q3), .second, .val (.long q4), .second, .val (.int p5), .val (.int (3 : Int32)), .val (.double v11_187), .second, .val (.ref b188), .val (.ref b202), .val (.ref b_217), .val (.int (1 : Int32)), .val (.ref c_218), .unset, .unset] [(.int (1 : Int32))])
    refine ogo (fun _ z_ => XS.istore X254.here hx rfl (hb hby at_391) rfl (l' := #[.val (.long q0), .second, .val (.int p1), .val (.long q2), .second, .val (.long q3), .second, .val (.long q4), .second, .val (.int p5), .val (.int (3 : Int32)), .val (.double v11_187), .second, .val (.ref b188), .val (.ref b202), .val (.ref b_217), .val (.int (1 : Int32)), .val (.ref c_218), .unset, .unset]) rfl z_) ?_
    show OWay p e below G T254 (mkF m 393 #[.val (.long q0), .second, .val (.int p1), .val (.long q2), .second, .val (.long q3), .second, .val (.long q4), .second, .val (.int p5), .val (.int (3 : Int32)), .val (.double v11_187), .second, .val (.ref b188), .val (.ref b202), .val (.ref b_217), .val (.int (1 : Int32)), .val (.ref c_218), .unset, .unset] [])
    refine ogo (fun _ z_ => XS.aload X254.here hx rfl (hb hby at_393) rfl rfl z_) ?_
    show OWay p e below G T254 (mkF m 395 #[.val (.long q0), .second, .val (.int p1), .val (.long q2), .second, .val (.long q3), .second, .val (.long q4), .second, .val (.int p5), .val (.int (3 : Int32)), .val (.double v11_187), .second, .val (.ref b188), .val (.ref b202), .val (.ref b_217), .val (.int (1 : Int32)), .val (.ref c_218), .unset, .unset] [(.ref b188)])
    refine ogo (fun _ z_ => XS.iload X254.here hx rfl (hb hby at_395) rfl z_) ?_
    show OWay p e below G T254 (mkF m 397 #[.val (.long q0), .second, .val (.int p1), .val (.long q2), .second, .val (.long q3), .second, .val (.long q4), .second, .val (.int p5), .val (.int (3 : Int32)), .val (.double v11_187), .second, .val (.ref b188), .val (.ref b202), .val (.ref b_217), .val (.int (1 : Int32)), .val (.ref c_218), .unset, .unset] [(.int (3 : Int32)), (.ref b188)])
    refine ogo (fun _ z_ => XS.iconst X254.here hx rfl (hb hby at_397) z_) ?_
    show OWay p e below G T254 (mkF m 398 #[.val (.long q0), .second, .val (.int p1), .val (.long q2), .second, .val (.long q3), .second, .val (.long q4), .second, .val (.int p5), .val (.int (3 : Int32)), .val (.double v11_187), .second, .val (.ref b188), .val (.ref b202), .val (.ref b_217), .val (.int (1 : Int32)), .val (.ref c_218), .unset, .unset] [(.int (1 : Int32)), (.int (3 : Int32)), (.ref b188)])
    refine ogo (fun _ z_ => XS.isub X254.here hx rfl (hb hby at_398) rfl z_) ?_
    show OWay p e below G T254 (mkF m 399 #[.val (.long q0), .second, .val (.int p1), .val (.long q2), .second, .val (.long q3), .second, .val (.long q4), .second, .val (.int p5), .val (.int (3 : Int32)), .val (.double v11_187), .second, .val (.ref b188), .val (.ref b202), .val (.ref b_217), .val (.int (1 : Int32)), .val (.ref c_218), .unset, .unset] [(.int ((3 : Int32) - (1 : Int32))), (.ref b188)])
    refine ogoE (g' := (mkF m 399 #[.val (.long q0), .second, .val (.int p1), .val (.long q2), .second, .val (.long q3), .second, .val (.long q4), .second, .val (.int p5), .val (.int (3 : Int32)), .val (.double v11_187), .second, .val (.ref b188), .val (.ref b202), .val (.ref b_217), .val (.int (1 : Int32)), .val (.ref c_218), .unset, .unset] [(.int (2 : Int32)), (.ref b188)])) (by rw [show ((3 : Int32) - (1 : Int32)) = (2 : Int32) from by decide]) ?_
    refine ogo (fun _ z_ => XS.aload X254.here hx rfl (hb hby at_399) rfl rfl z_) ?_
    show OWay p e below G T254 (mkF m 401 #[.val (.long q0), .second, .val (.int p1), .val (.long q2), .second, .val (.long q3), .second, .val (.long q4), .second, .val (.int p5), .val (.int (3 : Int32)), .val (.double v11_187), .second, .val (.ref b188), .val (.ref b202), .val (.ref b_217), .val (.int (1 : Int32)), .val (.ref c_218), .unset, .unset] [(.ref b188), (.int (2 : Int32)), (.ref b188)])
    refine ogo (fun _ z_ => XS.iload X254.here hx rfl (hb hby at_401) rfl z_) ?_
    show OWay p e below G T254 (mkF m 403 #[.val (.long q0), .second, .val (.int p1), .val (.long q2), .second, .val (.long q3), .second, .val (.long q4), .second, .val (.int p5), .val (.int (3 : Int32)), .val (.double v11_187), .second, .val (.ref b188), .val (.ref b202), .val (.ref b_217), .val (.int (1 : Int32)), .val (.ref c_218), .unset, .unset] [(.int (3 : Int32)), (.ref b188), (.int (2 : Int32)), (.ref b188)])
    refine ogo (fun _ z_ => XS.iconst X254.here hx rfl (hb hby at_403) z_) ?_
    show OWay p e below G T254 (mkF m 404 #[.val (.long q0), .second, .val (.int p1), .val (.long q2), .second, .val (.long q3), .second, .val (.long q4), .second, .val (.int p5), .val (.int (3 : Int32)), .val (.double v11_187), .second, .val (.ref b188), .val (.ref b202), .val (.ref b_217), .val (.int (1 : Int32)), .val (.ref c_218), .unset, .unset] [(.int (1 : Int32)), (.int (3 : Int32)), (.ref b188), (.int (2 : Int32)), (.ref b188)])
    refine ogo (fun _ z_ => XS.isub X254.here hx rfl (hb hby at_404) rfl z_) ?_
    show OWay p e below G T254 (mkF m 405 #[.val (.long q0), .second, .val (.int p1), .val (.long q2), .second, .val (.long q3), .second, .val (.long q4), .second, .val (.int p5), .val (.int (3 : Int32)), .val (.double v11_187), .second, .val (.ref b188), .val (.ref b202), .val (.ref b_217), .val (.int (1 : Int32)), .val (.ref c_218), .unset, .unset] [(.int ((3 : Int32) - (1 : Int32))), (.ref b188), (.int (2 : Int32)), (.ref b188)])
    refine ogoE (g' := (mkF m 405 #[.val (.long q0), .second, .val (.int p1), .val (.long q2), .second, .val (.long q3), .second, .val (.long q4), .second, .val (.int p5), .val (.int (3 : Int32)), .val (.double v11_187), .second, .val (.ref b188), .val (.ref b202), .val (.ref b_217), .val (.int (1 : Int32)), .val (.ref c_218), .unset, .unset] [(.int (2 : Int32)), (.ref b188), (.int (2 : Int32)), (.ref b188)])) (by rw [show ((3 : Int32) - (1 : Int32)) = (2 : Int32) from by decide]) ?_
    obtain ⟨cl_o258, Ar_o258, q_o258, S_o258, N_o258, H_o258, G_o258⟩ := id F256
    have hin_o258 : ¬ ((2 : Int32) < 0 ∨ cl_o258.slots.size ≤ ((2 : Int32)).toNatClampNeg) := inb_of S_o258 ⟨by decide, by decide⟩
    have hat_o258 : cl_o258.slots[((2 : Int32)).toNatClampNeg]? = some (.long (q2 ^^^ (q3 ^^^ (-1 : Int64)))) := H_o258.at hin_o258 rfl
    refine ogo (fun _ z_ => X254.laload hx (j := (2 : Int32)) (v := (.long (q2 ^^^ (q3 ^^^ (-1 : Int64))))) (by rw [eT254]; exact Ar_o258.1) (State.isArrayOf_alike hZ.alike Ar_o258.2.1) Ar_o258.2.2 hin_o258 hat_o258 (g := (mkF m 405 #[.val (.long q0), .second, .val (.int p1), .val (.long q2), .second, .val (.long q3), .second, .val (.long q4), .second, .val (.int p5), .val (.int (3 : Int32)), .val (.double v11_187), .second, .val (.ref b188), .val (.ref b202), .val (.ref b_217), .val (.int (1 : Int32)), .val (.ref c_218), .unset, .unset] [(.int (2 : Int32)), (.ref b188), (.int (2 : Int32)), (.ref b188)])) rfl rfl (hb hby at_405) _ z_) ?_
    show OWay p e below G T254 (mkF m 406 #[.val (.long q0), .second, .val (.int p1), .val (.long q2), .second, .val (.long q3), .second, .val (.long q4), .second, .val (.int p5), .val (.int (3 : Int32)), .val (.double v11_187), .second, .val (.ref b188), .val (.ref b202), .val (.ref b_217), .val (.int (1 : Int32)), .val (.ref c_218), .unset, .unset] [(.long (q2 ^^^ (q3 ^^^ (-1 : Int64)))), (.int (2 : Int32)), (.ref b188)])
    refine ogo (fun _ z_ => X254.ldc2Long hx hown (mvT hZ (hw _ (List.mem_of_getElem? (i := 76) rfl))) (g := (mkF m 406 #[.val (.long q0), .second, .val (.int p1), .val (.long q2), .second, .val (.long q3), .second, .val (.long q4), .second, .val (.int p5), .val (.int (3 : Int32)), .val (.double v11_187), .second, .val (.ref b188), .val (.ref b202), .val (.ref b_217), .val (.int (1 : Int32)), .val (.ref c_218), .unset, .unset] [(.long (q2 ^^^ (q3 ^^^ (-1 : Int64)))), (.int (2 : Int32)), (.ref b188)])) rfl (hb hby at_406) _ z_) ?_
    show OWay p e below G T254 (mkF m 409 #[.val (.long q0), .second, .val (.int p1), .val (.long q2), .second, .val (.long q3), .second, .val (.long q4), .second, .val (.int p5), .val (.int (3 : Int32)), .val (.double v11_187), .second, .val (.ref b188), .val (.ref b202), .val (.ref b_217), .val (.int (1 : Int32)), .val (.ref c_218), .unset, .unset] [(.long (-1 : Int64)), (.long (q2 ^^^ (q3 ^^^ (-1 : Int64)))), (.int (2 : Int32)), (.ref b188)])
    refine ogo (fun _ z_ => XS.lxor X254.here hx rfl (hb hby at_409) rfl z_) ?_
    show OWay p e below G T254 (mkF m 410 #[.val (.long q0), .second, .val (.int p1), .val (.long q2), .second, .val (.long q3), .second, .val (.long q4), .second, .val (.int p5), .val (.int (3 : Int32)), .val (.double v11_187), .second, .val (.ref b188), .val (.ref b202), .val (.ref b_217), .val (.int (1 : Int32)), .val (.ref c_218), .unset, .unset] [(.long ((q2 ^^^ (q3 ^^^ (-1 : Int64))) ^^^ (-1 : Int64))), (.int (2 : Int32)), (.ref b188)])
    obtain ⟨cl_o259, Ar_o259, q_o259, S_o259, N_o259, H_o259, G_o259⟩ := id F256
    have hin_o259 : ¬ ((2 : Int32) < 0 ∨ cl_o259.slots.size ≤ ((2 : Int32)).toNatClampNeg) := inb_of S_o259 ⟨by decide, by decide⟩
    obtain ⟨T260, h260, X260, eT260, W260, st260⟩ := stJ X254 hx hZ eT254 Ar_o259 (j := (2 : Int32)) hin_o259 (g := (mkF m 410 #[.val (.long q0), .second, .val (.int p1), .val (.long q2), .second, .val (.long q3), .second, .val (.long q4), .second, .val (.int p5), .val (.int (3 : Int32)), .val (.double v11_187), .second, .val (.ref b188), .val (.ref b202), .val (.ref b_217), .val (.int (1 : Int32)), .val (.ref c_218), .unset, .unset] [(.long ((q2 ^^^ (q3 ^^^ (-1 : Int64))) ^^^ (-1 : Int64))), (.int (2 : Int32)), (.ref b188)])) rfl rfl (hb hby at_410)
    have K261 : Keep h0 h260 [] := K255.wr W260 (Or.inr sz_b188)
    have V_260 : Arv Z h260 b188 k188 .long (3 : Int32) [(.long q2), (.long q3), (.long ((q2 ^^^ (q3 ^^^ (-1 : Int64))) ^^^ (-1 : Int64)))] (.long (0 : Int64)) := Arv.set Ar_o259 q_o259 S_o259 N_o259 H_o259 G_o259 rfl W260 2 rfl (Nat.le_of_ble_eq_true rfl)
    have N260 := Fr.snoc X260 N254 g_b188
    refine ogo st260 ?_
    show OWay p e below G T260 (mkF m 411 #[.val (.long q0), .second, .val (.int p1), .val (.long q2), .second, .val (.long q3), .second, .val (.long q4), .second, .val (.int p5), .val (.int (3 : Int32)), .val (.double v11_187), .second, .val (.ref b188), .val (.ref b202), .val (.ref b_217), .val (.int (1 : Int32)), .val (.ref c_218), .unset, .unset] [])
    refine ogo (fun _ z_ => XS.iload X260.here hx rfl (hb hby at_411) rfl z_) ?_
    show OWay p e below G T260 (mkF m 413 #[.val (.long q0), .second, .val (.int p1), .val (.long q2), .second, .val (.long q3), .second, .val (.long q4), .second, .val (.int p5), .val (.int (3 : Int32)), .val (.double v11_187), .second, .val (.ref b188), .val (.ref b202), .val (.ref b_217), .val (.int (1 : Int32)), .val (.ref c_218), .unset, .unset] [(.int (3 : Int32))])
    refine ogo (fun _ z_ => XS.iconst X260.here hx rfl (hb hby at_413) z_) ?_
    show OWay p e below G T260 (mkF m 414 #[.val (.long q0), .second, .val (.int p1), .val (.long q2), .second, .val (.long q3), .second, .val (.long q4), .second, .val (.int p5), .val (.int (3 : Int32)), .val (.double v11_187), .second, .val (.ref b188), .val (.ref b202), .val (.ref b_217), .val (.int (1 : Int32)), .val (.ref c_218), .unset, .unset] [(.int (1 : Int32)), (.int (3 : Int32))])
    refine ogo (fun _ z_ => XS.icmpYes X260.here hx rfl (pc0 := 414) (pc' := 425) rfl (hb hby at_414) rfl (feq (by decide)).2 (by decide) (by decide) z_) ?_
    show OWay p e below G T260 (mkF m 425 #[.val (.long q0), .second, .val (.int p1), .val (.long q2), .second, .val (.long q3), .second, .val (.long q4), .second, .val (.int p5), .val (.int (3 : Int32)), .val (.double v11_187), .second, .val (.ref b188), .val (.ref b202), .val (.ref b_217), .val (.int (1 : Int32)), .val (.ref c_218), .unset, .unset] [])
    refine ogo (fun _ z_ => XS.iload X260.here hx rfl (hb hby at_425) rfl z_) ?_
    show OWay p e below G T260 (mkF m 427 #[.val (.long q0), .second, .val (.int p1), .val (.long q2), .second, .val (.long q3), .second, .val (.long q4), .second, .val (.int p5), .val (.int (3 : Int32)), .val (.double v11_187), .second, .val (.ref b188), .val (.ref b202), .val (.ref b_217), .val (.int (1 : Int32)), .val (.ref c_218), .unset, .unset] [(.int (3 : Int32))])
    refine ogo (fun _ z_ => XS.iconst X260.here hx rfl (hb hby at_427) z_) ?_
    show OWay p e below G T260 (mkF m 428 #[.val (.long q0), .second, .val (.int p1), .val (.long q2), .second, .val (.long q3), .second, .val (.long q4), .second, .val (.int p5), .val (.int (3 : Int32)), .val (.double v11_187), .second, .val (.ref b188), .val (.ref b202), .val (.ref b_217), .val (.int (1 : Int32)), .val (.ref c_218), .unset, .unset] [(.int (1 : Int32)), (.int (3 : Int32))])
    refine ogo (fun _ z_ => XS.isub X260.here hx rfl (hb hby at_428) rfl z_) ?_
    show OWay p e below G T260 (mkF m 429 #[.val (.long q0), .second, .val (.int p1), .val (.long q2), .second, .val (.long q3), .second, .val (.long q4), .second, .val (.int p5), .val (.int (3 : Int32)), .val (.double v11_187), .second, .val (.ref b188), .val (.ref b202), .val (.ref b_217), .val (.int (1 : Int32)), .val (.ref c_218), .unset, .unset] [(.int ((3 : Int32) - (1 : Int32)))])
    refine ogoE (g' := (mkF m 429 #[.val (.long q0), .second, .val (.int p1), .val (.long q2), .second, .val (.long q3), .second, .val (.long q4), .second, .val (.int p5), .val (.int (3 : Int32)), .val (.double v11_187), .second, .val (.ref b188), .val (.ref b202), .val (.ref b_217), .val (.int (1 : Int32)), .val (.ref c_218), .unset, .unset] [(.int (2 : Int32))])) (by rw [show ((3 : Int32) - (1 : Int32)) = (2 : Int32) from by decide]) ?_
    refine ogo (fun _ z_ => XS.lloadN X260.here hx rfl (hb hby at_429) rfl z_) ?_
    show OWay p e below G T260 (mkF m 430 #[.val (.long q0), .second, .val (.int p1), .val (.long q2), .second, .val (.long q3), .second, .val (.long q4), .second, .val (.int p5), .val (.int (3 : Int32)), .val (.double v11_187), .second, .val (.ref b188), .val (.ref b202), .val (.ref b_217), .val (.int (1 : Int32)), .val (.ref c_218), .unset, .unset] [(.long q2), (.int (2 : Int32))])
    refine ogo (fun _ z_ => XS.lload X260.here hx rfl (hb hby at_430) rfl z_) ?_
    show OWay p e below G T260 (mkF m 432 #[.val (.long q0), .second, .val (.int p1), .val (.long q2), .second, .val (.long q3), .second, .val (.long q4), .second, .val (.int p5), .val (.int (3 : Int32)), .val (.double v11_187), .second, .val (.ref b188), .val (.ref b202), .val (.ref b_217), .val (.int (1 : Int32)), .val (.ref c_218), .unset, .unset] [(.long q3), (.long q2), (.int (2 : Int32))])
    obtain ⟨_, T262, L262, X262, hQ262, st262⟩ := wStatic X260 hx hZ (y := (⟨"com/example/sito/sito/SliceCopyPinLaw", "expected", "(IJJ)J"⟩ : MethodName)) hown (hw _ (List.mem_of_getElem? (i := 72) rfl)) (hw _ (List.mem_of_getElem? (i := 73) rfl)) (hw _ (List.mem_of_getElem? (i := 74) rfl)) (hw _ (List.mem_of_getElem? (i := 75) rfl)) (by decide) (exp2_c l Z az hw [] q2 q3 h260 n0 (Nat.le_trans (Nat.le_trans (Nat.le_trans (Nat.le_trans (Nat.le_trans (Nat.le_trans (Nat.le_trans (Nat.le_trans (Nat.le_trans Z0 E188.1) (Keep.of_wr W192).1) (Keep.of_wr W196).1) (Keep.of_wr W200).1) E202.1) Kq205.1) Kq215.1) (Keep.of_wr W254).1) (Keep.of_wr W260).1)) 0 (by decide) (by decide) (g := (mkF m 432 #[.val (.long q0), .second, .val (.int p1), .val (.long q2), .second, .val (.long q3), .second, .val (.long q4), .second, .val (.int p5), .val (.int (3 : Int32)), .val (.double v11_187), .second, .val (.ref b188), .val (.ref b202), .val (.ref b_217), .val (.int (1 : Int32)), .val (.ref c_218), .unset, .unset] [(.long q3), (.long q2), (.int (2 : Int32))])) rfl (by rw [hml]; rfl) (argsL := [(.int (2 : Int32)), (.long q2), (.long q3)]) (rest := []) (lenOf pd__IJJ_J rfl) rfl (by show 2 * 0 + _ ≤ _; exact Nat.le_of_eq rfl) (hb hby at_432) rfl eT260 (by decide) (by decide)
    obtain ⟨rfl, N262q, eq262⟩ := hQ262
    have N262 := Fr.app N260 N262q
    refine ogo st262 ?_
    show OWay p e below G T262 (mkF m 435 #[.val (.long q0), .second, .val (.int p1), .val (.long q2), .second, .val (.long q3), .second, .val (.long q4), .second, .val (.int p5), .val (.int (3 : Int32)), .val (.double v11_187), .second, .val (.ref b188), .val (.ref b202), .val (.ref b_217), .val (.int (1 : Int32)), .val (.ref c_218), .unset, .unset] [(.long (q2 ^^^ (q3 ^^^ (-1 : Int64))))])
    suffices Jv18_263 : ∀ v18_263 : Int64, v18_263 = (q2 ^^^ (q3 ^^^ (-1 : Int64))) → OWay p e below G T262 (mkF m 435 #[.val (.long q0), .second, .val (.int p1), .val (.long q2), .second, .val (.long q3), .second, .val (.long q4), .second, .val (.int p5), .val (.int (3 : Int32)), .val (.double v11_187), .second, .val (.ref b188), .val (.ref b202), .val (.ref b_217), .val (.int (1 : Int32)), .val (.ref c_218), .unset, .unset] [(.long v18_263)]) from Jv18_263 _ rfl
    intro v18_263 hv18_263
    refine ogo (fun _ z_ => XS.lstore X262.here hx rfl (hb hby at_435) rfl (l' := #[.val (.long q0), .second, .val (.int p1), .val (.long q2), .second, .val (.long q3), .second, .val (.long q4), .second, .val (.int p5), .val (.int (3 : Int32)), .val (.double v11_187), .second, .val (.ref b188), .val (.ref b202), .val (.ref b_217), .val (.int (1 : Int32)), .val (.ref c_218), .val (.long v18_263), .second]) rfl z_) ?_
    show OWay p e below G T262 (mkF m 437 #[.val (.long q0), .second, .val (.int p1), .val (.long q2), .second, .val (.long q3), .second, .val (.long q4), .second, .val (.int p5), .val (.int (3 : Int32)), .val (.double v11_187), .second, .val (.ref b188), .val (.ref b202), .val (.ref b_217), .val (.int (1 : Int32)), .val (.ref c_218), .val (.long v18_263), .second] [])
    refine ogo (fun _ z_ => XS.iload X262.here hx rfl (hb hby at_437) rfl z_) ?_
    show OWay p e below G T262 (mkF m 439 #[.val (.long q0), .second, .val (.int p1), .val (.long q2), .second, .val (.long q3), .second, .val (.long q4), .second, .val (.int p5), .val (.int (3 : Int32)), .val (.double v11_187), .second, .val (.ref b188), .val (.ref b202), .val (.ref b_217), .val (.int (1 : Int32)), .val (.ref c_218), .val (.long v18_263), .second] [(.int (1 : Int32))])
    refine ogo (fun _ z_ => XS.ifNo X262.here hx rfl (hb hby at_439) rfl ((if0 _ _).trans (feq (by decide)).1) z_) ?_
    show OWay p e below G T262 (mkF m 442 #[.val (.long q0), .second, .val (.int p1), .val (.long q2), .second, .val (.long q3), .second, .val (.long q4), .second, .val (.int p5), .val (.int (3 : Int32)), .val (.double v11_187), .second, .val (.ref b188), .val (.ref b202), .val (.ref b_217), .val (.int (1 : Int32)), .val (.ref c_218), .val (.long v18_263), .second] [])
    refine ogo (fun _ z_ => XS.aload X262.here hx rfl (hb hby at_442) rfl rfl z_) ?_
    show OWay p e below G T262 (mkF m 444 #[.val (.long q0), .second, .val (.int p1), .val (.long q2), .second, .val (.long q3), .second, .val (.long q4), .second, .val (.int p5), .val (.int (3 : Int32)), .val (.double v11_187), .second, .val (.ref b188), .val (.ref b202), .val (.ref b_217), .val (.int (1 : Int32)), .val (.ref c_218), .val (.long v18_263), .second] [(.ref c_218)])
    refine ogo (fun _ z_ => XS.iload X262.here hx rfl (hb hby at_444) rfl z_) ?_
    show OWay p e below G T262 (mkF m 446 #[.val (.long q0), .second, .val (.int p1), .val (.long q2), .second, .val (.long q3), .second, .val (.long q4), .second, .val (.int p5), .val (.int (3 : Int32)), .val (.double v11_187), .second, .val (.ref b188), .val (.ref b202), .val (.ref b_217), .val (.int (1 : Int32)), .val (.ref c_218), .val (.long v18_263), .second] [(.int (3 : Int32)), (.ref c_218)])
    refine ogo (fun _ z_ => XS.iconst X262.here hx rfl (hb hby at_446) z_) ?_
    show OWay p e below G T262 (mkF m 447 #[.val (.long q0), .second, .val (.int p1), .val (.long q2), .second, .val (.long q3), .second, .val (.long q4), .second, .val (.int p5), .val (.int (3 : Int32)), .val (.double v11_187), .second, .val (.ref b188), .val (.ref b202), .val (.ref b_217), .val (.int (1 : Int32)), .val (.ref c_218), .val (.long v18_263), .second] [(.int (1 : Int32)), (.int (3 : Int32)), (.ref c_218)])
    refine ogo (fun _ z_ => XS.isub X262.here hx rfl (hb hby at_447) rfl z_) ?_
    show OWay p e below G T262 (mkF m 448 #[.val (.long q0), .second, .val (.int p1), .val (.long q2), .second, .val (.long q3), .second, .val (.long q4), .second, .val (.int p5), .val (.int (3 : Int32)), .val (.double v11_187), .second, .val (.ref b188), .val (.ref b202), .val (.ref b_217), .val (.int (1 : Int32)), .val (.ref c_218), .val (.long v18_263), .second] [(.int ((3 : Int32) - (1 : Int32))), (.ref c_218)])
    refine ogoE (g' := (mkF m 448 #[.val (.long q0), .second, .val (.int p1), .val (.long q2), .second, .val (.long q3), .second, .val (.long q4), .second, .val (.int p5), .val (.int (3 : Int32)), .val (.double v11_187), .second, .val (.ref b188), .val (.ref b202), .val (.ref b_217), .val (.int (1 : Int32)), .val (.ref c_218), .val (.long v18_263), .second] [(.int (2 : Int32)), (.ref c_218)])) (by rw [show ((3 : Int32) - (1 : Int32)) = (2 : Int32) from by decide]) ?_
    have F264 : Arv Z h260 c_218 kc_219 .long (3 : Int32) [(.long (q2 ^^^ (-1 : Int64))), (.long q3), (.long (q2 ^^^ (q3 ^^^ (-1 : Int64))))] (.long (0 : Int64)) := (V_254.other W260 (Ne.symm (Nat.ne_of_lt (Nat.lt_of_lt_of_le F214.lt P223))))
    obtain ⟨cl_o265, Ar_o265, q_o265, S_o265, N_o265, H_o265, G_o265⟩ := id F264
    have hin_o265 : ¬ ((2 : Int32) < 0 ∨ cl_o265.slots.size ≤ ((2 : Int32)).toNatClampNeg) := inb_of S_o265 ⟨by decide, by decide⟩
    have hat_o265 : cl_o265.slots[((2 : Int32)).toNatClampNeg]? = some (.long (q2 ^^^ (q3 ^^^ (-1 : Int64)))) := H_o265.at hin_o265 rfl
    refine ogo (fun _ z_ => X262.laload hx (j := (2 : Int32)) (v := (.long (q2 ^^^ (q3 ^^^ (-1 : Int64))))) (by rw [eq262]; exact Ar_o265.1) (State.isArrayOf_alike hZ.alike Ar_o265.2.1) Ar_o265.2.2 hin_o265 hat_o265 (g := (mkF m 448 #[.val (.long q0), .second, .val (.int p1), .val (.long q2), .second, .val (.long q3), .second, .val (.long q4), .second, .val (.int p5), .val (.int (3 : Int32)), .val (.double v11_187), .second, .val (.ref b188), .val (.ref b202), .val (.ref b_217), .val (.int (1 : Int32)), .val (.ref c_218), .val (.long v18_263), .second] [(.int (2 : Int32)), (.ref c_218)])) rfl rfl (hb hby at_448) _ z_) ?_
    show OWay p e below G T262 (mkF m 449 #[.val (.long q0), .second, .val (.int p1), .val (.long q2), .second, .val (.long q3), .second, .val (.long q4), .second, .val (.int p5), .val (.int (3 : Int32)), .val (.double v11_187), .second, .val (.ref b188), .val (.ref b202), .val (.ref b_217), .val (.int (1 : Int32)), .val (.ref c_218), .val (.long v18_263), .second] [(.long (q2 ^^^ (q3 ^^^ (-1 : Int64))))])
    refine ogo (fun _ z_ => XS.lload X262.here hx rfl (hb hby at_449) rfl z_) ?_
    show OWay p e below G T262 (mkF m 451 #[.val (.long q0), .second, .val (.int p1), .val (.long q2), .second, .val (.long q3), .second, .val (.long q4), .second, .val (.int p5), .val (.int (3 : Int32)), .val (.double v11_187), .second, .val (.ref b188), .val (.ref b202), .val (.ref b_217), .val (.int (1 : Int32)), .val (.ref c_218), .val (.long v18_263), .second] [(.long v18_263), (.long (q2 ^^^ (q3 ^^^ (-1 : Int64))))])
    refine ogo (fun _ z_ => XS.lcmp X262.here hx rfl (hb hby at_451) rfl z_) ?_
    show OWay p e below G T262 (mkF m 452 #[.val (.long q0), .second, .val (.int p1), .val (.long q2), .second, .val (.long q3), .second, .val (.long q4), .second, .val (.int p5), .val (.int (3 : Int32)), .val (.double v11_187), .second, .val (.ref b188), .val (.ref b202), .val (.ref b_217), .val (.int (1 : Int32)), .val (.ref c_218), .val (.long v18_263), .second] [(.int (lcmpW (q2 ^^^ (q3 ^^^ (-1 : Int64))) v18_263))])
    refine ogo (fun _ z_ => XS.ifNo X262.here hx rfl (hb hby at_452) rfl ((if0 _ _).trans (teq ((lw_eq _ _).mpr (hv18_263.symm))).2) z_) ?_
    show OWay p e below G T262 (mkF m 455 #[.val (.long q0), .second, .val (.int p1), .val (.long q2), .second, .val (.long q3), .second, .val (.long q4), .second, .val (.int p5), .val (.int (3 : Int32)), .val (.double v11_187), .second, .val (.ref b188), .val (.ref b202), .val (.ref b_217), .val (.int (1 : Int32)), .val (.ref c_218), .val (.long v18_263), .second] [])
    refine ogo (fun _ z_ => XS.iconst X262.here hx rfl (hb hby at_455) z_) ?_
    show OWay p e below G T262 (mkF m 456 #[.val (.long q0), .second, .val (.int p1), .val (.long q2), .second, .val (.long q3), .second, .val (.long q4), .second, .val (.int p5), .val (.int (3 : Int32)), .val (.double v11_187), .second, .val (.ref b188), .val (.ref b202), .val (.ref b_217), .val (.int (1 : Int32)), .val (.ref c_218), .val (.long v18_263), .second] [(.int (1 : Int32))])
    refine ogo (fun _ z_ => XS.goto X262.here hx rfl (pc0 := 456) (pc' := 460) rfl (hb hby at_456) (by decide) (by decide) z_) ?_
    show OWay p e below G T262 (mkF m 460 #[.val (.long q0), .second, .val (.int p1), .val (.long q2), .second, .val (.long q3), .second, .val (.long q4), .second, .val (.int p5), .val (.int (3 : Int32)), .val (.double v11_187), .second, .val (.ref b188), .val (.ref b202), .val (.ref b_217), .val (.int (1 : Int32)), .val (.ref c_218), .val (.long v18_263), .second] [(.int (1 : Int32))])
    refine ogo (fun _ z_ => XS.istore X262.here hx rfl (hb hby at_460) rfl (l' := #[.val (.long q0), .second, .val (.int p1), .val (.long q2), .second, .val (.long q3), .second, .val (.long q4), .second, .val (.int p5), .val (.int (3 : Int32)), .val (.double v11_187), .second, .val (.ref b188), .val (.ref b202), .val (.ref b_217), .val (.int (1 : Int32)), .val (.ref c_218), .val (.long v18_263), .second]) rfl z_) ?_
    show OWay p e below G T262 (mkF m 462 #[.val (.long q0), .second, .val (.int p1), .val (.long q2), .second, .val (.long q3), .second, .val (.long q4), .second, .val (.int p5), .val (.int (3 : Int32)), .val (.double v11_187), .second, .val (.ref b188), .val (.ref b202), .val (.ref b_217), .val (.int (1 : Int32)), .val (.ref c_218), .val (.long v18_263), .second] [])
    refine ogo (fun _ z_ => XS.iload X262.here hx rfl (hb hby at_462) rfl z_) ?_
    show OWay p e below G T262 (mkF m 464 #[.val (.long q0), .second, .val (.int p1), .val (.long q2), .second, .val (.long q3), .second, .val (.long q4), .second, .val (.int p5), .val (.int (3 : Int32)), .val (.double v11_187), .second, .val (.ref b188), .val (.ref b202), .val (.ref b_217), .val (.int (1 : Int32)), .val (.ref c_218), .val (.long v18_263), .second] [(.int (1 : Int32))])
    subst hG
    refine wRetN X262 hx (t := .boolean) hret hlk (by simp) (hb hby at_464) (by decide) (by decide) eq262 ?_
    exact ⟨rfl, N262⟩
set_option maxRecDepth 65536 in
set_option maxHeartbeats 40000000 in
theorem comes_1 {Post : Tables → Env → Array Value → State → Outcome → State → Prop} (hpost : ∀ tb e args s v u, (limb_1_1.after args s (.returned v) u = true ∧ limb_1_2.after args s (.returned v) u = true ∧ True) → FrameEnd s (.returned v) u (Jvm.fieldLocs frame_1_writes args s ++ Jvm.arrayLocs frame_1_arrays args s ++ Jvm.staticLocs frame_1_statics s) 16 128 → Post tb e args s (.returned v) u) :
    ArmFor flags0 classFile x code maxLocals ret World_1 tables_1 room_1 Calls_1 rest_1 Pre_1 Post := by
  intro l hfl _ _ p e ha hc hk s m args below hf hA hF happ hP
  obtain ⟨hcalls, hrest, hpre⟩ := hP
  obtain ⟨-, -, -, hnamed, -, -, -, hat⟩ := (Spec.applies_iff hf).mp happ
  obtain ⟨hg, hn⟩ := and_e (Cond.before_iff.mp (show (Jvm.Cond.and given_1 narrow_1).before args s = true from hpre))
  obtain ⟨g1, g2⟩ := and_e hg
  obtain ⟨g3, g4⟩ := and_e g2
  obtain ⟨g5, g6⟩ := and_e g4
  obtain ⟨g7, g8⟩ := and_e g6
  obtain ⟨g9, g10⟩ := and_e g8
  obtain ⟨g11, g12⟩ := and_e g10
  obtain ⟨w0, w1, w2, w3, w4, w5, rfl⟩ : ∃ w0 w1 w2 w3 w4 w5 : Value, args = #[w0, w1, w2, w3, w4, w5] := by
    have hs : args.size = 6 := by simpa [Cond.value, given_1] using g1
    obtain ⟨L⟩ := args
    match L, hs with
    | [w0, w1, w2, w3, w4, w5], _ => exact ⟨w0, w1, w2, w3, w4, w5, rfl⟩
  have hw := fun d (hd : d ∈ tables_1) => atoms_spec (ws := Jvm.Cond.code x code maxLocals ret :: tables_1) hat d (List.mem_cons_of_mem _ hd)
  have hfit : Fit s := fun {y c} hc i hi => by
    obtain ⟨ha, rfl⟩ := Array.getElem?_eq_some_iff.mp hc
    have q := List.all_eq_true.mp ((Array.all_eq_true_iff_forall_mem.mp hF) _ (Array.getElem_mem ha)) i (List.mem_range.mpr hi)
    simpa [Array.getElem?_eq_getElem hi] using q
  obtain ⟨i0, ei0⟩ := isL_v g3
  obtain rfl : w0 = (.long i0) := Option.some.inj ei0
  obtain ⟨i1, ei1⟩ := is_v g5
  obtain rfl : w1 = (.int i1) := Option.some.inj ei1
  obtain ⟨i2, ei2⟩ := isL_v g7
  obtain rfl : w2 = (.long i2) := Option.some.inj ei2
  obtain ⟨i3, ei3⟩ := isL_v g9
  obtain rfl : w3 = (.long i3) := Option.some.inj ei3
  obtain ⟨i4, ei4⟩ := isL_v g11
  obtain rfl : w4 = (.long i4) := Option.some.inj ei4
  obtain ⟨i5, ei5⟩ := is_v g12
  obtain rfl : w5 = (.int i5) := Option.some.inj ei5
  obtain ⟨n, o, h1, h2, h3, _, L, rfl, ⟨rfl, N⟩, hq⟩ := law_c l s _ hw tables_1 i0 i1 i2 i3 i4 i5 s.heap s.heap.size (Nat.le_refl _) p e ha hc hk s m _ below hf ((Spec.applies_iff_loose hf).mp happ).1 ⟨rfl, State.Warmed39.refl s, rfl⟩ trivial
  refine ⟨n, _, h1, h2, h3, hpost _ _ _ _ _ _ ⟨Cond.after_iff.mpr rfl, Cond.after_iff.mpr (eq_i res_at (Term.int_eval (1)) rfl), trivial⟩ ⟨hq.1, hq.2.1, (hq.2.2.sift fun y hy => Or.inr (N y hy)).mono (by decide) (by decide)⟩⟩
theorem main_1_1 : Claimed_1_1 := comes_1 fun _ _ _ _ _ _ h hF => ⟨h.1, hF⟩
theorem main_1_2 : Claimed_1_2 := comes_1 fun _ _ _ _ _ _ h hF => ⟨h.2.1, hF⟩
end Jvm.Pilot.@@N@@
namespace Jvm.Pilot.@@N@@
open Jvm Jvm.ClassFile Sem Op Lib Jvm.Free Jvm.Stand Jvm.Pilot.@@N@@.Jvm.D
/-! MADE BY PROGRAM (witnessworld.py) out of the Statement's table words and the real class files: 11 classes; the members and pool entries that the words name. The judged class is class 1, her method 2. -/
namespace start1
open Jvm.ClassFile
def u (s : String) : CpInfo := .utf8 (stringToUtf16 s)
/-- a pool by its gaps: so many unusable entries, then the entry; so many at the end -/
def gap : Nat → List CpInfo → List CpInfo
  | 0, r => r
  | n + 1, r => .unusable :: gap n r
def poolList (es : List (Nat × CpInfo)) (last : Nat) : List CpInfo := es.foldr (fun e r => gap e.1 (e.2 :: r)) (gap last [])
def pool (es : List (Nat × CpInfo)) (last : Nat) : Array CpInfo := ⟨poolList es last⟩
def fileOf (pool : Array CpInfo) (this : Nat) (attrs : Array Attribute := #[]) (ms : Array MethodInfo := #[]) (fl : Nat := 33) (sup : Nat := 0) (ifs : Array Nat := #[]) (fds : Array FieldInfo := #[]) : ClassFile where
  minorVersion := 0
  majorVersion := 65
  constantPool := pool
  accessFlags := fl
  thisClass := this
  superClass := sup
  interfaces := ifs
  fields := fds
  methods := ms
  attributes := attrs
def plain (name : String) (sup : Option ClassId) : Class where
  name := name
  kind := .ordinary
  loader := none
  accessFlags := 33
  super := sup
  interfaces := #[]
  cf := none
  fields := #[]
  methods := #[]
  instanceTypes := #[]
  staticTypes := #[]
  resolved := #[]
  callSites := []
  init := .initialized
  statics := none
  mirror := none

def pool0 : Array CpInfo := pool [(5, u "<init>"), (0, u "()V"), (1, .class_ 10), (1, u "java/lang/Object"), (85, u "clone"), (0, u "()Ljava/lang/Object;")] 26

def k0c0 : Code := { maxStack := 0, maxLocals := 1, code := object_method_1_code, exceptionTable := #[], attributes := #[] }
def k0m0 : Method := { name := "<init>", desc := "()V", sig := { parameters := [], returnType := none }, accessFlags := 1, code := some k0c0 }
def k0m1 : Method := { name := "clone", desc := "()Ljava/lang/Object;", sig := { parameters := [], returnType := some (.object "java/lang/Object") }, accessFlags := 260, code := none }
/-- java/lang/Object -/
def k0 : Class := { plain "java/lang/Object" none with
  accessFlags := 33
  interfaces := #[]
  cf := some (fileOf pool0 8 #[] #[{ accessFlags := 1, nameIndex := 5, descriptorIndex := 6, attributes := #[] }, { accessFlags := 260, nameIndex := 96, descriptorIndex := 97, attributes := #[] }] 33 0 #[] #[])
  fields := #[]
  methods := #[k0m0, k0m1]
  instanceTypes := #[]
  staticTypes := #[]
  resolved := Array.replicate 124 none
  statics := none }

def pool1 : Array CpInfo := pool [(2, .class_ 4), (1, u "java/lang/Object"), (0, u "<init>"), (0, u "()V"), (0, .long 18446744073709551615), (1, .integer 1048575), (0, .double 4697254411347427328), (1, .methodref 13 14), (0, .class_ 15), (0, .nameAndType 16 17), (0, u "com/example/sito/sito/SliceCopyPinLaw"), (0, u "expected"), (0, u "(IJJ)J"), (0, .class_ 19), (0, u "com/example/sito/sito/Slice"), (0, .methodref 18 21), (0, .nameAndType 5 22), (0, u "(JDI[JJ)V"), (0, .methodref 18 24), (0, .nameAndType 25 26), (0, u "copy"), (0, u "()Lcom/example/sito/sito/Slice;"), (0, .methodref 18 28), (0, .nameAndType 29 30), (0, u "getCapacity"), (0, u "()J"), (0, .methodref 18 32), (0, .nameAndType 33 34), (0, u "getBound"), (0, u "()D"), (0, .methodref 18 36), (0, .nameAndType 37 38), (0, u "getHashCount"), (0, u "()I"), (0, .methodref 18 40), (0, .nameAndType 41 30), (0, u "getBitCount"), (0, .long 64), (1, .methodref 18 45), (0, .nameAndType 46 30), (0, u "getItems"), (0, .methodref 18 48), (0, .nameAndType 49 50), (0, u "getWords"), (0, u "()[J"), (3, u "law"), (0, u "(JIJJJI)Z")] 4

def k1m0 : Method := { name := "<init>", desc := "()V", sig := { parameters := [], returnType := none }, accessFlags := 1, code := none }
def k1c1 : Code := { maxStack := 6, maxLocals := 5, code := method_2_code, exceptionTable := #[], attributes := #[] }
def k1m1 : Method := { name := "expected", desc := "(IJJ)J", sig := { parameters := [.int, .long, .long], returnType := some .long }, accessFlags := 10, code := some k1c1 }
def k1c2 : Code := { maxStack := 10, maxLocals := 20, code := code, exceptionTable := #[], attributes := #[] }
def k1m2 : Method := { name := "law", desc := "(JIJJJI)Z", sig := { parameters := [.long, .int, .long, .long, .long, .int], returnType := some .boolean }, accessFlags := 9, code := some k1c2 }
/-- com/example/sito/sito/SliceCopyPinLaw -/
def k1 : Class := { plain "com/example/sito/sito/SliceCopyPinLaw" (some 0) with
  accessFlags := 49
  interfaces := #[]
  cf := some (fileOf pool1 13 #[] #[{ accessFlags := 1, nameIndex := 5, descriptorIndex := 6, attributes := #[] }, { accessFlags := 10, nameIndex := 16, descriptorIndex := 17, attributes := #[] }, { accessFlags := 9, nameIndex := 54, descriptorIndex := 55, attributes := #[] }] 49 2 #[] #[])
  fields := #[]
  methods := #[k1m0, k1m1, k1m2]
  instanceTypes := #[]
  staticTypes := #[]
  resolved := Array.replicate 60 none
  statics := none }

def pool2 : Array CpInfo := pool [(3, .class_ 4), (0, u "com/example/sito/sito/Slice"), (0, .methodref 6 7), (0, .class_ 8), (0, .nameAndType 9 10), (0, u "java/lang/Object"), (0, u "<init>"), (0, u "()V"), (0, .fieldref 3 12), (0, .nameAndType 13 14), (0, u "capacity"), (0, u "J"), (0, .fieldref 3 16), (0, .nameAndType 17 18), (0, u "bound"), (0, u "D"), (0, .fieldref 3 20), (0, .nameAndType 21 22), (0, u "hashCount"), (0, u "I"), (0, .long 64), (1, .fieldref 3 26), (0, .nameAndType 27 14), (0, u "bitCount"), (0, .fieldref 3 29), (0, .nameAndType 30 31), (0, u "words"), (0, u "[J"), (0, .fieldref 3 33), (0, .nameAndType 34 14), (0, u "items"), (19, .methodref 3 55), (0, .nameAndType 9 56), (0, u "(JDI[JJ)V"), (0, .methodref 58 59), (0, .class_ 31), (0, .nameAndType 60 61), (0, u "clone"), (0, u "()Ljava/lang/Object;"), (63, .class_ 126), (0, u "com/example/sito/sito/Slice$LogSum"), (7, u "()D"), (11, .class_ 148), (1, u "com/example/sito/sito/Slice$Hash"), (20, u "MAX_WORDS"), (2, u "MAX_BITS"), (0, u "BLOCK_BITS"), (1, u "NEGLIGIBLE"), (5, u "copy"), (0, u "()Lcom/example/sito/sito/Slice;"), (8, u "getCapacity"), (0, u "()J"), (0, u "getBound"), (0, u "getHashCount"), (0, u "()I"), (0, u "getBitCount"), (0, u "getItems"), (0, u "getWords"), (0, u "()[J")] 20

def k2c0 : Code := { maxStack := 5, maxLocals := 9, code := prog_6_method_1_code, exceptionTable := #[], attributes := #[] }
def k2m0 : Method := { name := "<init>", desc := "(JDI[JJ)V", sig := { parameters := [.long, .double, .int, (.array .long), .long], returnType := none }, accessFlags := 0, code := some k2c0 }
def k2c1 : Code := { maxStack := 10, maxLocals := 1, code := prog_6_method_3_code, exceptionTable := #[], attributes := #[] }
def k2m1 : Method := { name := "copy", desc := "()Lcom/example/sito/sito/Slice;", sig := { parameters := [], returnType := some (.object "com/example/sito/sito/Slice") }, accessFlags := 0, code := some k2c1 }
def k2c2 : Code := { maxStack := 2, maxLocals := 1, code := prog_6_method_17_code, exceptionTable := #[], attributes := #[] }
def k2m2 : Method := { name := "getCapacity", desc := "()J", sig := { parameters := [], returnType := some .long }, accessFlags := 0, code := some k2c2 }
def k2c3 : Code := { maxStack := 2, maxLocals := 1, code := prog_6_method_18_code, exceptionTable := #[], attributes := #[] }
def k2m3 : Method := { name := "getBound", desc := "()D", sig := { parameters := [], returnType := some .double }, accessFlags := 0, code := some k2c3 }
def k2c4 : Code := { maxStack := 1, maxLocals := 1, code := prog_6_method_19_code, exceptionTable := #[], attributes := #[] }
def k2m4 : Method := { name := "getHashCount", desc := "()I", sig := { parameters := [], returnType := some .int }, accessFlags := 0, code := some k2c4 }
def k2c5 : Code := { maxStack := 2, maxLocals := 1, code := prog_6_method_20_code, exceptionTable := #[], attributes := #[] }
def k2m5 : Method := { name := "getBitCount", desc := "()J", sig := { parameters := [], returnType := some .long }, accessFlags := 0, code := some k2c5 }
def k2c6 : Code := { maxStack := 2, maxLocals := 1, code := prog_6_method_21_code, exceptionTable := #[], attributes := #[] }
def k2m6 : Method := { name := "getItems", desc := "()J", sig := { parameters := [], returnType := some .long }, accessFlags := 0, code := some k2c6 }
def k2c7 : Code := { maxStack := 1, maxLocals := 1, code := prog_6_method_22_code, exceptionTable := #[], attributes := #[] }
def k2m7 : Method := { name := "getWords", desc := "()[J", sig := { parameters := [], returnType := some (.array .long) }, accessFlags := 0, code := some k2c7 }
/-- com/example/sito/sito/Slice -/
def k2 : Class := { plain "com/example/sito/sito/Slice" (some 0) with
  accessFlags := 32
  interfaces := #[]
  cf := some (fileOf pool2 3 #[.nestMembers #[146, 125]] #[{ accessFlags := 0, nameIndex := 9, descriptorIndex := 56, attributes := #[] }, { accessFlags := 0, nameIndex := 181, descriptorIndex := 182, attributes := #[] }, { accessFlags := 0, nameIndex := 191, descriptorIndex := 192, attributes := #[] }, { accessFlags := 0, nameIndex := 193, descriptorIndex := 134, attributes := #[] }, { accessFlags := 0, nameIndex := 194, descriptorIndex := 195, attributes := #[] }, { accessFlags := 0, nameIndex := 196, descriptorIndex := 192, attributes := #[] }, { accessFlags := 0, nameIndex := 197, descriptorIndex := 192, attributes := #[] }, { accessFlags := 0, nameIndex := 198, descriptorIndex := 199, attributes := #[] }] 32 6 #[] #[{ accessFlags := 24, nameIndex := 169, descriptorIndex := 22, attributes := #[] }, { accessFlags := 24, nameIndex := 172, descriptorIndex := 14, attributes := #[] }, { accessFlags := 24, nameIndex := 173, descriptorIndex := 22, attributes := #[] }, { accessFlags := 26, nameIndex := 175, descriptorIndex := 18, attributes := #[] }, { accessFlags := 18, nameIndex := 13, descriptorIndex := 14, attributes := #[] }, { accessFlags := 18, nameIndex := 17, descriptorIndex := 18, attributes := #[] }, { accessFlags := 18, nameIndex := 21, descriptorIndex := 22, attributes := #[] }, { accessFlags := 18, nameIndex := 27, descriptorIndex := 14, attributes := #[] }, { accessFlags := 18, nameIndex := 30, descriptorIndex := 31, attributes := #[] }, { accessFlags := 2, nameIndex := 34, descriptorIndex := 14, attributes := #[] }])
  fields := #[{ name := "MAX_WORDS", type := .int, accessFlags := 24, slot := 0, constantValue := 0 }, { name := "MAX_BITS", type := .long, accessFlags := 24, slot := 1, constantValue := 0 }, { name := "BLOCK_BITS", type := .int, accessFlags := 24, slot := 2, constantValue := 0 }, { name := "NEGLIGIBLE", type := .double, accessFlags := 26, slot := 3, constantValue := 0 }, { name := "capacity", type := .long, accessFlags := 18, slot := 0, constantValue := 0 }, { name := "bound", type := .double, accessFlags := 18, slot := 1, constantValue := 0 }, { name := "hashCount", type := .int, accessFlags := 18, slot := 2, constantValue := 0 }, { name := "bitCount", type := .long, accessFlags := 18, slot := 3, constantValue := 0 }, { name := "words", type := (.array .long), accessFlags := 18, slot := 4, constantValue := 0 }, { name := "items", type := .long, accessFlags := 2, slot := 5, constantValue := 0 }]
  methods := #[k2m0, k2m1, k2m2, k2m3, k2m4, k2m5, k2m6, k2m7]
  instanceTypes := #[.long, .double, .int, .long, (.array .long), .long]
  staticTypes := #[.int, .long, .int, .double]
  resolved := Array.replicate 220 none
  statics := none }

def pool3 : Array CpInfo := pool [(1, .class_ 2), (0, u "java/lang/Cloneable"), (0, .class_ 4), (0, u "java/lang/Object")] 2

/-- java/lang/Cloneable -/
def k3 : Class := { plain "java/lang/Cloneable" (some 0) with
  accessFlags := 1537
  interfaces := #[]
  cf := some (fileOf pool3 1 #[] #[] 1537 3 #[] #[])
  fields := #[]
  methods := #[]
  instanceTypes := #[]
  staticTypes := #[]
  resolved := Array.replicate 7 none
  statics := none }

def pool4 : Array CpInfo := pool [(1, u "java/io/Serializable"), (0, .class_ 1), (0, u "java/lang/Object"), (0, .class_ 3)] 3

/-- java/io/Serializable -/
def k4 : Class := { plain "java/io/Serializable" (some 0) with
  accessFlags := 1537
  interfaces := #[]
  cf := some (fileOf pool4 2 #[] #[] 1537 4 #[] #[])
  fields := #[]
  methods := #[]
  instanceTypes := #[]
  staticTypes := #[]
  resolved := Array.replicate 8 none
  statics := none }

/-- the primitive byte -/
def k5 : Class := { plain "byte" none with kind := .primitive 'B', accessFlags := 0x411 }
/-- [B -/
def k6 : Class := { plain "[B" (some 0) with kind := .array 5 .byte, interfaces := #[3, 4], accessFlags := 1041 }

/-- the primitive int -/
def k7 : Class := { plain "int" none with kind := .primitive 'I', accessFlags := 0x411 }
/-- [I -/
def k8 : Class := { plain "[I" (some 0) with kind := .array 7 .int, interfaces := #[3, 4], accessFlags := 1041 }

/-- the primitive long -/
def k9 : Class := { plain "long" none with kind := .primitive 'J', accessFlags := 0x411 }
/-- [J -/
def k10 : Class := { plain "[J" (some 0) with kind := .array 9 .long, interfaces := #[3, 4], accessFlags := 1041 }

def heap : Heap := #[]
def classes : Array Class := #[k0, k1, k2, k3, k4, k5, k6, k7, k8, k9, k10]
def interned : List (Array UInt16 × Addr) := []
def slotsUsed : Nat := 0
def theMethod : MethodId := ⟨1, 2⟩
def args0 : Array Value := #[.long 5, .int 3, .long 1, .long 2, .long 3, .int 2]
def aboutOver (below : List Frame) : State where
  vm := { classes := classes, interned := interned.toArray }
  heap := heap
  slotsUsed := slotsUsed
  threads := #[{ frames := .invoking theMethod args0 :: below }]
def below0 : List Frame := [.native { method := ⟨0, 0⟩, args := #[] }]
def about1 : State := aboutOver below0
def p0 : Program := .bare "" "" ""
def e0 : Env := launch0.env 0 0 0
theorem w_frames : about1.frames = Frame.invoking theMethod args0 :: below0 := rfl
set_option maxRecDepth 65536 in
theorem w_args : argsFit about1.vm theMethod args0 = true := by decide +kernel
set_option maxRecDepth 65536 in
theorem w_heap : heapFits about1 = true := by decide +kernel
set_option maxRecDepth 65536 in
theorem w_runnable : about1.curStatus? = some .runnable := by decide +kernel
set_option maxRecDepth 65536 in
theorem w_alone : about1.alone = true := by decide +kernel
set_option maxRecDepth 65536 in
theorem w_named : about1.methodNamed? x = some theMethod := by decide +kernel
set_option maxRecDepth 65536 in
theorem w_hears : about1.hears theMethod below0 = true := by decide +kernel
set_option maxRecDepth 65536 in
theorem w_ripe : about1.ripe theMethod args0 below0 = true := by decide +kernel
theorem w_running : about1.status = .running := rfl
set_option maxRecDepth 65536 in
theorem w_room : about1.hasRoom e0.platform room_1 = true :=
  launch0.hasRoom_least _ room_1 (by decide +kernel) (by decide +kernel) (by decide +kernel) (by decide +kernel) (by decide +kernel) (by decide +kernel)
theorem allAtoms_all (ts : List Jvm.Cond) (a : Array Jvm.Value) (st : Jvm.State) : (allAtoms ts).before a st = ts.all (fun c => c.before a st) := by
  induction ts with
  | nil => rfl
  | cons c t ih =>
    show (Jvm.Cond.and c (allAtoms t)).before a st = _
    rw [Jvm.Cond.before_and, ih, List.all_cons]
def words1 : List Jvm.Cond := Jvm.Cond.code x code maxLocals ret :: tables_1
/-- a 'code' word, met by the world's own term for the bytes: nothing is compared byte by byte -/
theorem code_word {y : MethodName} {bytes : ByteArray} {mx : Nat} {rt : Option FieldType} {a : Array Value} {s : State} {m : MethodId} {meth : Method} {c : Code} (h1 : s.methodNamed? y = some m) (h2 : s.vm.method? m = some meth) (h3 : meth.code = some c) (h4 : c.code = bytes)
    (h5 : (c.maxLocals == mx && c.exceptionTable.isEmpty && decide (c.maxStack ≤ mostOperands) && decide (meth.sig.returnType = rt) && !meth.locks && decide (parseMethodDescriptor y.desc = some meth.sig)) = true) : (Jvm.Cond.code y bytes mx rt).before a s = true := by
  simp only [Bool.and_eq_true, beq_iff_eq, Bool.not_eq_true', decide_eq_true_eq] at h5
  obtain ⟨⟨⟨⟨⟨g1, g2⟩, g3⟩, g4⟩, g5⟩, g6⟩ := h5
  simp [Cond.before, Cond.holds, Cond.value, h1, h2, h3, h4, g1, g2, g3, g4, g5, g6]
def isCode : Jvm.Cond → Bool
  | .code _ _ _ _ => true
  | _ => false
theorem all_split {L : List Jvm.Cond} {P : Jvm.Cond → Bool} (h1 : L.all (fun c => isCode c || P c) = true) (h2 : ∀ c ∈ L.filter isCode, P c = true) : L.all P = true := by
  refine List.all_eq_true.mpr fun c hc => ?_
  have h := List.all_eq_true.mp h1 c hc
  rcases Bool.eq_false_or_eq_true (isCode c) with hi | hi
  · exact h2 c (List.mem_filter.mpr ⟨hc, hi⟩)
  · simpa [hi] using h
set_option maxRecDepth 65536 in
theorem w_c0 : (Jvm.Cond.code x code maxLocals ret).before args0 about1 = true := code_word (m := ⟨1, 2⟩) (meth := k1m2) (c := k1c2) (by decide +kernel) rfl rfl rfl (by decide +kernel)
set_option maxRecDepth 65536 in
theorem w_c1 : (Jvm.Cond.code ({ cls := "com/example/sito/sito/Slice", name := "<init>", desc := "(JDI[JJ)V" } : Jvm.MethodName) prog_6_method_1_code (9 : Nat) (Option.none : Option Jvm.ClassFile.FieldType)).before args0 about1 = true := code_word (m := ⟨2, 0⟩) (meth := k2m0) (c := k2c0) (by decide +kernel) rfl rfl rfl (by decide +kernel)
set_option maxRecDepth 65536 in
theorem w_c2 : (Jvm.Cond.code ({ cls := "java/lang/Object", name := "<init>", desc := "()V" } : Jvm.MethodName) object_method_1_code (1 : Nat) (Option.none : Option Jvm.ClassFile.FieldType)).before args0 about1 = true := code_word (m := ⟨0, 0⟩) (meth := k0m0) (c := k0c0) (by decide +kernel) rfl rfl rfl (by decide +kernel)
set_option maxRecDepth 65536 in
theorem w_c3 : (Jvm.Cond.code ({ cls := "com/example/sito/sito/Slice", name := "copy", desc := "()Lcom/example/sito/sito/Slice;" } : Jvm.MethodName) prog_6_method_3_code (1 : Nat) (Option.some (Jvm.ClassFile.FieldType.object "com/example/sito/sito/Slice"))).before args0 about1 = true := code_word (m := ⟨2, 1⟩) (meth := k2m1) (c := k2c1) (by decide +kernel) rfl rfl rfl (by decide +kernel)
set_option maxRecDepth 65536 in
theorem w_c4 : (Jvm.Cond.code ({ cls := "com/example/sito/sito/Slice", name := "getCapacity", desc := "()J" } : Jvm.MethodName) prog_6_method_17_code (1 : Nat) (Option.some Jvm.ClassFile.FieldType.long)).before args0 about1 = true := code_word (m := ⟨2, 2⟩) (meth := k2m2) (c := k2c2) (by decide +kernel) rfl rfl rfl (by decide +kernel)
set_option maxRecDepth 65536 in
theorem w_c5 : (Jvm.Cond.code ({ cls := "com/example/sito/sito/Slice", name := "getBound", desc := "()D" } : Jvm.MethodName) prog_6_method_18_code (1 : Nat) (Option.some Jvm.ClassFile.FieldType.double)).before args0 about1 = true := code_word (m := ⟨2, 3⟩) (meth := k2m3) (c := k2c3) (by decide +kernel) rfl rfl rfl (by decide +kernel)
set_option maxRecDepth 65536 in
theorem w_c6 : (Jvm.Cond.code ({ cls := "com/example/sito/sito/Slice", name := "getHashCount", desc := "()I" } : Jvm.MethodName) prog_6_method_19_code (1 : Nat) (Option.some Jvm.ClassFile.FieldType.int)).before args0 about1 = true := code_word (m := ⟨2, 4⟩) (meth := k2m4) (c := k2c4) (by decide +kernel) rfl rfl rfl (by decide +kernel)
set_option maxRecDepth 65536 in
theorem w_c7 : (Jvm.Cond.code ({ cls := "com/example/sito/sito/Slice", name := "getBitCount", desc := "()J" } : Jvm.MethodName) prog_6_method_20_code (1 : Nat) (Option.some Jvm.ClassFile.FieldType.long)).before args0 about1 = true := code_word (m := ⟨2, 5⟩) (meth := k2m5) (c := k2c5) (by decide +kernel) rfl rfl rfl (by decide +kernel)
set_option maxRecDepth 65536 in
theorem w_c8 : (Jvm.Cond.code ({ cls := "com/example/sito/sito/Slice", name := "getItems", desc := "()J" } : Jvm.MethodName) prog_6_method_21_code (1 : Nat) (Option.some Jvm.ClassFile.FieldType.long)).before args0 about1 = true := code_word (m := ⟨2, 6⟩) (meth := k2m6) (c := k2c6) (by decide +kernel) rfl rfl rfl (by decide +kernel)
set_option maxRecDepth 65536 in
theorem w_c9 : (Jvm.Cond.code ({ cls := "com/example/sito/sito/Slice", name := "getWords", desc := "()[J" } : Jvm.MethodName) prog_6_method_22_code (1 : Nat) (Option.some (Jvm.ClassFile.FieldType.array Jvm.ClassFile.FieldType.long))).before args0 about1 = true := code_word (m := ⟨2, 7⟩) (meth := k2m7) (c := k2c7) (by decide +kernel) rfl rfl rfl (by decide +kernel)
set_option maxRecDepth 65536 in
theorem w_c10 : (Jvm.Cond.code ({ cls := "com/example/sito/sito/SliceCopyPinLaw", name := "expected", desc := "(IJJ)J" } : Jvm.MethodName) method_2_code (5 : Nat) (Option.some Jvm.ClassFile.FieldType.long)).before args0 about1 = true := code_word (m := ⟨1, 1⟩) (meth := k1m1) (c := k1c1) (by decide +kernel) rfl rfl rfl (by decide +kernel)
def codes1 : List Jvm.Cond := [Jvm.Cond.code x code maxLocals ret, Jvm.Cond.code ({ cls := "com/example/sito/sito/Slice", name := "<init>", desc := "(JDI[JJ)V" } : Jvm.MethodName) prog_6_method_1_code (9 : Nat) (Option.none : Option Jvm.ClassFile.FieldType), Jvm.Cond.code ({ cls := "java/lang/Object", name := "<init>", desc := "()V" } : Jvm.MethodName) object_method_1_code (1 : Nat) (Option.none : Option Jvm.ClassFile.FieldType), Jvm.Cond.code ({ cls := "com/example/sito/sito/Slice", name := "copy", desc := "()Lcom/example/sito/sito/Slice;" } : Jvm.MethodName) prog_6_method_3_code (1 : Nat) (Option.some (Jvm.ClassFile.FieldType.object "com/example/sito/sito/Slice")), Jvm.Cond.code ({ cls := "com/example/sito/sito/Slice", name := "getCapacity", desc := "()J" } : Jvm.MethodName) prog_6_method_17_code (1 : Nat) (Option.some Jvm.ClassFile.FieldType.long), Jvm.Cond.code ({ cls := "com/example/sito/sito/Slice", name := "getBound", desc := "()D" } : Jvm.MethodName) prog_6_method_18_code (1 : Nat) (Option.some Jvm.ClassFile.FieldType.double), Jvm.Cond.code ({ cls := "com/example/sito/sito/Slice", name := "getHashCount", desc := "()I" } : Jvm.MethodName) prog_6_method_19_code (1 : Nat) (Option.some Jvm.ClassFile.FieldType.int), Jvm.Cond.code ({ cls := "com/example/sito/sito/Slice", name := "getBitCount", desc := "()J" } : Jvm.MethodName) prog_6_method_20_code (1 : Nat) (Option.some Jvm.ClassFile.FieldType.long), Jvm.Cond.code ({ cls := "com/example/sito/sito/Slice", name := "getItems", desc := "()J" } : Jvm.MethodName) prog_6_method_21_code (1 : Nat) (Option.some Jvm.ClassFile.FieldType.long), Jvm.Cond.code ({ cls := "com/example/sito/sito/Slice", name := "getWords", desc := "()[J" } : Jvm.MethodName) prog_6_method_22_code (1 : Nat) (Option.some (Jvm.ClassFile.FieldType.array Jvm.ClassFile.FieldType.long)), Jvm.Cond.code ({ cls := "com/example/sito/sito/SliceCopyPinLaw", name := "expected", desc := "(IJJ)J" } : Jvm.MethodName) method_2_code (5 : Nat) (Option.some Jvm.ClassFile.FieldType.long)]
set_option maxRecDepth 65536 in
theorem codes_eq : words1.filter isCode = codes1 := rfl
theorem w_codes : ∀ c ∈ words1.filter isCode, c.before args0 about1 = true := by
  rw [codes_eq]
  intro c hc
  simp only [codes1, List.mem_cons, List.not_mem_nil, or_false] at hc
  rcases hc with rfl | rfl | rfl | rfl | rfl | rfl | rfl | rfl | rfl | rfl | rfl
  · exact w_c0
  · exact w_c1
  · exact w_c2
  · exact w_c3
  · exact w_c4
  · exact w_c5
  · exact w_c6
  · exact w_c7
  · exact w_c8
  · exact w_c9
  · exact w_c10
set_option maxRecDepth 65536 in
theorem w_t1 : (words1.take 24).all (fun c => isCode c || c.before args0 about1) = true := by decide +kernel
set_option maxRecDepth 65536 in
theorem w_t2 : ((words1.drop 24).take 24).all (fun c => isCode c || c.before args0 about1) = true := by decide +kernel
set_option maxRecDepth 65536 in
theorem w_t3 : (((words1.drop 24).drop 24).take 24).all (fun c => isCode c || c.before args0 about1) = true := by decide +kernel
set_option maxRecDepth 65536 in
theorem w_t4 : (((words1.drop 24).drop 24).drop 24).all (fun c => isCode c || c.before args0 about1) = true := by decide +kernel
theorem w_tables : (allAtoms (Jvm.Cond.code x code maxLocals ret :: tables_1)).before args0 about1 = true := by
  rw [allAtoms_all]
  show words1.all (fun c => c.before args0 about1) = true
  refine all_split ?_ w_codes
  rw [← List.take_append_drop 24 words1, List.all_append, w_t1, ← List.take_append_drop 24 (words1.drop 24), List.all_append, w_t2, ← List.take_append_drop 24 ((words1.drop 24).drop 24), List.all_append, w_t3, w_t4]
  rfl
set_option maxRecDepth 65536 in
theorem w_case : (Jvm.Cond.and given_1 narrow_1).before args0 about1 = true := by decide +kernel
theorem w_applies : (headSpec (Jvm.Cond.code x code maxLocals ret :: tables_1) room_1).applies x e0.platform about1 = true :=
  (Spec.applies_iff w_frames).mpr ⟨w_running, w_runnable, w_alone, w_named, w_hears, w_ripe, w_room, w_tables⟩
theorem atStart : AtStart classFile x code maxLocals ret World_1 tables_1 room_1 Calls_1 rest_1 Pre_1 launch0 p0 e0 about1 theMethod args0 below0 :=
  ⟨lists_1, trivial, launch0.admits_env _ _ _, launch0.least_env, fairChoices_fair.cas, fairChoices_fair.clock, w_frames, w_args, w_heap, w_applies, trivial, trivial, w_case⟩
end start1
theorem witness_1 : WitnessClaimed_1 := ⟨start1.p0, start1.e0, start1.about1, start1.theMethod, start1.args0, start1.below0, start1.atStart⟩
end Jvm.Pilot.@@N@@
