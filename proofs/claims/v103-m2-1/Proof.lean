import JvmDerived
import JvmDerived.Pilot.@@N@@Statement
import JvmDerived.Pilot.@@N@@Code
set_option linter.unusedVariables false
set_option linter.unusedSimpArgs false
namespace Jvm.Pilot.@@N@@
section Dyad
open Jvm.FP.Core
/-- the double x is the number m * 2 ^ (b - 1100) -/
def Dy (x : UInt64) (m : Int) (b : Nat) : Prop := ∃ (s : Bool) (c a : Nat), val64 x = .fin s c ((a : Int) - 1100) ∧ signed s c * (2 ^ a : Nat) = m * (2 ^ b : Nat)
theorem dy_sg (s : Bool) (c : Nat) (h : 0 < c) (m : Int) (x y : Nat) (hx : 0 < x) (hy : 0 < y) (e : signed s c * (x : Int) = m * (y : Int)) : signed s m.natAbs = m := by
  cases s
  · have p : 0 < (c : Int) * x := Int.mul_pos (by omega) (by omega)
    have q : 0 < m * (y : Int) := by rw [← e]; exact p
    have r : 0 < m := Int.pos_of_mul_pos_left q (by omega)
    simp only [signed, Bool.false_eq_true, if_false]
    omega
  · have p : -(c : Int) * x < 0 := by rw [Int.neg_mul]; have := Int.mul_pos (a := (c : Int)) (b := (x : Int)) (by omega) (by omega); omega
    have q : m * (y : Int) < 0 := by rw [← e]; exact p
    have r : m < 0 := by
      apply Classical.byContradiction
      intro n
      have := Int.mul_nonneg (a := m) (b := (y : Int)) (by omega) (by omega)
      omega
    simp only [signed, if_true]
    omega
theorem dy_round (s : Bool) (c A B M b : Nat) (m : Int) (e : signed s c * (2 ^ A : Nat) = m * (2 ^ B : Nat)) (hm : m.natAbs < 2 ^ 53) (hb : (B : Int) - M = b - 1100) (b1 : 78 ≤ b) (b2 : b ≤ 2000) :
    ∃ (s' : Bool) (c' a' : Nat), round b64 (.fin s c ((A : Int) - M)) = .fin s' c' ((a' : Int) - 1100) ∧ signed s' c' * (2 ^ a' : Nat) = m * (2 ^ b : Nat) := by
  by_cases hc : c = 0
  · subst hc
    have m0 : m = 0 := by
      rw [signed_zero, Int.zero_mul] at e
      have := Int.mul_eq_zero.mp e.symm
      have : 0 < 2 ^ B := Nat.two_pow_pos B
      omega
    refine ⟨s, 0, 26, ?_, ?_⟩
    · rfl
    · rw [signed_zero, m0, Int.zero_mul, Int.zero_mul]
  · have sg := dy_sg s c (by omega) m _ _ (Nat.two_pow_pos A) (Nat.two_pow_pos B) e
    have e1 : c * 2 ^ A = m.natAbs * 2 ^ B := by
      have := congrArg Int.natAbs e
      rw [Int.natAbs_mul, Int.natAbs_mul, natAbs_signed] at this
      simpa using this
    generalize hn : m.natAbs = n at *
    have n0 : n ≠ 0 := by
      intro q
      rw [q, Nat.zero_mul] at e1
      have := Nat.mul_pos (Nat.pos_of_ne_zero hc) (Nat.two_pow_pos A)
      omega
    have l1 : n.log2 ≤ 52 := by
      have := (Nat.log2_lt n0).mpr hm
      omega
    have l2 : 2 ^ n.log2 ≤ n := Nat.log2_self_le n0
    have l3 : n < 2 ^ (n.log2 + 1) := Nat.lt_log2_self
    generalize hj : 52 - n.log2 = j at *
    have j1 : n.log2 + j = 52 := by omega
    have f1 : 2 ^ 52 ≤ n * 2 ^ j := by
      rw [← j1, Nat.pow_add]
      exact Nat.mul_le_mul_right _ l2
    have f2 : n * 2 ^ j < 2 ^ 53 := by
      have : 2 ^ 53 = 2 ^ (n.log2 + 1) * 2 ^ j := by rw [← Nat.pow_add]; congr 1; omega
      rw [this]
      exact Nat.mul_lt_mul_of_pos_right l3 (Nat.two_pow_pos j)
    refine ⟨s, n * 2 ^ j, b - j, ?_, ?_⟩
    · refine roundRatio_exact good_b64 (by decide) ⟨f2, ?_, ?_, Or.inr f1⟩ ?_
      · show (-1074 : Int) ≤ _
        omega
      · show _ ≤ (971 : Int)
        omega
      · rw [Nat.mul_one]
        by_cases g : B ≤ A + j
        · have k1 : ((A : Int) - M - (((b - j : Nat) : Int) - 1100)).toNat = A + j - B := by omega
          have k2 : ((((b - j : Nat) : Int) - 1100) - ((A : Int) - M)).toNat = 0 := by omega
          rw [k1, k2, Nat.pow_zero, Nat.mul_one]
          apply Nat.eq_of_mul_eq_mul_right (Nat.two_pow_pos B)
          rw [Nat.mul_assoc, ← Nat.pow_add, show A + j - B + B = A + j by omega, Nat.pow_add, ← Nat.mul_assoc, e1, Nat.mul_assoc, Nat.mul_comm (2 ^ B), ← Nat.mul_assoc]
        · have k1 : ((A : Int) - M - (((b - j : Nat) : Int) - 1100)).toNat = 0 := by omega
          have k2 : ((((b - j : Nat) : Int) - 1100) - ((A : Int) - M)).toNat = B - (A + j) := by omega
          rw [k1, k2, Nat.pow_zero, Nat.mul_one]
          apply Nat.eq_of_mul_eq_mul_right (Nat.two_pow_pos A)
          rw [e1, Nat.mul_assoc, Nat.mul_assoc, ← Nat.pow_add, ← Nat.pow_add]
          congr 2
          omega
    · rw [signed_mul, sg, Int.mul_assoc, show ((2 ^ j : Nat) : Int) * ((2 ^ (b - j) : Nat) : Int) = ((2 ^ b : Nat) : Int) by rw [← Int.natCast_mul, ← Nat.pow_add]; congr 2; omega]
theorem dy_int (n : Int) (x : UInt64) (h : val64 x = round b64 (ofInt n)) (hn : n.natAbs < 2 ^ 53) : Dy x n 1100 := by
  have sg : signed (decide (n < 0)) n.natAbs = n := by
    by_cases q : n < 0
    · simp only [signed, q, decide_true, if_true]; omega
    · simp only [signed, q, decide_false, Bool.false_eq_true, if_false]; omega
  obtain ⟨s, c, a, h1, h2⟩ := dy_round (decide (n < 0)) n.natAbs 1100 1100 1100 1100 n (by rw [sg]) hn rfl (by decide) (by decide)
  exact ⟨s, c, a, by rw [h]; exact h1, h2⟩
theorem dy_i2d (v : Int32) : Dy (i2d v) v.toInt 1100 := dy_int _ _ (val64_i2d v) (by have := v.le_toInt; have := v.toInt_lt; omega)
theorem dy_l2d (v : Int64) (h : v.toInt.natAbs < 2 ^ 53) : Dy (l2d v) v.toInt 1100 := dy_int _ _ (val64_l2d v) h
theorem dy_mul {x y : UInt64} {m n : Int} {b d k : Nat} (hx : Dy x m b) (hy : Dy y n d) (hk : b + d = k + 1100) (h : (m * n).natAbs < 2 ^ 53) (k1 : 78 ≤ k) (k2 : k ≤ 2000) : Dy (dmul x y) (m * n) k := by
  obtain ⟨s, c, a, h1, h2⟩ := hx
  obtain ⟨t, c', a', g1, g2⟩ := hy
  have e : exactProduct (val64 x) (val64 y) = .fin (s != t) (c * c') (((a + a' : Nat) : Int) - (2200 : Nat)) := by
    rw [h1, g1]
    simp only [exactProduct]
    congr 1
    omega
  have sm : signed (s != t) (c * c') = signed s c * signed t c' := by
    cases s <;> cases t <;> simp [signed, Int.neg_mul, Int.mul_neg]
  obtain ⟨s', c2, a2, r1, r2⟩ := dy_round (s != t) (c * c') (a + a') (b + d) 2200 k (m * n) (by
    rw [sm, Nat.pow_add, Nat.pow_add, Int.natCast_mul, Int.natCast_mul]
    calc signed s c * signed t c' * (((2 ^ a : Nat) : Int) * ((2 ^ a' : Nat) : Int)) = (signed s c * ((2 ^ a : Nat) : Int)) * (signed t c' * ((2 ^ a' : Nat) : Int)) := by ac_rfl
      _ = (m * ((2 ^ b : Nat) : Int)) * (n * ((2 ^ d : Nat) : Int)) := by rw [h2, g2]
      _ = m * n * (((2 ^ b : Nat) : Int) * ((2 ^ d : Nat) : Int)) := by ac_rfl) h (by omega) k1 k2
  exact ⟨s', c2, a2, by rw [val64_dmul, e]; exact r1, r2⟩
theorem dy_add {x y : UInt64} {m n : Int} {b : Nat} (hx : Dy x m b) (hy : Dy y n b) (h : (m + n).natAbs < 2 ^ 53) (k1 : 78 ≤ b) (k2 : b ≤ 2000) : Dy (dadd x y) (m + n) b := by
  obtain ⟨s, c, a, h1, h2⟩ := hx
  obtain ⟨t, c', a', g1, g2⟩ := hy
  have sgn : ∀ (v : Int) (z : Bool), (v = 0 → True) → signed (sumSign s t v) v.natAbs = v := by
    intro v z _
    unfold sumSign
    by_cases q : v = 0
    · rw [q]; simp [signed]
    · rw [if_neg q]
      by_cases r : v < 0
      · simp only [signed, r, decide_true, if_true]; omega
      · simp only [signed, r, decide_false, Bool.false_eq_true, if_false]; omega
  generalize hmn : min a a' = w at *
  have wa : w ≤ a := by omega
  have wa' : w ≤ a' := by omega
  have hq : min ((a : Int) - 1100) ((a' : Int) - 1100) = (w : Int) - (1100 : Nat) := by omega
  have hu : sumUnits s c ((a : Int) - 1100) t c' ((a' : Int) - 1100) ((w : Int) - (1100 : Nat)) * ((2 ^ w : Nat) : Int) = (m + n) * ((2 ^ b : Nat) : Int) := by
    unfold sumUnits inUnits
    rw [show ((a : Int) - 1100 - ((w : Int) - (1100 : Nat))).toNat = a - w by omega, show ((a' : Int) - 1100 - ((w : Int) - (1100 : Nat))).toNat = a' - w by omega, signed_mul, signed_mul, Int.add_mul, Int.mul_assoc, Int.mul_assoc, ← Int.natCast_mul, ← Int.natCast_mul, ← Nat.pow_add, ← Nat.pow_add, show a - w + w = a by omega, show a' - w + w = a' by omega, h2, g2, Int.add_mul]
  have e : exactSum (val64 x) (val64 y) = .fin (sumSign s t (sumUnits s c ((a : Int) - 1100) t c' ((a' : Int) - 1100) ((w : Int) - (1100 : Nat)))) (sumUnits s c ((a : Int) - 1100) t c' ((a' : Int) - 1100) ((w : Int) - (1100 : Nat))).natAbs ((w : Int) - (1100 : Nat)) := by
    rw [h1, g1]
    simp only [exactSum]
    rw [hq]
  obtain ⟨s', c2, a2, r1, r2⟩ := dy_round _ _ w b 1100 b (m + n) (by rw [sgn _ true (fun _ => trivial)]; exact hu) h (by omega) k1 k2
  exact ⟨s', c2, a2, by rw [val64_dadd, e]; exact r1, r2⟩
theorem dy_neg {x : UInt64} {m : Int} {b : Nat} (hx : Dy x m b) : Dy (dneg x) (-m) b := by
  obtain ⟨s, c, a, h1, h2⟩ := hx
  refine ⟨!s, c, a, by rw [val64_dneg, h1]; rfl, ?_⟩
  rw [show signed (!s) c = - signed s c by cases s <;> simp [signed], Int.neg_mul, h2, Int.neg_mul]
theorem dy_sub {x y : UInt64} {m n : Int} {b : Nat} (hx : Dy x m b) (hy : Dy y n b) (h : (m - n).natAbs < 2 ^ 53) (k1 : 78 ≤ b) (k2 : b ≤ 2000) : Dy (dsub x y) (m - n) b := by
  rw [dsub_eq]
  exact dy_add hx (dy_neg hy) h k1 k2
theorem dy_ratio (s : Bool) (c d A B k n : Nat) (E : Int) (hd : 0 < d) (e : c * 2 ^ A = n * d * 2 ^ B) (hn : n < 2 ^ 53) (hE : (A : Int) - B = E - (k - 1100)) (k1 : 78 ≤ k) (k2 : k ≤ 2000) :
    ∃ (c' a' : Nat), roundRatio b64 s c d E = .fin s c' ((a' : Int) - 1100) ∧ c' * 2 ^ a' = n * 2 ^ k := by
  by_cases n0 : n = 0
  · subst n0
    have c0 : c = 0 := by
      rw [Nat.zero_mul, Nat.zero_mul] at e
      have := Nat.mul_eq_zero.mp e
      have : 0 < 2 ^ A := Nat.two_pow_pos A
      omega
    subst c0
    exact ⟨0, 26, rfl, by rw [Nat.zero_mul, Nat.zero_mul]⟩
  · have l1 : n.log2 ≤ 52 := by
      have := (Nat.log2_lt n0).mpr hn
      omega
    have l2 : 2 ^ n.log2 ≤ n := Nat.log2_self_le n0
    have l3 : n < 2 ^ (n.log2 + 1) := Nat.lt_log2_self
    generalize hj : 52 - n.log2 = j at *
    have j1 : n.log2 + j = 52 := by omega
    have f1 : 2 ^ 52 ≤ n * 2 ^ j := by
      rw [← j1, Nat.pow_add]
      exact Nat.mul_le_mul_right _ l2
    have f2 : n * 2 ^ j < 2 ^ 53 := by
      have : 2 ^ 53 = 2 ^ (n.log2 + 1) * 2 ^ j := by rw [← Nat.pow_add]; congr 1; omega
      rw [this]
      exact Nat.mul_lt_mul_of_pos_right l3 (Nat.two_pow_pos j)
    refine ⟨n * 2 ^ j, k - j, ?_, ?_⟩
    · refine roundRatio_exact good_b64 hd ⟨f2, ?_, ?_, Or.inr f1⟩ ?_
      · show (-1074 : Int) ≤ _
        omega
      · show _ ≤ (971 : Int)
        omega
      · by_cases g : B ≤ A + j
        · have q1 : (E - (((k - j : Nat) : Int) - 1100)).toNat = A + j - B := by omega
          have q2 : ((((k - j : Nat) : Int) - 1100) - E).toNat = 0 := by omega
          rw [q1, q2, Nat.pow_zero, Nat.mul_one]
          apply Nat.eq_of_mul_eq_mul_right (Nat.two_pow_pos B)
          rw [Nat.mul_assoc, ← Nat.pow_add, show A + j - B + B = A + j by omega, Nat.pow_add, ← Nat.mul_assoc, e]
          ac_rfl
        · have q1 : (E - (((k - j : Nat) : Int) - 1100)).toNat = 0 := by omega
          have q2 : ((((k - j : Nat) : Int) - 1100) - E).toNat = B - (A + j) := by omega
          rw [q1, q2, Nat.pow_zero, Nat.mul_one]
          apply Nat.eq_of_mul_eq_mul_right (Nat.two_pow_pos A)
          rw [e, show B = j + (B - (A + j)) + A by omega, Nat.pow_add, Nat.pow_add, show j + (B - (A + j)) + A - (A + j) = B - (A + j) by omega]
          ac_rfl
    · rw [Nat.mul_assoc, ← Nat.pow_add]
      congr 2
      omega
/-- an exact quotient -/
theorem dy_div {x y : UInt64} {m n r : Int} {b d k : Nat} (hx : Dy x m b) (hy : Dy y n d) (hn : n ≠ 0) (hr : m = r * n) (hk : b + 1100 = k + d) (h : r.natAbs < 2 ^ 53) (k1 : 78 ≤ k) (k2 : k ≤ 2000) : Dy (ddiv x y) r k := by
  obtain ⟨s, c, a, h1, h2⟩ := hx
  obtain ⟨t, c', a', g1, g2⟩ := hy
  have c0 : 0 < c' := by
    apply Nat.pos_of_ne_zero
    intro q
    rw [q, signed_zero, Int.zero_mul] at g2
    have := Int.mul_eq_zero.mp g2.symm
    have : 0 < 2 ^ d := Nat.two_pow_pos d
    omega
  have e1 : c * 2 ^ a = r.natAbs * n.natAbs * 2 ^ b := by
    have := congrArg Int.natAbs h2
    rw [hr, Int.natAbs_mul, Int.natAbs_mul, Int.natAbs_mul, natAbs_signed] at this
    simpa using this
  have e2 : c' * 2 ^ a' = n.natAbs * 2 ^ d := by
    have := congrArg Int.natAbs g2
    rw [Int.natAbs_mul, Int.natAbs_mul, natAbs_signed] at this
    simpa using this
  have n0 : 0 < n.natAbs := by omega
  have e3 : c * 2 ^ (a + d) = r.natAbs * c' * 2 ^ (b + a') := by
    apply Nat.eq_of_mul_eq_mul_right n0
    rw [Nat.pow_add, Nat.pow_add]
    calc c * (2 ^ a * 2 ^ d) * n.natAbs = (c * 2 ^ a) * (n.natAbs * 2 ^ d) := by ac_rfl
      _ = (r.natAbs * n.natAbs * 2 ^ b) * (c' * 2 ^ a') := by rw [e1, e2]
      _ = r.natAbs * c' * (2 ^ b * 2 ^ a') * n.natAbs := by ac_rfl
  obtain ⟨c2, a2, r1, r2⟩ := dy_ratio (s != t) c c' (a + d) (b + a') k r.natAbs ((a : Int) - 1100 - ((a' : Int) - 1100)) c0 e3 h (by omega) k1 k2
  refine ⟨s != t, c2, a2, ?_, ?_⟩
  · rw [val64_ddiv, h1, g1]
    simp only [quotient]
    rw [if_neg (by omega)]
    exact r1
  · have e4 : signed (s != t) c2 * ((2 ^ a2 : Nat) : Int) = signed (s != t) (r.natAbs) * ((2 ^ k : Nat) : Int) := by
      rw [← signed_mul, ← signed_mul, r2]
    rw [e4]
    congr 1
    by_cases q : r = 0
    · rw [q]; exact signed_zero _
    · have cc : 0 < c := by
        apply Nat.pos_of_ne_zero
        intro z
        rw [z, Nat.zero_mul] at e1
        have : 0 < r.natAbs * n.natAbs * 2 ^ b := Nat.mul_pos (Nat.mul_pos (by omega) n0) (Nat.two_pow_pos b)
        omega
      have s1 := dy_sg s c cc m _ _ (Nat.two_pow_pos a) (Nat.two_pow_pos b) h2
      have s2 := dy_sg t c' c0 n _ _ (Nat.two_pow_pos a') (Nat.two_pow_pos d) g2
      have s3 : signed (s != t) (r.natAbs * n.natAbs) * signed t n.natAbs = signed s m.natAbs * (n.natAbs : Int) := by
        rw [hr, Int.natAbs_mul]
        cases s <;> cases t <;> simp [signed, Int.neg_mul, Int.mul_neg]
      rw [s1, s2, hr, signed_mul] at s3
      have s4 : signed (s != t) r.natAbs * ((n.natAbs : Int) * n) = r * ((n.natAbs : Int) * n) := by
        calc signed (s != t) r.natAbs * ((n.natAbs : Int) * n) = signed (s != t) r.natAbs * (n.natAbs : Int) * n := by ac_rfl
          _ = r * n * (n.natAbs : Int) := s3
          _ = r * ((n.natAbs : Int) * n) := by ac_rfl
      exact Int.eq_of_mul_eq_mul_right (Int.mul_ne_zero (by omega) hn) s4
theorem dy_fin {x : UInt64} {m : Int} {b : Nat} (h : Dy x m b) : val64 x ≠ .nan := by
  obtain ⟨s, c, a, h1, -⟩ := h
  rw [h1]
  exact nofun
theorem dy_cmp {x y : UInt64} {m n : Int} {b : Nat} (hx : Dy x m b) (hy : Dy y n b) : dcmp x y = some (compare m n) := by
  obtain ⟨s, c, a, h1, h2⟩ := hx
  obtain ⟨t, c', a', g1, g2⟩ := hy
  show order (val64 x) (val64 y) = _
  rw [h1, g1]
  simp only [order]
  congr 1
  generalize hmn : min a a' = w at *
  have wa : w ≤ a := by omega
  have wa' : w ≤ a' := by omega
  have hq : min ((a : Int) - 1100) ((a' : Int) - 1100) = (w : Int) - 1100 := by omega
  rw [hq]
  unfold inUnits
  rw [show ((a : Int) - 1100 - ((w : Int) - 1100)).toNat = a - w by omega, show ((a' : Int) - 1100 - ((w : Int) - 1100)).toNat = a' - w by omega]
  have p1 : signed s (c * 2 ^ (a - w)) * ((2 ^ w : Nat) : Int) = m * ((2 ^ b : Nat) : Int) := by
    rw [signed_mul, Int.mul_assoc, ← Int.natCast_mul, ← Nat.pow_add, show a - w + w = a by omega, h2]
  have p2 : signed t (c' * 2 ^ (a' - w)) * ((2 ^ w : Nat) : Int) = n * ((2 ^ b : Nat) : Int) := by
    rw [signed_mul, Int.mul_assoc, ← Int.natCast_mul, ← Nat.pow_add, show a' - w + w = a' by omega, g2]
  generalize signed s (c * 2 ^ (a - w)) = u at *
  generalize signed t (c' * 2 ^ (a' - w)) = v at *
  have hw : (0 : Int) < ((2 ^ w : Nat) : Int) := Int.natCast_pos.mpr (Nat.two_pow_pos w)
  have hb : (0 : Int) < ((2 ^ b : Nat) : Int) := Int.natCast_pos.mpr (Nat.two_pow_pos b)
  have lt : u < v ↔ m < n := by
    constructor
    · intro q
      have := Int.mul_lt_mul_of_pos_right q hw
      rw [p1, p2] at this
      exact Int.lt_of_mul_lt_mul_right this (by omega)
    · intro q
      have := Int.mul_lt_mul_of_pos_right q hb
      rw [← p1, ← p2] at this
      exact Int.lt_of_mul_lt_mul_right this (by omega)
  have eq : u = v ↔ m = n := by
    constructor
    · intro q
      rw [q] at p1
      exact Int.eq_of_mul_eq_mul_right (by omega) (p1.symm.trans p2)
    · intro q
      rw [q] at p1
      exact Int.eq_of_mul_eq_mul_right (by omega) (p1.trans p2.symm)
  simp only [compare, compareOfLessAndEq, lt, eq]
theorem dy_up {x : UInt64} {m : Int} {b : Nat} (h : Dy x m b) (k : Nat) (hk : k ≤ b) : Dy x (m * (2 ^ k : Nat)) (b - k) := by
  obtain ⟨s, c, a, h1, h2⟩ := h
  exact ⟨s, c, a, h1, by rw [h2, Int.mul_assoc, ← Int.natCast_mul, ← Nat.pow_add, show k + (b - k) = b by omega]⟩
theorem dy_nn {x : UInt64} {m : Int} {b : Nat} (h : Dy x m b) : Jvm.Free.Fl.NoNaN64 x := Jvm.Free.Fl.val64_no.mpr (dy_fin h)
end Dyad
end Jvm.Pilot.@@N@@
namespace Jvm.Pilot.@@N@@
open Jvm Jvm.ClassFile Sem Op Lib Jvm.Free Jvm.Stand Jvm.LawKit Jvm.RoadKit Bundle Jvm.Pilot.@@N@@.Jvm.D
/-- from here the run comes to a state of which G holds -/
def OWay (p : Program) (e : Env) (below : List Frame) (G : State → Prop) (T : State) (g : JFrame) : Prop := ∃ t, Steps p.tables e below (T.setTop g) t ∧ G t
/-- how a body ends: it returned, with what Q says of its value, the heap and the places written -/
def OEnd (s : State) (below : List Frame) (Q : Option Value → Heap → List Loc → Prop) (cs sl : Nat) (t : State) : Prop := ∃ o, t.status = .running ∧ Ended t below o ∧ ∃ v L, o = .returned v ∧ Q v t.heap L ∧ FrameEnd s o t L cs sl
/-- a body's contract, as a call wants it -/
def OCon (l : Launch) (y : MethodName) (bytes : ByteArray) (maxL : Nat) (rt : Option FieldType) (ws : List Jvm.Cond) (rm : Room) (Z : State) (as' : Array Value) (h : Heap) (Q : Option Value → Heap → List Loc → Prop) : Prop :=
  MetFree l y (head1 (Jvm.Cond.code y bytes maxL rt :: ws) rm) (fun a U => a = as' ∧ Z.Warmed39 U.vm ∧ U.heap = h) (fun _ _ _ _ _ => True) (fun _ U o U' => ∃ v L, o = .returned v ∧ Q v U'.heap L ∧ FrameEnd U o U' L rm.cells rm.slots)
section Own
variable {p : Program} {l : Launch} {e : Env} {R : Room} {s : State} {m : MethodId} {args : Array Value} {below : List Frame} {meth : Method} {c : Code} {T T' : State} {locs : List Loc} {cells slots : Nat} {Z : State} {a0 : Array Value} {h : Heap} {G : State → Prop} {g g' : JFrame} {Q : Option Value → Heap → List Loc → Prop} {cs sl : Nat}
theorem ogo (q : ∀ t, Steps p.tables e below (T'.setTop g') t → Steps p.tables e below (T.setTop g) t) (w : OWay p e below G T' g') : OWay p e below G T g := by
  obtain ⟨t, h1, h2⟩ := w
  exact ⟨t, q t h1, h2⟩
theorem ogoS (q : Steps p.tables e below (T.setTop g) (T'.setTop g')) (w : OWay p e below G T' g') : OWay p e below G T g := ogo (fun _ k => q.trans k) w
theorem ogoE (q : g = g') (w : OWay p e below G T g') : OWay p e below G T g := q ▸ w
theorem ocon {y : MethodName} {bytes : ByteArray} {maxL : Nat} {rt : Option FieldType} {ws : List Jvm.Cond} {rm : Room} {as' : Array Value} (hp : plainFor y = true)
    (body : ∀ (p : Program) (e : Env) (s : State) (m : MethodId) (below : List Frame) (meth : Method) (c : Code) (s₁ : State), p.tables.exec = Jvm.exec → c.code = bytes → c.maxLocals = maxL → s.vm.findClass y.cls = some m.cls → meth.name = y.name → meth.sig.returnType = rt → meth.locks = false → Z.Warmed39 s.vm →
      Stand p l e rm s m as' below meth c s₁ [] 0 0 → s₁.heap = h → OWay p e below (OEnd s below Q rm.cells rm.slots) s₁ (entryFrame m as' maxL)) : OCon l y bytes maxL rt ws rm Z as' h Q := by
  refine MetFree.of_bodySF hp hisR ?_
  intro p e s m args below meth c s₁ Bd hml0 hP hK
  obtain ⟨rfl, hZ, hh⟩ := hP
  obtain ⟨t, h1, o, h2, h3, h4⟩ := body p e s m below meth c s₁ Bd.exec Bd.bytes hml0 (findClass_of_methodNamed Bd.named) (name_of_methodNamed Bd.named Bd.method).1 Bd.returns Bd.notSynchronized hZ (Stand.of_body Bd) (by rw [← hh, Bd.state]; rfl)
  exact ⟨t, o, h1, h2, h3, h4⟩
theorem wRetN (X : Stand p l e R s m args below meth c T locs cells slots) (hx : p.tables.exec = Jvm.exec) {pc : Nat} {Ls : Array Slot} {z : Int32} {t : FieldType} {rest : List Value} (hret : meth.sig.returnType = some t) (hlk : meth.locks = false) (ht : t = .boolean ∨ t = .byte ∨ t = .char ∨ t = .short)
    (hd : decode c.code pc = .ok (.ireturn, 1)) (hc : cells ≤ cs) (hs : slots ≤ sl) (eT : T.heap = h) (hq : Q (some (.int (nar t z))) h locs) : OWay p e below (OEnd s below Q cs sl) T (mkF m pc Ls (.int z :: rest)) := by
  obtain ⟨fs, hr, hrun, hended, hW, hsame⟩ := X.leave (v := some (.int (nar t z))) (fun q => by rw [hret] at q; cases q) hlk
  exact ⟨_, retN X hx hret ht hd hr, _, hrun, hended, _, _, rfl, by subst eT; exact hq, ⟨_, rfl⟩, hW, hsame.mono hc hs⟩
theorem wRet (X : Stand p l e R s m args below meth c T locs cells slots) (hx : p.tables.exec = Jvm.exec) {pc : Nat} {Ls : Array Slot} {w : Value} {t : FieldType} {i : Instr} {rest : List Value} (hret : meth.sig.returnType = some t) (hlk : meth.locks = false) (hn : narrow t w = w)
    (hi : (i = .ireturn ∧ (t = .int ∨ t = .boolean ∨ t = .byte ∨ t = .char ∨ t = .short) ∧ ∃ z, w = .int z) ∨ (i = .lreturn ∧ t = .long ∧ ∃ z, w = .long z) ∨ (i = .dreturn ∧ t = .double ∧ ∃ z, w = .double z) ∨ (i = .freturn ∧ t = .float ∧ ∃ z, w = .float z) ∨ (i = .areturn ∧ t.isReference = true ∧ w.isRef = true))
    (hd : decode c.code pc = .ok (i, 1)) (hc : cells ≤ cs) (hs : slots ≤ sl) (eT : T.heap = h) (hq : Q (some w) h locs) : OWay p e below (OEnd s below Q cs sl) T (mkF m pc Ls (w :: rest)) := by
  obtain ⟨fs, hr, hrun, hended, hW, hsame⟩ := X.leave (v := some w) (fun q => by rw [hret] at q; cases q) hlk
  exact ⟨_, retOut X hx hret hn hi hd hr, _, hrun, hended, _, _, rfl, by subst eT; exact hq, ⟨_, rfl⟩, hW, hsame.mono hc hs⟩
theorem wRetV (X : Stand p l e R s m args below meth c T locs cells slots) (hx : p.tables.exec = Jvm.exec) {pc : Nat} {Ls : Array Slot} (hret : meth.sig.returnType = none) (hlk : meth.locks = false)
    (hd : decode c.code pc = .ok (.return_, 1)) (hc : cells ≤ cs) (hs : slots ≤ sl) (eT : T.heap = h) (hq : Q none h locs) : OWay p e below (OEnd s below Q cs sl) T (mkF m pc Ls []) := by
  obtain ⟨fs, hr, hrun, hended, hW, hsame⟩ := X.leave (v := none) (fun _ => rfl) hlk
  exact ⟨_, X.returnOut hx hret hd hr, _, hrun, hended, _, _, rfl, by subst eT; exact hq, ⟨_, rfl⟩, hW, hsame.mono hc hs⟩
theorem wStatic (X : Stand p l e R s m args below meth c T locs cells slots) (hx : p.tables.exec = Jvm.exec) (hZ : Z.Warmed39 s.vm) {own : String} {index : Nat} {y : MethodName} {bytes : ByteArray} {maxL : Nat} {rt : Option FieldType} {rm : Room} {as' : Array Value} (hown : s.vm.findClass own = some m.cls)
    (w1 : (Jvm.Cond.methodLink own index y).before a0 Z = true) (w2 : (Jvm.Cond.static y).before a0 Z = true) (w3 : (Jvm.Cond.initialized y.cls).before a0 Z = true) (w4 : (Jvm.Cond.code y bytes maxL rt).before a0 Z = true) (hy : y.cls ≠ "java/lang/invoke/MethodHandle" ∧ y.cls ≠ "java/lang/invoke/VarHandle")
    (hM : OCon l y bytes maxL rt [] rm Z as' h Q) (W : Nat) (hf : rm.frames + 1 ≤ R.frames) (hl : W + (maxL + 11) + rm.locals ≤ R.locals) {g : JFrame} (hg : g.method = m) (hsize : g.locals.size = c.maxLocals) {argsL rest : List Value} (hlen : ∀ sig, parseMethodDescriptor y.desc = some sig → argsL.length = sig.parameters.length)
    (hstack : g.stack = argsL.reverse ++ rest) (hW : 2 * g.monitorRoom + (rest.map fun v => v.category).sum ≤ W) (hd : decode c.code g.pc = .ok (.invokestatic index, 3)) (has : argsL.toArray = as') (eT : T.heap = h) (hc : cells + rm.cells ≤ R.cells) (hs : slots + rm.slots ≤ R.slots) :
    ∃ (v : Option Value) (T' : State) (L : List Loc), Stand p l e R s m args below meth c T' (locs ++ L) (cells + rm.cells) (slots + rm.slots) ∧ Q v T'.heap L ∧ ∀ target, Steps p.tables e below (T'.setTop { g with pc := g.pc + 3, stack := v.toList ++ rest }) target → Steps p.tables e below (T.setTop g) target := by
  obtain ⟨v, _, ⟨T1, L1, k1, n1⟩, -, X1, ⟨Lc, hQ, l1, y1, z1⟩, st⟩ := Jvm.LawKit.callS X hx (y := y) hown (mvT hZ w1) (mvT hZ w2) (mvT hZ w3) (mvT hZ w4) hy (backOf (W := W) hM hZ w4 w3 hf hl) (g := g) hg hsize (argsL := argsL) (rest := rest) hlen hstack hW hd (fun _ _ => ⟨has, eT, hc, hs⟩)
  dsimp only [Pt.U, Pt.locs, Pt.cells, Pt.slots] at X1 l1 y1 z1 st hQ
  subst l1 y1 z1
  exact ⟨v, T1, Lc, X1, hQ, st⟩
theorem wInit (X : Stand p l e R s m args below meth c T locs cells slots) (hx : p.tables.exec = Jvm.exec) (hZ : Z.Warmed39 s.vm) {own : String} {index : Nat} {y : MethodName} {bytes : ByteArray} {maxL : Nat} {rm : Room} {as' : Array Value} (hy1 : y.name = "<init>") (hown : s.vm.findClass own = some m.cls)
    (w1 : (Jvm.Cond.methodLink own index y).before a0 Z = true) (w2 : (Jvm.Cond.instanceMethod y).before a0 Z = true) (w3 : (Jvm.Cond.initialized y.cls).before a0 Z = true) (w4 : (Jvm.Cond.code y bytes maxL none).before a0 Z = true) (hy : y.cls ≠ "java/lang/invoke/MethodHandle" ∧ y.cls ≠ "java/lang/invoke/VarHandle")
    (hM : OCon l y bytes maxL none [] rm Z as' h Q) (W : Nat) (hf : rm.frames + 1 ≤ R.frames) (hl : W + (maxL + 11) + rm.locals ≤ R.locals) {g : JFrame} (hg : g.method = m) (hsize : g.locals.size = c.maxLocals) {a : Addr} {argsL rest : List Value} (hlen : ∀ sig, parseMethodDescriptor y.desc = some sig → argsL.length = sig.parameters.length)
    (hstack : g.stack = argsL.reverse ++ .ref a :: rest) (hW : 2 * g.monitorRoom + (rest.map fun v => v.category).sum ≤ W) (hd : decode c.code g.pc = .ok (.invokespecial index, 3)) (has : (.ref a :: argsL).toArray = as') (eT : T.heap = h) (hc : cells + rm.cells ≤ R.cells) (hs : slots + rm.slots ≤ R.slots) :
    ∃ (v : Option Value) (T' : State) (L : List Loc), Stand p l e R s m args below meth c T' (locs ++ L) (cells + rm.cells) (slots + rm.slots) ∧ Q v T'.heap L ∧ Steps p.tables e below (T.setTop g) (T'.setTop { g with pc := g.pc + 3, stack := v.toList ++ rest }) := by
  obtain ⟨v, _, ⟨T1, L1, k1, n1⟩, -, X1, ⟨Lc, hQ, l1, y1, z1⟩, st⟩ := X.specialBack hx (y := y) hy1 hown (mvT hZ w1) (mvT hZ w2) (mvT hZ w4) hy (backOf (W := W) hM hZ w4 w3 hf hl) (g := g) hg hsize (Steps.refl _) (a := a) (argsL := argsL) (rest := rest) hlen hstack hW hd (fun _ _ => ⟨has, eT, hc, hs⟩)
  dsimp only [Pt.U, Pt.locs, Pt.cells, Pt.slots] at X1 l1 y1 z1 st hQ
  subst l1 y1 z1
  exact ⟨v, T1, Lc, X1, hQ, st⟩
theorem wVirtual (X : Stand p l e R s m args below meth c T locs cells slots) (hx : p.tables.exec = Jvm.exec) (hZ : Z.Warmed39 s.vm) {own C : String} {index : Nat} {y z : MethodName} {bytes : ByteArray} {maxL : Nat} {rt : Option FieldType} {rm : Room} {as' : Array Value} (hown : s.vm.findClass own = some m.cls)
    (w1 : (Jvm.Cond.methodLink own index y).before a0 Z = true) (w2 : (Jvm.Cond.declares y).before a0 Z = true) (nf : NotFace s y) (w5 : (Jvm.Cond.selects C y z).before a0 Z = true) (w6 : (Jvm.Cond.instanceMethod z).before a0 Z = true) (w3 : (Jvm.Cond.initialized z.cls).before a0 Z = true) (w4 : (Jvm.Cond.code z bytes maxL rt).before a0 Z = true)
    (hy : y.cls ≠ "java/lang/invoke/MethodHandle" ∧ y.cls ≠ "java/lang/invoke/VarHandle") (hM : OCon l z bytes maxL rt [] rm Z as' h Q) (W : Nat) (hf : rm.frames + 1 ≤ R.frames) (hl : W + (maxL + 11) + rm.locals ≤ R.locals) {b : Addr} (E : Exa Z h b C) {g : JFrame} (hg : g.method = m) (hsize : g.locals.size = c.maxLocals) {argsL rest : List Value} (hlen : ∀ sig, parseMethodDescriptor y.desc = some sig → argsL.length = sig.parameters.length)
    (hstack : g.stack = argsL.reverse ++ .ref b :: rest) (hW : 2 * g.monitorRoom + (rest.map fun v => v.category).sum ≤ W) (hd : decode c.code g.pc = .ok (.invokevirtual index, 3)) (has : (.ref b :: argsL).toArray = as') (eT : T.heap = h) (hc : cells + rm.cells ≤ R.cells) (hs : slots + rm.slots ≤ R.slots) :
    ∃ (v : Option Value) (T' : State) (L : List Loc), Stand p l e R s m args below meth c T' (locs ++ L) (cells + rm.cells) (slots + rm.slots) ∧ Q v T'.heap L ∧ Steps p.tables e below (T.setTop g) (T'.setTop { g with pc := g.pc + 3, stack := v.toList ++ rest }) := by
  obtain ⟨cq, kq, qa, qb, qc⟩ := isOf hZ eT E
  obtain ⟨v, _, ⟨T1, L1, k1, n1⟩, -, X1, ⟨Lc, hQ, l1, y1, z1⟩, st⟩ := X.virtualBack hx (y := y) (z := z) hown (mvT hZ w1) (mvT hZ w2) nf (mvT hZ w5) (mvT hZ w6) hy (backOf (W := W) hM hZ w4 w3 hf hl) qa qc (g := g) hg hsize (Steps.refl _) (argsL := argsL) (rest := rest) hlen hstack hW hd (fun _ _ => ⟨has, eT, hc, hs⟩)
  dsimp only [Pt.U, Pt.locs, Pt.cells, Pt.slots] at X1 l1 y1 z1 st hQ
  subst l1 y1 z1
  exact ⟨v, T1, Lc, X1, hQ, st⟩
end Own
end Jvm.Pilot.@@N@@
namespace Jvm.Pilot.@@N@@
open Jvm Jvm.ClassFile Sem Op Lib Jvm.Free Jvm.Stand Jvm.LawKit Jvm.RoadKit Bundle Jvm.Pilot.@@N@@.Jvm.D
def kk (q : Int64) : Int32 := ((q >>> ((32 : Int32) &&& 0x3f).toInt64).toInt32) % (1000 : Int32)
def hh (q : Int64) : Int32 := ((q.toInt32) &&& (65535 : Int32)) + (1 : Int32)
theorem own_eq {x y : UInt64} {m : Int} {b : Nat} (hx : Dy x m b) (hy : Dy y m b) : cmpValue (FP.dcmp x y) .l = (0 : Int32) := by
  have e : FP.dcmp x y = some (compare m m) := dy_cmp hx hy
  rw [e]
  simp only [compare, compareOfLessAndEq, Int.lt_irrefl, if_false, if_true]
  rfl
theorem own_k (q : Int64) : -1000 < (kk q).toInt ∧ (kk q).toInt < 1000 := by
  unfold kk
  generalize (q >>> ((32 : Int32) &&& 0x3f).toInt64).toInt32 = x
  have c := c_irem x 1000 1000 (by decide)
  by_cases p : 0 ≤ x.toInt
  · have := c.1 p
    omega
  · have := c.2 (by omega)
    omega
theorem own_h (q : Int64) : 1 ≤ (hh q).toInt ∧ (hh q).toInt ≤ 65536 := by
  unfold hh
  have m := c_mask q.toInt32 65535 16 (by decide) (by decide)
  have a := c_iadd (q.toInt32 &&& 65535) 1
  have e : (1 : Int32).toInt = 1 := by decide
  have r := rng32 ((q.toInt32 &&& 65535) + 1)
  omega
theorem own_kh (q : Int64) : ((kk q) * (hh q)).toInt = (kk q).toInt * (hh q).toInt := by
  have k := own_k q
  have h := own_h q
  have c := c_imul (kk q) (hh q)
  have r := rng32 ((kk q) * (hh q))
  have b := mc (a := (kk q).toInt) (b := (hh q).toInt) (l1 := -1000) (h1 := 1000) (l2 := 1) (h2 := 65536) (by omega) (by omega) (by omega) (by omega)
  generalize (kk q).toInt * (hh q).toInt = z at *
  omega
theorem own_q (q : Int64) : Dy (FP.ddiv (FP.i2d ((kk q) * (hh q))) (FP.i2d (hh q))) (kk q).toInt 1100 := by
  have k := own_k q
  have h := own_h q
  exact dy_div (dy_i2d _) (dy_i2d _) (by omega) (own_kh q) (by decide) (by omega) (by decide) (by decide)
theorem own_r (q : Int64) : cmpValue (FP.dcmp (FP.ddiv (FP.i2d ((kk q) * (hh q))) (FP.i2d (hh q))) (FP.i2d (kk q))) .l = (0 : Int32) := own_eq (own_q q) (dy_i2d _)
theorem own_c (p v : Int32) (h : v = (p &&& (3 : Int32))) : v = (0 : Int32) ∨ v = (1 : Int32) ∨ v = (2 : Int32) ∨ v = (3 : Int32) := by
  have m := c_mask p 3 2 (by decide) (by decide)
  rw [← h] at m
  have e0 : (0 : Int32).toInt = 0 := by decide
  have e1 : (1 : Int32).toInt = 1 := by decide
  have e2 : (2 : Int32).toInt = 2 := by decide
  have e3 : (3 : Int32).toInt = 3 := by decide
  simp only [← Int32.toInt_inj, e0, e1, e2, e3]
  omega
theorem pn_com_example_stockwire_stockwire_SideBySideRatiosPinLaw : plainName "com/example/stockwire/stockwire/SideBySideRatiosPinLaw" = true := by first | (simp [plainName, overriddenIn]; done) | decide +kernel
theorem d2_0 : decode method_2_code 0 = .ok (.lload_n 0, 1) := by decide +kernel
theorem d2_1 : decode method_2_code 1 = .ok (.bipush 32, 2) := by decide +kernel
theorem d2_3 : decode method_2_code 3 = .ok (.lshr, 1) := by decide +kernel
theorem d2_4 : decode method_2_code 4 = .ok (.l2i, 1) := by decide +kernel
theorem d2_5 : decode method_2_code 5 = .ok (.sipush 1000, 3) := by decide +kernel
theorem d2_8 : decode method_2_code 8 = .ok (.irem, 1) := by decide +kernel
theorem d2_9 : decode method_2_code 9 = .ok (.ireturn, 1) := by decide +kernel
def kk_b_rm : Room := { frames := 0, cells := 0, slots := 0, locals := 0 }
def kk_b_Q (Z : State) (q0 : Int64) (h0 : Heap) (n0 : Nat) (v : Option Value) (h : Heap) (L : List Loc) : Prop := (v = some (.int (kk q0))) ∧ (Fr n0 L) ∧ (h = h0)
theorem kk_b_ef (m : MethodId) (q0 : Int64) : entryFrame m #[(.long q0)] 2 = mkF m 0 #[.val (.long q0), .second] [] := by first | (simp [entryFrame, mkF, argsToLocals, Value.category]; done) | rfl
set_option maxRecDepth 65536 in
set_option maxHeartbeats 40000000 in
theorem kk_b_c (l : Launch) (Z : State) (az : Array Value) (hw : ∀ d ∈ tables_1, d.before az Z = true) (ws : List Jvm.Cond) (q0 : Int64) (h0 : Heap) (n0 : Nat) (Z0 : n0 ≤ h0.size) :
    OCon l (⟨"com/example/stockwire/stockwire/SideBySideRatiosPinLaw", "k", "(J)I"⟩ : MethodName) method_2_code 2 (some .int) ws kk_b_rm Z #[(.long q0)] h0 (kk_b_Q Z q0 h0 n0) := by
  refine ocon (plainFor_of_name pn_com_example_stockwire_stockwire_SideBySideRatiosPinLaw) ?_
  intro p e s m below meth c s₁ hx hby hml hown hnm hret hlk hZ X0 eh0
  have N0 := Fr.nil n0
  have K0 := Keep.refl h0 []
  refine ogoE (kk_b_ef m q0) ?_
  generalize hG : (OEnd s below (kk_b_Q Z q0 h0 n0) kk_b_rm.cells kk_b_rm.slots) = G
  show OWay p e below G s₁ (mkF m 0 #[.val (.long q0), .second] [])
  refine ogo (fun _ z_ => XS.lloadN X0.here hx rfl (hb hby d2_0) rfl z_) ?_
  show OWay p e below G s₁ (mkF m 1 #[.val (.long q0), .second] [(.long q0)])
  refine ogo (fun _ z_ => XS.bipush X0.here hx rfl (hb hby d2_1) z_) ?_
  show OWay p e below G s₁ (mkF m 3 #[.val (.long q0), .second] [(.int (32 : Int32)), (.long q0)])
  refine ogo (fun _ z_ => XS.lshr X0.here hx rfl (hb hby d2_3) rfl z_) ?_
  show OWay p e below G s₁ (mkF m 4 #[.val (.long q0), .second] [(.long (q0 >>> ((32 : Int32) &&& 0x3f).toInt64))])
  refine ogo (fun _ z_ => XS.l2i X0.here hx rfl (hb hby d2_4) rfl z_) ?_
  show OWay p e below G s₁ (mkF m 5 #[.val (.long q0), .second] [(.int ((q0 >>> ((32 : Int32) &&& 0x3f).toInt64).toInt32))])
  refine ogo (fun _ z_ => XS.sipush X0.here hx rfl (hb hby d2_5) z_) ?_
  show OWay p e below G s₁ (mkF m 8 #[.val (.long q0), .second] [(.int (1000 : Int32)), (.int ((q0 >>> ((32 : Int32) &&& 0x3f).toInt64).toInt32))])
  refine ogo (fun _ z_ => iremM X0 hx rfl (hb hby d2_8) rfl (by decide) z_) ?_
  show OWay p e below G s₁ (mkF m 9 #[.val (.long q0), .second] [(.int (((q0 >>> ((32 : Int32) &&& 0x3f).toInt64).toInt32) % (1000 : Int32)))])
  subst hG
  refine wRet X0 hx hret hlk rfl (Or.inl ⟨rfl, Or.inl rfl, _, rfl⟩) (hb hby d2_9) (by decide) (by decide) eh0 ?_
  exact ⟨rfl, N0, rfl⟩
theorem d3_0 : decode method_3_code 0 = .ok (.lload_n 0, 1) := by decide +kernel
theorem d3_1 : decode method_3_code 1 = .ok (.l2i, 1) := by decide +kernel
theorem d3_2 : decode method_3_code 2 = .ok (.ldc 7, 2) := by decide +kernel
theorem d3_4 : decode method_3_code 4 = .ok (.iand, 1) := by decide +kernel
theorem d3_5 : decode method_3_code 5 = .ok (.iconst 1, 1) := by decide +kernel
theorem d3_6 : decode method_3_code 6 = .ok (.iadd, 1) := by decide +kernel
theorem d3_7 : decode method_3_code 7 = .ok (.ireturn, 1) := by decide +kernel
def hh_b_rm : Room := { frames := 0, cells := 0, slots := 0, locals := 0 }
def hh_b_Q (Z : State) (q0 : Int64) (h0 : Heap) (n0 : Nat) (v : Option Value) (h : Heap) (L : List Loc) : Prop := (v = some (.int (hh q0))) ∧ (Fr n0 L) ∧ (h = h0)
theorem hh_b_ef (m : MethodId) (q0 : Int64) : entryFrame m #[(.long q0)] 2 = mkF m 0 #[.val (.long q0), .second] [] := by first | (simp [entryFrame, mkF, argsToLocals, Value.category]; done) | rfl
set_option maxRecDepth 65536 in
set_option maxHeartbeats 40000000 in
theorem hh_b_c (l : Launch) (Z : State) (az : Array Value) (hw : ∀ d ∈ tables_1, d.before az Z = true) (ws : List Jvm.Cond) (q0 : Int64) (h0 : Heap) (n0 : Nat) (Z0 : n0 ≤ h0.size) :
    OCon l (⟨"com/example/stockwire/stockwire/SideBySideRatiosPinLaw", "h", "(J)I"⟩ : MethodName) method_3_code 2 (some .int) ws hh_b_rm Z #[(.long q0)] h0 (hh_b_Q Z q0 h0 n0) := by
  refine ocon (plainFor_of_name pn_com_example_stockwire_stockwire_SideBySideRatiosPinLaw) ?_
  intro p e s m below meth c s₁ hx hby hml hown hnm hret hlk hZ X0 eh0
  have N0 := Fr.nil n0
  have K0 := Keep.refl h0 []
  refine ogoE (hh_b_ef m q0) ?_
  generalize hG : (OEnd s below (hh_b_Q Z q0 h0 n0) hh_b_rm.cells hh_b_rm.slots) = G
  show OWay p e below G s₁ (mkF m 0 #[.val (.long q0), .second] [])
  refine ogo (fun _ z_ => XS.lloadN X0.here hx rfl (hb hby d3_0) rfl z_) ?_
  show OWay p e below G s₁ (mkF m 1 #[.val (.long q0), .second] [(.long q0)])
  refine ogo (fun _ z_ => XS.l2i X0.here hx rfl (hb hby d3_1) rfl z_) ?_
  show OWay p e below G s₁ (mkF m 2 #[.val (.long q0), .second] [(.int (q0.toInt32))])
  refine ogo (fun _ z_ => X0.ldcInt hx hown (mvT hZ (hw _ (List.mem_of_getElem? (i := 12) rfl))) (g := (mkF m 2 #[.val (.long q0), .second] [(.int (q0.toInt32))])) rfl (hb hby d3_2) _ z_) ?_
  show OWay p e below G s₁ (mkF m 4 #[.val (.long q0), .second] [(.int (65535 : Int32)), (.int (q0.toInt32))])
  refine ogo (fun _ z_ => XS.iand X0.here hx rfl (hb hby d3_4) rfl z_) ?_
  show OWay p e below G s₁ (mkF m 5 #[.val (.long q0), .second] [(.int ((q0.toInt32) &&& (65535 : Int32)))])
  refine ogo (fun _ z_ => XS.iconst X0.here hx rfl (hb hby d3_5) z_) ?_
  show OWay p e below G s₁ (mkF m 6 #[.val (.long q0), .second] [(.int (1 : Int32)), (.int ((q0.toInt32) &&& (65535 : Int32)))])
  refine ogo (fun _ z_ => XS.iadd X0.here hx rfl (hb hby d3_6) rfl z_) ?_
  show OWay p e below G s₁ (mkF m 7 #[.val (.long q0), .second] [(.int (((q0.toInt32) &&& (65535 : Int32)) + (1 : Int32)))])
  subst hG
  refine wRet X0 hx hret hlk rfl (Or.inl ⟨rfl, Or.inl rfl, _, rfl⟩) (hb hby d3_7) (by decide) (by decide) eh0 ?_
  exact ⟨rfl, N0, rfl⟩
theorem pn_com_example_stockwire_stockwire_SideBySide : plainName "com/example/stockwire/stockwire/SideBySide" = true := by first | (simp [plainName, overriddenIn]; done) | decide +kernel
theorem d1_0 : decode prog_9_method_2_code 0 = .ok (.aload_n 0, 1) := by decide +kernel
theorem d1_1 : decode prog_9_method_2_code 1 = .ok (.arraylength, 1) := by decide +kernel
theorem d1_2 : decode prog_9_method_2_code 2 = .ok (.newarray .double, 2) := by decide +kernel
theorem d1_4 : decode prog_9_method_2_code 4 = .ok (.astore_n 2, 1) := by decide +kernel
theorem d1_5 : decode prog_9_method_2_code 5 = .ok (.iconst 0, 1) := by decide +kernel
theorem d1_6 : decode prog_9_method_2_code 6 = .ok (.istore_n 3, 1) := by decide +kernel
theorem d1_7 : decode prog_9_method_2_code 7 = .ok (.iload_n 3, 1) := by decide +kernel
theorem d1_8 : decode prog_9_method_2_code 8 = .ok (.aload_n 2, 1) := by decide +kernel
theorem d1_9 : decode prog_9_method_2_code 9 = .ok (.arraylength, 1) := by decide +kernel
theorem d1_10 : decode prog_9_method_2_code 10 = .ok (.if_icmp .ge 19, 3) := by decide +kernel
theorem d1_29 : decode prog_9_method_2_code 29 = .ok (.aload_n 2, 1) := by decide +kernel
theorem d1_30 : decode prog_9_method_2_code 30 = .ok (.areturn, 1) := by decide +kernel
def rat0_rm : Room := { frames := 0, cells := 1, slots := 0, locals := 0 }
def rat0_Q (Z : State) (a0 : Addr) (a1 : Addr) (ka : ClassId) (kb : ClassId) (h0 : Heap) (n0 : Nat) (v : Option Value) (h : Heap) (L : List Loc) : Prop := ∃ b : Addr, ∃ kr : ClassId, (v = some (.ref b)) ∧ (Fr n0 L) ∧ (Keep h0 h []) ∧ (n0 ≤ b) ∧ (h0.size ≤ b) ∧ (Arv Z h b kr .double (0 : Int32) [] (.double (0 : UInt64)))
theorem rat0_ef (m : MethodId) (a0 : Addr) (a1 : Addr) : entryFrame m #[(.ref a0), (.ref a1)] 4 = mkF m 0 #[.val (.ref a0), .val (.ref a1), .unset, .unset] [] := by first | (simp [entryFrame, mkF, argsToLocals, Value.category]; done) | rfl
set_option maxRecDepth 65536 in
set_option maxHeartbeats 40000000 in
theorem rat0_c (l : Launch) (Z : State) (az : Array Value) (hw : ∀ d ∈ tables_1, d.before az Z = true) (ws : List Jvm.Cond) (a0 : Addr) (a1 : Addr) (ka : ClassId) (kb : ClassId) (h0 : Heap) (n0 : Nat) (Z0 : n0 ≤ h0.size) (hp0 : Arv Z h0 a0 ka .double (0 : Int32) [] (.double (0 : UInt64))) (hp1 : Arv Z h0 a1 kb .double (0 : Int32) [] (.double (0 : UInt64))) :
    OCon l (⟨"com/example/stockwire/stockwire/SideBySide", "ratios", "([D[D)[D"⟩ : MethodName) prog_9_method_2_code 4 (some (.array .double)) ws rat0_rm Z #[(.ref a0), (.ref a1)] h0 (rat0_Q Z a0 a1 ka kb h0 n0) := by
  refine ocon (plainFor_of_name pn_com_example_stockwire_stockwire_SideBySide) ?_
  intro p e s m below meth c s₁ hx hby hml hown hnm hret hlk hZ X0 eh0
  have N0 := Fr.nil n0
  have K0 := Keep.refl h0 []
  refine ogoE (rat0_ef m a0 a1) ?_
  generalize hG : (OEnd s below (rat0_Q Z a0 a1 ka kb h0 n0) rat0_rm.cells rat0_rm.slots) = G
  show OWay p e below G s₁ (mkF m 0 #[.val (.ref a0), .val (.ref a1), .unset, .unset] [])
  refine ogo (fun _ z_ => XS.aloadN X0.here hx rfl (hb hby d1_0) rfl rfl z_) ?_
  show OWay p e below G s₁ (mkF m 1 #[.val (.ref a0), .val (.ref a1), .unset, .unset] [(.ref a0)])
  obtain ⟨cl_o1, Ar_o1, -, S_o1, N_o1, -, -⟩ := id hp0
  refine ogo (fun _ z_ => X0.arraylength hx (by rw [eh0]; exact Ar_o1.1) (State.isArrayOf_alike hZ.alike Ar_o1.2.1) (g := (mkF m 1 #[.val (.ref a0), .val (.ref a1), .unset, .unset] [(.ref a0)])) rfl rfl (hb hby d1_1) _ z_) ?_
  rw [len_of S_o1 N_o1]
  show OWay p e below G s₁ (mkF m 2 #[.val (.ref a0), .val (.ref a1), .unset, .unset] [(.int (0 : Int32))])
  obtain ⟨T2, h2, k2, X2, eT2, E2, A2, st2⟩ := newP X0 hx hZ (hw _ (List.mem_of_getElem? (i := 0) rfl)) eh0 (g := (mkF m 2 #[.val (.ref a0), .val (.ref a1), .unset, .unset] [(.int (0 : Int32))])) rfl (hb hby d1_2) rfl (by decide) (cap := 0) (by decide) (by decide) (by decide) (by decide)
  obtain ⟨b2, g2⟩ : ∃ z, z = h0.size := ⟨_, rfl⟩
  rw [← g2] at A2 st2
  have g_b2 : n0 ≤ b2 := Nat.le_trans Z0 (Nat.le_of_eq g2.symm)
  have sz_b2 : h0.size ≤ b2 := Nat.le_trans K0.1 (Nat.le_of_eq g2.symm)
  have K3 : Keep h0 h2 [] := K0.ext E2
  have V_b2 : Arv Z h2 b2 k2 .double (0 : Int32) [] (.double (0 : UInt64)) := (Arv.new A2 (by decide)).pad (pad_rep [] (.double (0 : UInt64)) 0)
  refine ogo st2 ?_
  show OWay p e below G T2 (mkF m 4 #[.val (.ref a0), .val (.ref a1), .unset, .unset] [(.ref b2)])
  refine ogo (fun _ z_ => XS.astoreN X2.here hx rfl (hb hby d1_4) rfl rfl (l' := #[.val (.ref a0), .val (.ref a1), .val (.ref b2), .unset]) rfl z_) ?_
  show OWay p e below G T2 (mkF m 5 #[.val (.ref a0), .val (.ref a1), .val (.ref b2), .unset] [])
  refine ogo (fun _ z_ => XS.iconst X2.here hx rfl (hb hby d1_5) z_) ?_
  show OWay p e below G T2 (mkF m 6 #[.val (.ref a0), .val (.ref a1), .val (.ref b2), .unset] [(.int (0 : Int32))])
  refine ogo (fun _ z_ => XS.istoreN X2.here hx rfl (hb hby d1_6) rfl (l' := #[.val (.ref a0), .val (.ref a1), .val (.ref b2), .val (.int (0 : Int32))]) rfl z_) ?_
  show OWay p e below G T2 (mkF m 7 #[.val (.ref a0), .val (.ref a1), .val (.ref b2), .val (.int (0 : Int32))] [])
  refine ogo (fun _ z_ => XS.iloadN X2.here hx rfl (hb hby d1_7) rfl z_) ?_
  show OWay p e below G T2 (mkF m 8 #[.val (.ref a0), .val (.ref a1), .val (.ref b2), .val (.int (0 : Int32))] [(.int (0 : Int32))])
  refine ogo (fun _ z_ => XS.aloadN X2.here hx rfl (hb hby d1_8) rfl rfl z_) ?_
  show OWay p e below G T2 (mkF m 9 #[.val (.ref a0), .val (.ref a1), .val (.ref b2), .val (.int (0 : Int32))] [(.ref b2), (.int (0 : Int32))])
  obtain ⟨cl_o4, Ar_o4, -, S_o4, N_o4, -, -⟩ := id V_b2
  refine ogo (fun _ z_ => X2.arraylength hx (by rw [eT2]; exact Ar_o4.1) (State.isArrayOf_alike hZ.alike Ar_o4.2.1) (g := (mkF m 9 #[.val (.ref a0), .val (.ref a1), .val (.ref b2), .val (.int (0 : Int32))] [(.ref b2), (.int (0 : Int32))])) rfl rfl (hb hby d1_9) _ z_) ?_
  rw [len_of S_o4 N_o4]
  show OWay p e below G T2 (mkF m 10 #[.val (.ref a0), .val (.ref a1), .val (.ref b2), .val (.int (0 : Int32))] [(.int (0 : Int32)), (.int (0 : Int32))])
  refine ogo (fun _ z_ => XS.icmpYes X2.here hx rfl (pc0 := 10) (pc' := 29) rfl (hb hby d1_10) rfl (flt (by decide)).2.1 (by decide) (by decide) z_) ?_
  show OWay p e below G T2 (mkF m 29 #[.val (.ref a0), .val (.ref a1), .val (.ref b2), .val (.int (0 : Int32))] [])
  refine ogo (fun _ z_ => XS.aloadN X2.here hx rfl (hb hby d1_29) rfl rfl z_) ?_
  show OWay p e below G T2 (mkF m 30 #[.val (.ref a0), .val (.ref a1), .val (.ref b2), .val (.int (0 : Int32))] [(.ref b2)])
  subst hG
  refine wRet X2 hx hret hlk rfl (Or.inr (Or.inr (Or.inr (Or.inr ⟨rfl, rfl, rfl⟩)))) (hb hby d1_30) (by decide) (by decide) eT2 ?_
  exact ⟨b2, k2, rfl, N0, K3, g_b2, sz_b2, V_b2⟩
theorem d1_13 : decode prog_9_method_2_code 13 = .ok (.aload_n 2, 1) := by decide +kernel
theorem d1_14 : decode prog_9_method_2_code 14 = .ok (.iload_n 3, 1) := by decide +kernel
theorem d1_15 : decode prog_9_method_2_code 15 = .ok (.aload_n 0, 1) := by decide +kernel
theorem d1_16 : decode prog_9_method_2_code 16 = .ok (.iload_n 3, 1) := by decide +kernel
theorem d1_17 : decode prog_9_method_2_code 17 = .ok (.daload, 1) := by decide +kernel
theorem d1_18 : decode prog_9_method_2_code 18 = .ok (.aload_n 1, 1) := by decide +kernel
theorem d1_19 : decode prog_9_method_2_code 19 = .ok (.iload_n 3, 1) := by decide +kernel
theorem d1_20 : decode prog_9_method_2_code 20 = .ok (.daload, 1) := by decide +kernel
theorem d1_21 : decode prog_9_method_2_code 21 = .ok (.ddiv, 1) := by decide +kernel
theorem d1_22 : decode prog_9_method_2_code 22 = .ok (.dastore, 1) := by decide +kernel
theorem d1_23 : decode prog_9_method_2_code 23 = .ok (.iinc 3 1, 3) := by decide +kernel
theorem d1_26 : decode prog_9_method_2_code 26 = .ok (.goto (-19), 3) := by decide +kernel
def rat1_rm : Room := { frames := 0, cells := 1, slots := 1, locals := 0 }
def rat1_Q (Z : State) (a0 : Addr) (a1 : Addr) (ka : ClassId) (kb : ClassId) (x0 : UInt64) (y0 : UInt64) (h0 : Heap) (n0 : Nat) (v : Option Value) (h : Heap) (L : List Loc) : Prop := ∃ b : Addr, ∃ kr : ClassId, (v = some (.ref b)) ∧ (Fr n0 L) ∧ (Keep h0 h []) ∧ (n0 ≤ b) ∧ (h0.size ≤ b) ∧ (Arv Z h b kr .double (1 : Int32) [(.double (FP.ddiv x0 y0))] (.double (0 : UInt64)))
theorem rat1_ef (m : MethodId) (a0 : Addr) (a1 : Addr) : entryFrame m #[(.ref a0), (.ref a1)] 4 = mkF m 0 #[.val (.ref a0), .val (.ref a1), .unset, .unset] [] := by first | (simp [entryFrame, mkF, argsToLocals, Value.category]; done) | rfl
set_option maxRecDepth 65536 in
set_option maxHeartbeats 40000000 in
theorem rat1_c (l : Launch) (Z : State) (az : Array Value) (hw : ∀ d ∈ tables_1, d.before az Z = true) (ws : List Jvm.Cond) (a0 : Addr) (a1 : Addr) (ka : ClassId) (kb : ClassId) (x0 : UInt64) (y0 : UInt64) (h0 : Heap) (n0 : Nat) (Z0 : n0 ≤ h0.size) (hp0 : Arv Z h0 a0 ka .double (1 : Int32) [(.double x0)] (.double (0 : UInt64))) (hp1 : Arv Z h0 a1 kb .double (1 : Int32) [(.double y0)] (.double (0 : UInt64))) (hn0 : Jvm.Free.Fl.NoNaN64 (FP.ddiv x0 y0)) :
    OCon l (⟨"com/example/stockwire/stockwire/SideBySide", "ratios", "([D[D)[D"⟩ : MethodName) prog_9_method_2_code 4 (some (.array .double)) ws rat1_rm Z #[(.ref a0), (.ref a1)] h0 (rat1_Q Z a0 a1 ka kb x0 y0 h0 n0) := by
  refine ocon (plainFor_of_name pn_com_example_stockwire_stockwire_SideBySide) ?_
  intro p e s m below meth c s₁ hx hby hml hown hnm hret hlk hZ X0 eh0
  have N0 := Fr.nil n0
  have K0 := Keep.refl h0 []
  refine ogoE (rat1_ef m a0 a1) ?_
  generalize hG : (OEnd s below (rat1_Q Z a0 a1 ka kb x0 y0 h0 n0) rat1_rm.cells rat1_rm.slots) = G
  show OWay p e below G s₁ (mkF m 0 #[.val (.ref a0), .val (.ref a1), .unset, .unset] [])
  refine ogo (fun _ z_ => XS.aloadN X0.here hx rfl (hb hby d1_0) rfl rfl z_) ?_
  show OWay p e below G s₁ (mkF m 1 #[.val (.ref a0), .val (.ref a1), .unset, .unset] [(.ref a0)])
  obtain ⟨cl_o1, Ar_o1, -, S_o1, N_o1, -, -⟩ := id hp0
  refine ogo (fun _ z_ => X0.arraylength hx (by rw [eh0]; exact Ar_o1.1) (State.isArrayOf_alike hZ.alike Ar_o1.2.1) (g := (mkF m 1 #[.val (.ref a0), .val (.ref a1), .unset, .unset] [(.ref a0)])) rfl rfl (hb hby d1_1) _ z_) ?_
  rw [len_of S_o1 N_o1]
  show OWay p e below G s₁ (mkF m 2 #[.val (.ref a0), .val (.ref a1), .unset, .unset] [(.int (1 : Int32))])
  obtain ⟨T2, h2, k2, X2, eT2, E2, A2, st2⟩ := newP X0 hx hZ (hw _ (List.mem_of_getElem? (i := 0) rfl)) eh0 (g := (mkF m 2 #[.val (.ref a0), .val (.ref a1), .unset, .unset] [(.int (1 : Int32))])) rfl (hb hby d1_2) rfl (by decide) (cap := 1) (by decide) (by decide) (by decide) (by decide)
  obtain ⟨b2, g2⟩ : ∃ z, z = h0.size := ⟨_, rfl⟩
  rw [← g2] at A2 st2
  have g_b2 : n0 ≤ b2 := Nat.le_trans Z0 (Nat.le_of_eq g2.symm)
  have sz_b2 : h0.size ≤ b2 := Nat.le_trans K0.1 (Nat.le_of_eq g2.symm)
  have K3 : Keep h0 h2 [] := K0.ext E2
  have V_b2 : Arv Z h2 b2 k2 .double (1 : Int32) [(.double (0 : UInt64))] (.double (0 : UInt64)) := (Arv.new A2 (by decide)).pad (pad_rep [] (.double (0 : UInt64)) 1)
  refine ogo st2 ?_
  show OWay p e below G T2 (mkF m 4 #[.val (.ref a0), .val (.ref a1), .unset, .unset] [(.ref b2)])
  refine ogo (fun _ z_ => XS.astoreN X2.here hx rfl (hb hby d1_4) rfl rfl (l' := #[.val (.ref a0), .val (.ref a1), .val (.ref b2), .unset]) rfl z_) ?_
  show OWay p e below G T2 (mkF m 5 #[.val (.ref a0), .val (.ref a1), .val (.ref b2), .unset] [])
  refine ogo (fun _ z_ => XS.iconst X2.here hx rfl (hb hby d1_5) z_) ?_
  show OWay p e below G T2 (mkF m 6 #[.val (.ref a0), .val (.ref a1), .val (.ref b2), .unset] [(.int (0 : Int32))])
  refine ogo (fun _ z_ => XS.istoreN X2.here hx rfl (hb hby d1_6) rfl (l' := #[.val (.ref a0), .val (.ref a1), .val (.ref b2), .val (.int (0 : Int32))]) rfl z_) ?_
  show OWay p e below G T2 (mkF m 7 #[.val (.ref a0), .val (.ref a1), .val (.ref b2), .val (.int (0 : Int32))] [])
  refine ogo (fun _ z_ => XS.iloadN X2.here hx rfl (hb hby d1_7) rfl z_) ?_
  show OWay p e below G T2 (mkF m 8 #[.val (.ref a0), .val (.ref a1), .val (.ref b2), .val (.int (0 : Int32))] [(.int (0 : Int32))])
  refine ogo (fun _ z_ => XS.aloadN X2.here hx rfl (hb hby d1_8) rfl rfl z_) ?_
  show OWay p e below G T2 (mkF m 9 #[.val (.ref a0), .val (.ref a1), .val (.ref b2), .val (.int (0 : Int32))] [(.ref b2), (.int (0 : Int32))])
  obtain ⟨cl_o4, Ar_o4, -, S_o4, N_o4, -, -⟩ := id V_b2
  refine ogo (fun _ z_ => X2.arraylength hx (by rw [eT2]; exact Ar_o4.1) (State.isArrayOf_alike hZ.alike Ar_o4.2.1) (g := (mkF m 9 #[.val (.ref a0), .val (.ref a1), .val (.ref b2), .val (.int (0 : Int32))] [(.ref b2), (.int (0 : Int32))])) rfl rfl (hb hby d1_9) _ z_) ?_
  rw [len_of S_o4 N_o4]
  show OWay p e below G T2 (mkF m 10 #[.val (.ref a0), .val (.ref a1), .val (.ref b2), .val (.int (0 : Int32))] [(.int (1 : Int32)), (.int (0 : Int32))])
  refine ogo (fun _ z_ => XS.icmpNo X2.here hx rfl (hb hby d1_10) rfl (tlt (by decide)).2.1 z_) ?_
  show OWay p e below G T2 (mkF m 13 #[.val (.ref a0), .val (.ref a1), .val (.ref b2), .val (.int (0 : Int32))] [])
  refine ogo (fun _ z_ => XS.aloadN X2.here hx rfl (hb hby d1_13) rfl rfl z_) ?_
  show OWay p e below G T2 (mkF m 14 #[.val (.ref a0), .val (.ref a1), .val (.ref b2), .val (.int (0 : Int32))] [(.ref b2)])
  refine ogo (fun _ z_ => XS.iloadN X2.here hx rfl (hb hby d1_14) rfl z_) ?_
  show OWay p e below G T2 (mkF m 15 #[.val (.ref a0), .val (.ref a1), .val (.ref b2), .val (.int (0 : Int32))] [(.int (0 : Int32)), (.ref b2)])
  refine ogo (fun _ z_ => XS.aloadN X2.here hx rfl (hb hby d1_15) rfl rfl z_) ?_
  show OWay p e below G T2 (mkF m 16 #[.val (.ref a0), .val (.ref a1), .val (.ref b2), .val (.int (0 : Int32))] [(.ref a0), (.int (0 : Int32)), (.ref b2)])
  refine ogo (fun _ z_ => XS.iloadN X2.here hx rfl (hb hby d1_16) rfl z_) ?_
  show OWay p e below G T2 (mkF m 17 #[.val (.ref a0), .val (.ref a1), .val (.ref b2), .val (.int (0 : Int32))] [(.int (0 : Int32)), (.ref a0), (.int (0 : Int32)), (.ref b2)])
  have F5 : Arv Z h2 a0 ka .double (1 : Int32) [(.double x0)] (.double (0 : UInt64)) := (hp0.ext E2)
  obtain ⟨cl_o6, Ar_o6, q_o6, S_o6, N_o6, H_o6, G_o6⟩ := id F5
  have hin_o6 : ¬ ((0 : Int32) < 0 ∨ cl_o6.slots.size ≤ ((0 : Int32)).toNatClampNeg) := inb_of S_o6 ⟨by decide, by decide⟩
  have hat_o6 : cl_o6.slots[((0 : Int32)).toNatClampNeg]? = some (.double x0) := H_o6.at hin_o6 rfl
  refine ogo (fun _ z_ => X2.daload hx (j := (0 : Int32)) (v := (.double x0)) (by rw [eT2]; exact Ar_o6.1) (State.isArrayOf_alike hZ.alike Ar_o6.2.1) Ar_o6.2.2 hin_o6 hat_o6 (g := (mkF m 17 #[.val (.ref a0), .val (.ref a1), .val (.ref b2), .val (.int (0 : Int32))] [(.int (0 : Int32)), (.ref a0), (.int (0 : Int32)), (.ref b2)])) rfl rfl (hb hby d1_17) _ z_) ?_
  show OWay p e below G T2 (mkF m 18 #[.val (.ref a0), .val (.ref a1), .val (.ref b2), .val (.int (0 : Int32))] [(.double x0), (.int (0 : Int32)), (.ref b2)])
  refine ogo (fun _ z_ => XS.aloadN X2.here hx rfl (hb hby d1_18) rfl rfl z_) ?_
  show OWay p e below G T2 (mkF m 19 #[.val (.ref a0), .val (.ref a1), .val (.ref b2), .val (.int (0 : Int32))] [(.ref a1), (.double x0), (.int (0 : Int32)), (.ref b2)])
  refine ogo (fun _ z_ => XS.iloadN X2.here hx rfl (hb hby d1_19) rfl z_) ?_
  show OWay p e below G T2 (mkF m 20 #[.val (.ref a0), .val (.ref a1), .val (.ref b2), .val (.int (0 : Int32))] [(.int (0 : Int32)), (.ref a1), (.double x0), (.int (0 : Int32)), (.ref b2)])
  have F7 : Arv Z h2 a1 kb .double (1 : Int32) [(.double y0)] (.double (0 : UInt64)) := (hp1.ext E2)
  obtain ⟨cl_o8, Ar_o8, q_o8, S_o8, N_o8, H_o8, G_o8⟩ := id F7
  have hin_o8 : ¬ ((0 : Int32) < 0 ∨ cl_o8.slots.size ≤ ((0 : Int32)).toNatClampNeg) := inb_of S_o8 ⟨by decide, by decide⟩
  have hat_o8 : cl_o8.slots[((0 : Int32)).toNatClampNeg]? = some (.double y0) := H_o8.at hin_o8 rfl
  refine ogo (fun _ z_ => X2.daload hx (j := (0 : Int32)) (v := (.double y0)) (by rw [eT2]; exact Ar_o8.1) (State.isArrayOf_alike hZ.alike Ar_o8.2.1) Ar_o8.2.2 hin_o8 hat_o8 (g := (mkF m 20 #[.val (.ref a0), .val (.ref a1), .val (.ref b2), .val (.int (0 : Int32))] [(.int (0 : Int32)), (.ref a1), (.double x0), (.int (0 : Int32)), (.ref b2)])) rfl rfl (hb hby d1_20) _ z_) ?_
  show OWay p e below G T2 (mkF m 21 #[.val (.ref a0), .val (.ref a1), .val (.ref b2), .val (.int (0 : Int32))] [(.double y0), (.double x0), (.int (0 : Int32)), (.ref b2)])
  refine ogo (fun _ z_ => XS.ddivS X2.here hx rfl (hb hby d1_21) rfl hn0 rfl z_) ?_
  show OWay p e below G T2 (mkF m 22 #[.val (.ref a0), .val (.ref a1), .val (.ref b2), .val (.int (0 : Int32))] [(.double (FP.ddiv x0 y0)), (.int (0 : Int32)), (.ref b2)])
  obtain ⟨cl_o9, Ar_o9, q_o9, S_o9, N_o9, H_o9, G_o9⟩ := id V_b2
  have hin_o9 : ¬ ((0 : Int32) < 0 ∨ cl_o9.slots.size ≤ ((0 : Int32)).toNatClampNeg) := inb_of S_o9 ⟨by decide, by decide⟩
  obtain ⟨T10, h10, X10, eT10, W10, st10⟩ := stD X2 hx hZ eT2 Ar_o9 (j := (0 : Int32)) hin_o9 (g := (mkF m 22 #[.val (.ref a0), .val (.ref a1), .val (.ref b2), .val (.int (0 : Int32))] [(.double (FP.ddiv x0 y0)), (.int (0 : Int32)), (.ref b2)])) rfl rfl (hb hby d1_22)
  have K11 : Keep h0 h10 [] := K3.wr W10 (Or.inr sz_b2)
  have V_10 : Arv Z h10 b2 k2 .double (1 : Int32) [(.double (FP.ddiv x0 y0))] (.double (0 : UInt64)) := Arv.set Ar_o9 q_o9 S_o9 N_o9 H_o9 G_o9 rfl W10 0 rfl (Nat.le_of_ble_eq_true rfl)
  have N10 := Fr.snoc X10 N0 g_b2
  refine ogo st10 ?_
  show OWay p e below G T10 (mkF m 23 #[.val (.ref a0), .val (.ref a1), .val (.ref b2), .val (.int (0 : Int32))] [])
  refine ogo (fun _ z_ => XS.iinc X10.here hx rfl (hb hby d1_23) rfl (l' := #[.val (.ref a0), .val (.ref a1), .val (.ref b2), .val (.int ((0 : Int32) + (1 : Int32)))]) rfl z_) ?_
  show OWay p e below G T10 (mkF m 26 #[.val (.ref a0), .val (.ref a1), .val (.ref b2), .val (.int ((0 : Int32) + (1 : Int32)))] [])
  refine ogoE (g' := (mkF m 26 #[.val (.ref a0), .val (.ref a1), .val (.ref b2), .val (.int (1 : Int32))] [])) (by rw [show ((0 : Int32) + (1 : Int32)) = (1 : Int32) from by decide]) ?_
  refine ogo (fun _ z_ => XS.goto X10.here hx rfl (pc0 := 26) (pc' := 7) rfl (hb hby d1_26) (by decide) (by decide) z_) ?_
  show OWay p e below G T10 (mkF m 7 #[.val (.ref a0), .val (.ref a1), .val (.ref b2), .val (.int (1 : Int32))] [])
  refine ogo (fun _ z_ => XS.iloadN X10.here hx rfl (hb hby d1_7) rfl z_) ?_
  show OWay p e below G T10 (mkF m 8 #[.val (.ref a0), .val (.ref a1), .val (.ref b2), .val (.int (1 : Int32))] [(.int (1 : Int32))])
  refine ogo (fun _ z_ => XS.aloadN X10.here hx rfl (hb hby d1_8) rfl rfl z_) ?_
  show OWay p e below G T10 (mkF m 9 #[.val (.ref a0), .val (.ref a1), .val (.ref b2), .val (.int (1 : Int32))] [(.ref b2), (.int (1 : Int32))])
  obtain ⟨cl_o12, Ar_o12, -, S_o12, N_o12, -, -⟩ := id V_10
  refine ogo (fun _ z_ => X10.arraylength hx (by rw [eT10]; exact Ar_o12.1) (State.isArrayOf_alike hZ.alike Ar_o12.2.1) (g := (mkF m 9 #[.val (.ref a0), .val (.ref a1), .val (.ref b2), .val (.int (1 : Int32))] [(.ref b2), (.int (1 : Int32))])) rfl rfl (hb hby d1_9) _ z_) ?_
  rw [len_of S_o12 N_o12]
  show OWay p e below G T10 (mkF m 10 #[.val (.ref a0), .val (.ref a1), .val (.ref b2), .val (.int (1 : Int32))] [(.int (1 : Int32)), (.int (1 : Int32))])
  refine ogo (fun _ z_ => XS.icmpYes X10.here hx rfl (pc0 := 10) (pc' := 29) rfl (hb hby d1_10) rfl (flt (by decide)).2.1 (by decide) (by decide) z_) ?_
  show OWay p e below G T10 (mkF m 29 #[.val (.ref a0), .val (.ref a1), .val (.ref b2), .val (.int (1 : Int32))] [])
  refine ogo (fun _ z_ => XS.aloadN X10.here hx rfl (hb hby d1_29) rfl rfl z_) ?_
  show OWay p e below G T10 (mkF m 30 #[.val (.ref a0), .val (.ref a1), .val (.ref b2), .val (.int (1 : Int32))] [(.ref b2)])
  subst hG
  refine wRet X10 hx hret hlk rfl (Or.inr (Or.inr (Or.inr (Or.inr ⟨rfl, rfl, rfl⟩)))) (hb hby d1_30) (by decide) (by decide) eT10 ?_
  exact ⟨b2, k2, rfl, N10, K11, g_b2, sz_b2, V_10⟩
def rat2_rm : Room := { frames := 0, cells := 1, slots := 2, locals := 0 }
def rat2_Q (Z : State) (a0 : Addr) (a1 : Addr) (ka : ClassId) (kb : ClassId) (x0 : UInt64) (x1 : UInt64) (y0 : UInt64) (y1 : UInt64) (h0 : Heap) (n0 : Nat) (v : Option Value) (h : Heap) (L : List Loc) : Prop := ∃ b : Addr, ∃ kr : ClassId, (v = some (.ref b)) ∧ (Fr n0 L) ∧ (Keep h0 h []) ∧ (n0 ≤ b) ∧ (h0.size ≤ b) ∧ (Arv Z h b kr .double (2 : Int32) [(.double (FP.ddiv x0 y0)), (.double (FP.ddiv x1 y1))] (.double (0 : UInt64)))
theorem rat2_ef (m : MethodId) (a0 : Addr) (a1 : Addr) : entryFrame m #[(.ref a0), (.ref a1)] 4 = mkF m 0 #[.val (.ref a0), .val (.ref a1), .unset, .unset] [] := by first | (simp [entryFrame, mkF, argsToLocals, Value.category]; done) | rfl
set_option maxRecDepth 65536 in
set_option maxHeartbeats 40000000 in
theorem rat2_c (l : Launch) (Z : State) (az : Array Value) (hw : ∀ d ∈ tables_1, d.before az Z = true) (ws : List Jvm.Cond) (a0 : Addr) (a1 : Addr) (ka : ClassId) (kb : ClassId) (x0 : UInt64) (x1 : UInt64) (y0 : UInt64) (y1 : UInt64) (h0 : Heap) (n0 : Nat) (Z0 : n0 ≤ h0.size) (hp0 : Arv Z h0 a0 ka .double (2 : Int32) [(.double x0), (.double x1)] (.double (0 : UInt64))) (hp1 : Arv Z h0 a1 kb .double (2 : Int32) [(.double y0), (.double y1)] (.double (0 : UInt64))) (hn0 : Jvm.Free.Fl.NoNaN64 (FP.ddiv x0 y0)) (hn1 : Jvm.Free.Fl.NoNaN64 (FP.ddiv x1 y1)) :
    OCon l (⟨"com/example/stockwire/stockwire/SideBySide", "ratios", "([D[D)[D"⟩ : MethodName) prog_9_method_2_code 4 (some (.array .double)) ws rat2_rm Z #[(.ref a0), (.ref a1)] h0 (rat2_Q Z a0 a1 ka kb x0 x1 y0 y1 h0 n0) := by
  refine ocon (plainFor_of_name pn_com_example_stockwire_stockwire_SideBySide) ?_
  intro p e s m below meth c s₁ hx hby hml hown hnm hret hlk hZ X0 eh0
  have N0 := Fr.nil n0
  have K0 := Keep.refl h0 []
  refine ogoE (rat2_ef m a0 a1) ?_
  generalize hG : (OEnd s below (rat2_Q Z a0 a1 ka kb x0 x1 y0 y1 h0 n0) rat2_rm.cells rat2_rm.slots) = G
  show OWay p e below G s₁ (mkF m 0 #[.val (.ref a0), .val (.ref a1), .unset, .unset] [])
  refine ogo (fun _ z_ => XS.aloadN X0.here hx rfl (hb hby d1_0) rfl rfl z_) ?_
  show OWay p e below G s₁ (mkF m 1 #[.val (.ref a0), .val (.ref a1), .unset, .unset] [(.ref a0)])
  obtain ⟨cl_o1, Ar_o1, -, S_o1, N_o1, -, -⟩ := id hp0
  refine ogo (fun _ z_ => X0.arraylength hx (by rw [eh0]; exact Ar_o1.1) (State.isArrayOf_alike hZ.alike Ar_o1.2.1) (g := (mkF m 1 #[.val (.ref a0), .val (.ref a1), .unset, .unset] [(.ref a0)])) rfl rfl (hb hby d1_1) _ z_) ?_
  rw [len_of S_o1 N_o1]
  show OWay p e below G s₁ (mkF m 2 #[.val (.ref a0), .val (.ref a1), .unset, .unset] [(.int (2 : Int32))])
  obtain ⟨T2, h2, k2, X2, eT2, E2, A2, st2⟩ := newP X0 hx hZ (hw _ (List.mem_of_getElem? (i := 0) rfl)) eh0 (g := (mkF m 2 #[.val (.ref a0), .val (.ref a1), .unset, .unset] [(.int (2 : Int32))])) rfl (hb hby d1_2) rfl (by decide) (cap := 2) (by decide) (by decide) (by decide) (by decide)
  obtain ⟨b2, g2⟩ : ∃ z, z = h0.size := ⟨_, rfl⟩
  rw [← g2] at A2 st2
  have g_b2 : n0 ≤ b2 := Nat.le_trans Z0 (Nat.le_of_eq g2.symm)
  have sz_b2 : h0.size ≤ b2 := Nat.le_trans K0.1 (Nat.le_of_eq g2.symm)
  have K3 : Keep h0 h2 [] := K0.ext E2
  have V_b2 : Arv Z h2 b2 k2 .double (2 : Int32) [(.double (0 : UInt64)), (.double (0 : UInt64))] (.double (0 : UInt64)) := (Arv.new A2 (by decide)).pad (pad_rep [] (.double (0 : UInt64)) 2)
  refine ogo st2 ?_
  show OWay p e below G T2 (mkF m 4 #[.val (.ref a0), .val (.ref a1), .unset, .unset] [(.ref b2)])
  refine ogo (fun _ z_ => XS.astoreN X2.here hx rfl (hb hby d1_4) rfl rfl (l' := #[.val (.ref a0), .val (.ref a1), .val (.ref b2), .unset]) rfl z_) ?_
  show OWay p e below G T2 (mkF m 5 #[.val (.ref a0), .val (.ref a1), .val (.ref b2), .unset] [])
  refine ogo (fun _ z_ => XS.iconst X2.here hx rfl (hb hby d1_5) z_) ?_
  show OWay p e below G T2 (mkF m 6 #[.val (.ref a0), .val (.ref a1), .val (.ref b2), .unset] [(.int (0 : Int32))])
  refine ogo (fun _ z_ => XS.istoreN X2.here hx rfl (hb hby d1_6) rfl (l' := #[.val (.ref a0), .val (.ref a1), .val (.ref b2), .val (.int (0 : Int32))]) rfl z_) ?_
  show OWay p e below G T2 (mkF m 7 #[.val (.ref a0), .val (.ref a1), .val (.ref b2), .val (.int (0 : Int32))] [])
  refine ogo (fun _ z_ => XS.iloadN X2.here hx rfl (hb hby d1_7) rfl z_) ?_
  show OWay p e below G T2 (mkF m 8 #[.val (.ref a0), .val (.ref a1), .val (.ref b2), .val (.int (0 : Int32))] [(.int (0 : Int32))])
  refine ogo (fun _ z_ => XS.aloadN X2.here hx rfl (hb hby d1_8) rfl rfl z_) ?_
  show OWay p e below G T2 (mkF m 9 #[.val (.ref a0), .val (.ref a1), .val (.ref b2), .val (.int (0 : Int32))] [(.ref b2), (.int (0 : Int32))])
  obtain ⟨cl_o4, Ar_o4, -, S_o4, N_o4, -, -⟩ := id V_b2
  refine ogo (fun _ z_ => X2.arraylength hx (by rw [eT2]; exact Ar_o4.1) (State.isArrayOf_alike hZ.alike Ar_o4.2.1) (g := (mkF m 9 #[.val (.ref a0), .val (.ref a1), .val (.ref b2), .val (.int (0 : Int32))] [(.ref b2), (.int (0 : Int32))])) rfl rfl (hb hby d1_9) _ z_) ?_
  rw [len_of S_o4 N_o4]
  show OWay p e below G T2 (mkF m 10 #[.val (.ref a0), .val (.ref a1), .val (.ref b2), .val (.int (0 : Int32))] [(.int (2 : Int32)), (.int (0 : Int32))])
  refine ogo (fun _ z_ => XS.icmpNo X2.here hx rfl (hb hby d1_10) rfl (tlt (by decide)).2.1 z_) ?_
  show OWay p e below G T2 (mkF m 13 #[.val (.ref a0), .val (.ref a1), .val (.ref b2), .val (.int (0 : Int32))] [])
  refine ogo (fun _ z_ => XS.aloadN X2.here hx rfl (hb hby d1_13) rfl rfl z_) ?_
  show OWay p e below G T2 (mkF m 14 #[.val (.ref a0), .val (.ref a1), .val (.ref b2), .val (.int (0 : Int32))] [(.ref b2)])
  refine ogo (fun _ z_ => XS.iloadN X2.here hx rfl (hb hby d1_14) rfl z_) ?_
  show OWay p e below G T2 (mkF m 15 #[.val (.ref a0), .val (.ref a1), .val (.ref b2), .val (.int (0 : Int32))] [(.int (0 : Int32)), (.ref b2)])
  refine ogo (fun _ z_ => XS.aloadN X2.here hx rfl (hb hby d1_15) rfl rfl z_) ?_
  show OWay p e below G T2 (mkF m 16 #[.val (.ref a0), .val (.ref a1), .val (.ref b2), .val (.int (0 : Int32))] [(.ref a0), (.int (0 : Int32)), (.ref b2)])
  refine ogo (fun _ z_ => XS.iloadN X2.here hx rfl (hb hby d1_16) rfl z_) ?_
  show OWay p e below G T2 (mkF m 17 #[.val (.ref a0), .val (.ref a1), .val (.ref b2), .val (.int (0 : Int32))] [(.int (0 : Int32)), (.ref a0), (.int (0 : Int32)), (.ref b2)])
  have F5 : Arv Z h2 a0 ka .double (2 : Int32) [(.double x0), (.double x1)] (.double (0 : UInt64)) := (hp0.ext E2)
  obtain ⟨cl_o6, Ar_o6, q_o6, S_o6, N_o6, H_o6, G_o6⟩ := id F5
  have hin_o6 : ¬ ((0 : Int32) < 0 ∨ cl_o6.slots.size ≤ ((0 : Int32)).toNatClampNeg) := inb_of S_o6 ⟨by decide, by decide⟩
  have hat_o6 : cl_o6.slots[((0 : Int32)).toNatClampNeg]? = some (.double x0) := H_o6.at hin_o6 rfl
  refine ogo (fun _ z_ => X2.daload hx (j := (0 : Int32)) (v := (.double x0)) (by rw [eT2]; exact Ar_o6.1) (State.isArrayOf_alike hZ.alike Ar_o6.2.1) Ar_o6.2.2 hin_o6 hat_o6 (g := (mkF m 17 #[.val (.ref a0), .val (.ref a1), .val (.ref b2), .val (.int (0 : Int32))] [(.int (0 : Int32)), (.ref a0), (.int (0 : Int32)), (.ref b2)])) rfl rfl (hb hby d1_17) _ z_) ?_
  show OWay p e below G T2 (mkF m 18 #[.val (.ref a0), .val (.ref a1), .val (.ref b2), .val (.int (0 : Int32))] [(.double x0), (.int (0 : Int32)), (.ref b2)])
  refine ogo (fun _ z_ => XS.aloadN X2.here hx rfl (hb hby d1_18) rfl rfl z_) ?_
  show OWay p e below G T2 (mkF m 19 #[.val (.ref a0), .val (.ref a1), .val (.ref b2), .val (.int (0 : Int32))] [(.ref a1), (.double x0), (.int (0 : Int32)), (.ref b2)])
  refine ogo (fun _ z_ => XS.iloadN X2.here hx rfl (hb hby d1_19) rfl z_) ?_
  show OWay p e below G T2 (mkF m 20 #[.val (.ref a0), .val (.ref a1), .val (.ref b2), .val (.int (0 : Int32))] [(.int (0 : Int32)), (.ref a1), (.double x0), (.int (0 : Int32)), (.ref b2)])
  have F7 : Arv Z h2 a1 kb .double (2 : Int32) [(.double y0), (.double y1)] (.double (0 : UInt64)) := (hp1.ext E2)
  obtain ⟨cl_o8, Ar_o8, q_o8, S_o8, N_o8, H_o8, G_o8⟩ := id F7
  have hin_o8 : ¬ ((0 : Int32) < 0 ∨ cl_o8.slots.size ≤ ((0 : Int32)).toNatClampNeg) := inb_of S_o8 ⟨by decide, by decide⟩
  have hat_o8 : cl_o8.slots[((0 : Int32)).toNatClampNeg]? = some (.double y0) := H_o8.at hin_o8 rfl
  refine ogo (fun _ z_ => X2.daload hx (j := (0 : Int32)) (v := (.double y0)) (by rw [eT2]; exact Ar_o8.1) (State.isArrayOf_alike hZ.alike Ar_o8.2.1) Ar_o8.2.2 hin_o8 hat_o8 (g := (mkF m 20 #[.val (.ref a0), .val (.ref a1), .val (.ref b2), .val (.int (0 : Int32))] [(.int (0 : Int32)), (.ref a1), (.double x0), (.int (0 : Int32)), (.ref b2)])) rfl rfl (hb hby d1_20) _ z_) ?_
  show OWay p e below G T2 (mkF m 21 #[.val (.ref a0), .val (.ref a1), .val (.ref b2), .val (.int (0 : Int32))] [(.double y0), (.double x0), (.int (0 : Int32)), (.ref b2)])
  refine ogo (fun _ z_ => XS.ddivS X2.here hx rfl (hb hby d1_21) rfl hn0 rfl z_) ?_
  show OWay p e below G T2 (mkF m 22 #[.val (.ref a0), .val (.ref a1), .val (.ref b2), .val (.int (0 : Int32))] [(.double (FP.ddiv x0 y0)), (.int (0 : Int32)), (.ref b2)])
  obtain ⟨cl_o9, Ar_o9, q_o9, S_o9, N_o9, H_o9, G_o9⟩ := id V_b2
  have hin_o9 : ¬ ((0 : Int32) < 0 ∨ cl_o9.slots.size ≤ ((0 : Int32)).toNatClampNeg) := inb_of S_o9 ⟨by decide, by decide⟩
  obtain ⟨T10, h10, X10, eT10, W10, st10⟩ := stD X2 hx hZ eT2 Ar_o9 (j := (0 : Int32)) hin_o9 (g := (mkF m 22 #[.val (.ref a0), .val (.ref a1), .val (.ref b2), .val (.int (0 : Int32))] [(.double (FP.ddiv x0 y0)), (.int (0 : Int32)), (.ref b2)])) rfl rfl (hb hby d1_22)
  have K11 : Keep h0 h10 [] := K3.wr W10 (Or.inr sz_b2)
  have V_10 : Arv Z h10 b2 k2 .double (2 : Int32) [(.double (FP.ddiv x0 y0)), (.double (0 : UInt64))] (.double (0 : UInt64)) := Arv.set Ar_o9 q_o9 S_o9 N_o9 H_o9 G_o9 rfl W10 0 rfl (Nat.le_of_ble_eq_true rfl)
  have N10 := Fr.snoc X10 N0 g_b2
  refine ogo st10 ?_
  show OWay p e below G T10 (mkF m 23 #[.val (.ref a0), .val (.ref a1), .val (.ref b2), .val (.int (0 : Int32))] [])
  refine ogo (fun _ z_ => XS.iinc X10.here hx rfl (hb hby d1_23) rfl (l' := #[.val (.ref a0), .val (.ref a1), .val (.ref b2), .val (.int ((0 : Int32) + (1 : Int32)))]) rfl z_) ?_
  show OWay p e below G T10 (mkF m 26 #[.val (.ref a0), .val (.ref a1), .val (.ref b2), .val (.int ((0 : Int32) + (1 : Int32)))] [])
  refine ogoE (g' := (mkF m 26 #[.val (.ref a0), .val (.ref a1), .val (.ref b2), .val (.int (1 : Int32))] [])) (by rw [show ((0 : Int32) + (1 : Int32)) = (1 : Int32) from by decide]) ?_
  refine ogo (fun _ z_ => XS.goto X10.here hx rfl (pc0 := 26) (pc' := 7) rfl (hb hby d1_26) (by decide) (by decide) z_) ?_
  show OWay p e below G T10 (mkF m 7 #[.val (.ref a0), .val (.ref a1), .val (.ref b2), .val (.int (1 : Int32))] [])
  refine ogo (fun _ z_ => XS.iloadN X10.here hx rfl (hb hby d1_7) rfl z_) ?_
  show OWay p e below G T10 (mkF m 8 #[.val (.ref a0), .val (.ref a1), .val (.ref b2), .val (.int (1 : Int32))] [(.int (1 : Int32))])
  refine ogo (fun _ z_ => XS.aloadN X10.here hx rfl (hb hby d1_8) rfl rfl z_) ?_
  show OWay p e below G T10 (mkF m 9 #[.val (.ref a0), .val (.ref a1), .val (.ref b2), .val (.int (1 : Int32))] [(.ref b2), (.int (1 : Int32))])
  obtain ⟨cl_o12, Ar_o12, -, S_o12, N_o12, -, -⟩ := id V_10
  refine ogo (fun _ z_ => X10.arraylength hx (by rw [eT10]; exact Ar_o12.1) (State.isArrayOf_alike hZ.alike Ar_o12.2.1) (g := (mkF m 9 #[.val (.ref a0), .val (.ref a1), .val (.ref b2), .val (.int (1 : Int32))] [(.ref b2), (.int (1 : Int32))])) rfl rfl (hb hby d1_9) _ z_) ?_
  rw [len_of S_o12 N_o12]
  show OWay p e below G T10 (mkF m 10 #[.val (.ref a0), .val (.ref a1), .val (.ref b2), .val (.int (1 : Int32))] [(.int (2 : Int32)), (.int (1 : Int32))])
  refine ogo (fun _ z_ => XS.icmpNo X10.here hx rfl (hb hby d1_10) rfl (tlt (by decide)).2.1 z_) ?_
  show OWay p e below G T10 (mkF m 13 #[.val (.ref a0), .val (.ref a1), .val (.ref b2), .val (.int (1 : Int32))] [])
  refine ogo (fun _ z_ => XS.aloadN X10.here hx rfl (hb hby d1_13) rfl rfl z_) ?_
  show OWay p e below G T10 (mkF m 14 #[.val (.ref a0), .val (.ref a1), .val (.ref b2), .val (.int (1 : Int32))] [(.ref b2)])
  refine ogo (fun _ z_ => XS.iloadN X10.here hx rfl (hb hby d1_14) rfl z_) ?_
  show OWay p e below G T10 (mkF m 15 #[.val (.ref a0), .val (.ref a1), .val (.ref b2), .val (.int (1 : Int32))] [(.int (1 : Int32)), (.ref b2)])
  refine ogo (fun _ z_ => XS.aloadN X10.here hx rfl (hb hby d1_15) rfl rfl z_) ?_
  show OWay p e below G T10 (mkF m 16 #[.val (.ref a0), .val (.ref a1), .val (.ref b2), .val (.int (1 : Int32))] [(.ref a0), (.int (1 : Int32)), (.ref b2)])
  refine ogo (fun _ z_ => XS.iloadN X10.here hx rfl (hb hby d1_16) rfl z_) ?_
  show OWay p e below G T10 (mkF m 17 #[.val (.ref a0), .val (.ref a1), .val (.ref b2), .val (.int (1 : Int32))] [(.int (1 : Int32)), (.ref a0), (.int (1 : Int32)), (.ref b2)])
  have F13 : Arv Z h10 a0 ka .double (2 : Int32) [(.double x0), (.double x1)] (.double (0 : UInt64)) := (F5.other W10 (Nat.ne_of_lt (Nat.lt_of_lt_of_le hp0.lt (Nat.le_of_eq g2.symm))))
  obtain ⟨cl_o14, Ar_o14, q_o14, S_o14, N_o14, H_o14, G_o14⟩ := id F13
  have hin_o14 : ¬ ((1 : Int32) < 0 ∨ cl_o14.slots.size ≤ ((1 : Int32)).toNatClampNeg) := inb_of S_o14 ⟨by decide, by decide⟩
  have hat_o14 : cl_o14.slots[((1 : Int32)).toNatClampNeg]? = some (.double x1) := H_o14.at hin_o14 rfl
  refine ogo (fun _ z_ => X10.daload hx (j := (1 : Int32)) (v := (.double x1)) (by rw [eT10]; exact Ar_o14.1) (State.isArrayOf_alike hZ.alike Ar_o14.2.1) Ar_o14.2.2 hin_o14 hat_o14 (g := (mkF m 17 #[.val (.ref a0), .val (.ref a1), .val (.ref b2), .val (.int (1 : Int32))] [(.int (1 : Int32)), (.ref a0), (.int (1 : Int32)), (.ref b2)])) rfl rfl (hb hby d1_17) _ z_) ?_
  show OWay p e below G T10 (mkF m 18 #[.val (.ref a0), .val (.ref a1), .val (.ref b2), .val (.int (1 : Int32))] [(.double x1), (.int (1 : Int32)), (.ref b2)])
  refine ogo (fun _ z_ => XS.aloadN X10.here hx rfl (hb hby d1_18) rfl rfl z_) ?_
  show OWay p e below G T10 (mkF m 19 #[.val (.ref a0), .val (.ref a1), .val (.ref b2), .val (.int (1 : Int32))] [(.ref a1), (.double x1), (.int (1 : Int32)), (.ref b2)])
  refine ogo (fun _ z_ => XS.iloadN X10.here hx rfl (hb hby d1_19) rfl z_) ?_
  show OWay p e below G T10 (mkF m 20 #[.val (.ref a0), .val (.ref a1), .val (.ref b2), .val (.int (1 : Int32))] [(.int (1 : Int32)), (.ref a1), (.double x1), (.int (1 : Int32)), (.ref b2)])
  have F15 : Arv Z h10 a1 kb .double (2 : Int32) [(.double y0), (.double y1)] (.double (0 : UInt64)) := (F7.other W10 (Nat.ne_of_lt (Nat.lt_of_lt_of_le hp1.lt (Nat.le_of_eq g2.symm))))
  obtain ⟨cl_o16, Ar_o16, q_o16, S_o16, N_o16, H_o16, G_o16⟩ := id F15
  have hin_o16 : ¬ ((1 : Int32) < 0 ∨ cl_o16.slots.size ≤ ((1 : Int32)).toNatClampNeg) := inb_of S_o16 ⟨by decide, by decide⟩
  have hat_o16 : cl_o16.slots[((1 : Int32)).toNatClampNeg]? = some (.double y1) := H_o16.at hin_o16 rfl
  refine ogo (fun _ z_ => X10.daload hx (j := (1 : Int32)) (v := (.double y1)) (by rw [eT10]; exact Ar_o16.1) (State.isArrayOf_alike hZ.alike Ar_o16.2.1) Ar_o16.2.2 hin_o16 hat_o16 (g := (mkF m 20 #[.val (.ref a0), .val (.ref a1), .val (.ref b2), .val (.int (1 : Int32))] [(.int (1 : Int32)), (.ref a1), (.double x1), (.int (1 : Int32)), (.ref b2)])) rfl rfl (hb hby d1_20) _ z_) ?_
  show OWay p e below G T10 (mkF m 21 #[.val (.ref a0), .val (.ref a1), .val (.ref b2), .val (.int (1 : Int32))] [(.double y1), (.double x1), (.int (1 : Int32)), (.ref b2)])
  refine ogo (fun _ z_ => XS.ddivS X10.here hx rfl (hb hby d1_21) rfl hn1 rfl z_) ?_
  show OWay p e below G T10 (mkF m 22 #[.val (.ref a0), .val (.ref a1), .val (.ref b2), .val (.int (1 : Int32))] [(.double (FP.ddiv x1 y1)), (.int (1 : Int32)), (.ref b2)])
  obtain ⟨cl_o17, Ar_o17, q_o17, S_o17, N_o17, H_o17, G_o17⟩ := id V_10
  have hin_o17 : ¬ ((1 : Int32) < 0 ∨ cl_o17.slots.size ≤ ((1 : Int32)).toNatClampNeg) := inb_of S_o17 ⟨by decide, by decide⟩
  obtain ⟨T18, h18, X18, eT18, W18, st18⟩ := stD X10 hx hZ eT10 Ar_o17 (j := (1 : Int32)) hin_o17 (g := (mkF m 22 #[.val (.ref a0), .val (.ref a1), .val (.ref b2), .val (.int (1 : Int32))] [(.double (FP.ddiv x1 y1)), (.int (1 : Int32)), (.ref b2)])) rfl rfl (hb hby d1_22)
  have K19 : Keep h0 h18 [] := K11.wr W18 (Or.inr sz_b2)
  have V_18 : Arv Z h18 b2 k2 .double (2 : Int32) [(.double (FP.ddiv x0 y0)), (.double (FP.ddiv x1 y1))] (.double (0 : UInt64)) := Arv.set Ar_o17 q_o17 S_o17 N_o17 H_o17 G_o17 rfl W18 1 rfl (Nat.le_of_ble_eq_true rfl)
  have N18 := Fr.snoc X18 N10 g_b2
  refine ogo st18 ?_
  show OWay p e below G T18 (mkF m 23 #[.val (.ref a0), .val (.ref a1), .val (.ref b2), .val (.int (1 : Int32))] [])
  refine ogo (fun _ z_ => XS.iinc X18.here hx rfl (hb hby d1_23) rfl (l' := #[.val (.ref a0), .val (.ref a1), .val (.ref b2), .val (.int ((1 : Int32) + (1 : Int32)))]) rfl z_) ?_
  show OWay p e below G T18 (mkF m 26 #[.val (.ref a0), .val (.ref a1), .val (.ref b2), .val (.int ((1 : Int32) + (1 : Int32)))] [])
  refine ogoE (g' := (mkF m 26 #[.val (.ref a0), .val (.ref a1), .val (.ref b2), .val (.int (2 : Int32))] [])) (by rw [show ((1 : Int32) + (1 : Int32)) = (2 : Int32) from by decide]) ?_
  refine ogo (fun _ z_ => XS.goto X18.here hx rfl (pc0 := 26) (pc' := 7) rfl (hb hby d1_26) (by decide) (by decide) z_) ?_
  show OWay p e below G T18 (mkF m 7 #[.val (.ref a0), .val (.ref a1), .val (.ref b2), .val (.int (2 : Int32))] [])
  refine ogo (fun _ z_ => XS.iloadN X18.here hx rfl (hb hby d1_7) rfl z_) ?_
  show OWay p e below G T18 (mkF m 8 #[.val (.ref a0), .val (.ref a1), .val (.ref b2), .val (.int (2 : Int32))] [(.int (2 : Int32))])
  refine ogo (fun _ z_ => XS.aloadN X18.here hx rfl (hb hby d1_8) rfl rfl z_) ?_
  show OWay p e below G T18 (mkF m 9 #[.val (.ref a0), .val (.ref a1), .val (.ref b2), .val (.int (2 : Int32))] [(.ref b2), (.int (2 : Int32))])
  obtain ⟨cl_o20, Ar_o20, -, S_o20, N_o20, -, -⟩ := id V_18
  refine ogo (fun _ z_ => X18.arraylength hx (by rw [eT18]; exact Ar_o20.1) (State.isArrayOf_alike hZ.alike Ar_o20.2.1) (g := (mkF m 9 #[.val (.ref a0), .val (.ref a1), .val (.ref b2), .val (.int (2 : Int32))] [(.ref b2), (.int (2 : Int32))])) rfl rfl (hb hby d1_9) _ z_) ?_
  rw [len_of S_o20 N_o20]
  show OWay p e below G T18 (mkF m 10 #[.val (.ref a0), .val (.ref a1), .val (.ref b2), .val (.int (2 : Int32))] [(.int (2 : Int32)), (.int (2 : Int32))])
  refine ogo (fun _ z_ => XS.icmpYes X18.here hx rfl (pc0 := 10) (pc' := 29) rfl (hb hby d1_10) rfl (flt (by decide)).2.1 (by decide) (by decide) z_) ?_
  show OWay p e below G T18 (mkF m 29 #[.val (.ref a0), .val (.ref a1), .val (.ref b2), .val (.int (2 : Int32))] [])
  refine ogo (fun _ z_ => XS.aloadN X18.here hx rfl (hb hby d1_29) rfl rfl z_) ?_
  show OWay p e below G T18 (mkF m 30 #[.val (.ref a0), .val (.ref a1), .val (.ref b2), .val (.int (2 : Int32))] [(.ref b2)])
  subst hG
  refine wRet X18 hx hret hlk rfl (Or.inr (Or.inr (Or.inr (Or.inr ⟨rfl, rfl, rfl⟩)))) (hb hby d1_30) (by decide) (by decide) eT18 ?_
  exact ⟨b2, k2, rfl, N18, K19, g_b2, sz_b2, V_18⟩
def rat3_rm : Room := { frames := 0, cells := 1, slots := 3, locals := 0 }
def rat3_Q (Z : State) (a0 : Addr) (a1 : Addr) (ka : ClassId) (kb : ClassId) (x0 : UInt64) (x1 : UInt64) (x2 : UInt64) (y0 : UInt64) (y1 : UInt64) (y2 : UInt64) (h0 : Heap) (n0 : Nat) (v : Option Value) (h : Heap) (L : List Loc) : Prop := ∃ b : Addr, ∃ kr : ClassId, (v = some (.ref b)) ∧ (Fr n0 L) ∧ (Keep h0 h []) ∧ (n0 ≤ b) ∧ (h0.size ≤ b) ∧ (Arv Z h b kr .double (3 : Int32) [(.double (FP.ddiv x0 y0)), (.double (FP.ddiv x1 y1)), (.double (FP.ddiv x2 y2))] (.double (0 : UInt64)))
theorem rat3_ef (m : MethodId) (a0 : Addr) (a1 : Addr) : entryFrame m #[(.ref a0), (.ref a1)] 4 = mkF m 0 #[.val (.ref a0), .val (.ref a1), .unset, .unset] [] := by first | (simp [entryFrame, mkF, argsToLocals, Value.category]; done) | rfl
set_option maxRecDepth 65536 in
set_option maxHeartbeats 40000000 in
theorem rat3_c (l : Launch) (Z : State) (az : Array Value) (hw : ∀ d ∈ tables_1, d.before az Z = true) (ws : List Jvm.Cond) (a0 : Addr) (a1 : Addr) (ka : ClassId) (kb : ClassId) (x0 : UInt64) (x1 : UInt64) (x2 : UInt64) (y0 : UInt64) (y1 : UInt64) (y2 : UInt64) (h0 : Heap) (n0 : Nat) (Z0 : n0 ≤ h0.size) (hp0 : Arv Z h0 a0 ka .double (3 : Int32) [(.double x0), (.double x1), (.double x2)] (.double (0 : UInt64))) (hp1 : Arv Z h0 a1 kb .double (3 : Int32) [(.double y0), (.double y1), (.double y2)] (.double (0 : UInt64))) (hn0 : Jvm.Free.Fl.NoNaN64 (FP.ddiv x0 y0)) (hn1 : Jvm.Free.Fl.NoNaN64 (FP.ddiv x1 y1)) (hn2 : Jvm.Free.Fl.NoNaN64 (FP.ddiv x2 y2)) :
    OCon l (⟨"com/example/stockwire/stockwire/SideBySide", "ratios", "([D[D)[D"⟩ : MethodName) prog_9_method_2_code 4 (some (.array .double)) ws rat3_rm Z #[(.ref a0), (.ref a1)] h0 (rat3_Q Z a0 a1 ka kb x0 x1 x2 y0 y1 y2 h0 n0) := by
  refine ocon (plainFor_of_name pn_com_example_stockwire_stockwire_SideBySide) ?_
  intro p e s m below meth c s₁ hx hby hml hown hnm hret hlk hZ X0 eh0
  have N0 := Fr.nil n0
  have K0 := Keep.refl h0 []
  refine ogoE (rat3_ef m a0 a1) ?_
  generalize hG : (OEnd s below (rat3_Q Z a0 a1 ka kb x0 x1 x2 y0 y1 y2 h0 n0) rat3_rm.cells rat3_rm.slots) = G
  show OWay p e below G s₁ (mkF m 0 #[.val (.ref a0), .val (.ref a1), .unset, .unset] [])
  refine ogo (fun _ z_ => XS.aloadN X0.here hx rfl (hb hby d1_0) rfl rfl z_) ?_
  show OWay p e below G s₁ (mkF m 1 #[.val (.ref a0), .val (.ref a1), .unset, .unset] [(.ref a0)])
  obtain ⟨cl_o1, Ar_o1, -, S_o1, N_o1, -, -⟩ := id hp0
  refine ogo (fun _ z_ => X0.arraylength hx (by rw [eh0]; exact Ar_o1.1) (State.isArrayOf_alike hZ.alike Ar_o1.2.1) (g := (mkF m 1 #[.val (.ref a0), .val (.ref a1), .unset, .unset] [(.ref a0)])) rfl rfl (hb hby d1_1) _ z_) ?_
  rw [len_of S_o1 N_o1]
  show OWay p e below G s₁ (mkF m 2 #[.val (.ref a0), .val (.ref a1), .unset, .unset] [(.int (3 : Int32))])
  obtain ⟨T2, h2, k2, X2, eT2, E2, A2, st2⟩ := newP X0 hx hZ (hw _ (List.mem_of_getElem? (i := 0) rfl)) eh0 (g := (mkF m 2 #[.val (.ref a0), .val (.ref a1), .unset, .unset] [(.int (3 : Int32))])) rfl (hb hby d1_2) rfl (by decide) (cap := 3) (by decide) (by decide) (by decide) (by decide)
  obtain ⟨b2, g2⟩ : ∃ z, z = h0.size := ⟨_, rfl⟩
  rw [← g2] at A2 st2
  have g_b2 : n0 ≤ b2 := Nat.le_trans Z0 (Nat.le_of_eq g2.symm)
  have sz_b2 : h0.size ≤ b2 := Nat.le_trans K0.1 (Nat.le_of_eq g2.symm)
  have K3 : Keep h0 h2 [] := K0.ext E2
  have V_b2 : Arv Z h2 b2 k2 .double (3 : Int32) [(.double (0 : UInt64)), (.double (0 : UInt64)), (.double (0 : UInt64))] (.double (0 : UInt64)) := (Arv.new A2 (by decide)).pad (pad_rep [] (.double (0 : UInt64)) 3)
  refine ogo st2 ?_
  show OWay p e below G T2 (mkF m 4 #[.val (.ref a0), .val (.ref a1), .unset, .unset] [(.ref b2)])
  refine ogo (fun _ z_ => XS.astoreN X2.here hx rfl (hb hby d1_4) rfl rfl (l' := #[.val (.ref a0), .val (.ref a1), .val (.ref b2), .unset]) rfl z_) ?_
  show OWay p e below G T2 (mkF m 5 #[.val (.ref a0), .val (.ref a1), .val (.ref b2), .unset] [])
  refine ogo (fun _ z_ => XS.iconst X2.here hx rfl (hb hby d1_5) z_) ?_
  show OWay p e below G T2 (mkF m 6 #[.val (.ref a0), .val (.ref a1), .val (.ref b2), .unset] [(.int (0 : Int32))])
  refine ogo (fun _ z_ => XS.istoreN X2.here hx rfl (hb hby d1_6) rfl (l' := #[.val (.ref a0), .val (.ref a1), .val (.ref b2), .val (.int (0 : Int32))]) rfl z_) ?_
  show OWay p e below G T2 (mkF m 7 #[.val (.ref a0), .val (.ref a1), .val (.ref b2), .val (.int (0 : Int32))] [])
  refine ogo (fun _ z_ => XS.iloadN X2.here hx rfl (hb hby d1_7) rfl z_) ?_
  show OWay p e below G T2 (mkF m 8 #[.val (.ref a0), .val (.ref a1), .val (.ref b2), .val (.int (0 : Int32))] [(.int (0 : Int32))])
  refine ogo (fun _ z_ => XS.aloadN X2.here hx rfl (hb hby d1_8) rfl rfl z_) ?_
  show OWay p e below G T2 (mkF m 9 #[.val (.ref a0), .val (.ref a1), .val (.ref b2), .val (.int (0 : Int32))] [(.ref b2), (.int (0 : Int32))])
  obtain ⟨cl_o4, Ar_o4, -, S_o4, N_o4, -, -⟩ := id V_b2
  refine ogo (fun _ z_ => X2.arraylength hx (by rw [eT2]; exact Ar_o4.1) (State.isArrayOf_alike hZ.alike Ar_o4.2.1) (g := (mkF m 9 #[.val (.ref a0), .val (.ref a1), .val (.ref b2), .val (.int (0 : Int32))] [(.ref b2), (.int (0 : Int32))])) rfl rfl (hb hby d1_9) _ z_) ?_
  rw [len_of S_o4 N_o4]
  show OWay p e below G T2 (mkF m 10 #[.val (.ref a0), .val (.ref a1), .val (.ref b2), .val (.int (0 : Int32))] [(.int (3 : Int32)), (.int (0 : Int32))])
  refine ogo (fun _ z_ => XS.icmpNo X2.here hx rfl (hb hby d1_10) rfl (tlt (by decide)).2.1 z_) ?_
  show OWay p e below G T2 (mkF m 13 #[.val (.ref a0), .val (.ref a1), .val (.ref b2), .val (.int (0 : Int32))] [])
  refine ogo (fun _ z_ => XS.aloadN X2.here hx rfl (hb hby d1_13) rfl rfl z_) ?_
  show OWay p e below G T2 (mkF m 14 #[.val (.ref a0), .val (.ref a1), .val (.ref b2), .val (.int (0 : Int32))] [(.ref b2)])
  refine ogo (fun _ z_ => XS.iloadN X2.here hx rfl (hb hby d1_14) rfl z_) ?_
  show OWay p e below G T2 (mkF m 15 #[.val (.ref a0), .val (.ref a1), .val (.ref b2), .val (.int (0 : Int32))] [(.int (0 : Int32)), (.ref b2)])
  refine ogo (fun _ z_ => XS.aloadN X2.here hx rfl (hb hby d1_15) rfl rfl z_) ?_
  show OWay p e below G T2 (mkF m 16 #[.val (.ref a0), .val (.ref a1), .val (.ref b2), .val (.int (0 : Int32))] [(.ref a0), (.int (0 : Int32)), (.ref b2)])
  refine ogo (fun _ z_ => XS.iloadN X2.here hx rfl (hb hby d1_16) rfl z_) ?_
  show OWay p e below G T2 (mkF m 17 #[.val (.ref a0), .val (.ref a1), .val (.ref b2), .val (.int (0 : Int32))] [(.int (0 : Int32)), (.ref a0), (.int (0 : Int32)), (.ref b2)])
  have F5 : Arv Z h2 a0 ka .double (3 : Int32) [(.double x0), (.double x1), (.double x2)] (.double (0 : UInt64)) := (hp0.ext E2)
  obtain ⟨cl_o6, Ar_o6, q_o6, S_o6, N_o6, H_o6, G_o6⟩ := id F5
  have hin_o6 : ¬ ((0 : Int32) < 0 ∨ cl_o6.slots.size ≤ ((0 : Int32)).toNatClampNeg) := inb_of S_o6 ⟨by decide, by decide⟩
  have hat_o6 : cl_o6.slots[((0 : Int32)).toNatClampNeg]? = some (.double x0) := H_o6.at hin_o6 rfl
  refine ogo (fun _ z_ => X2.daload hx (j := (0 : Int32)) (v := (.double x0)) (by rw [eT2]; exact Ar_o6.1) (State.isArrayOf_alike hZ.alike Ar_o6.2.1) Ar_o6.2.2 hin_o6 hat_o6 (g := (mkF m 17 #[.val (.ref a0), .val (.ref a1), .val (.ref b2), .val (.int (0 : Int32))] [(.int (0 : Int32)), (.ref a0), (.int (0 : Int32)), (.ref b2)])) rfl rfl (hb hby d1_17) _ z_) ?_
  show OWay p e below G T2 (mkF m 18 #[.val (.ref a0), .val (.ref a1), .val (.ref b2), .val (.int (0 : Int32))] [(.double x0), (.int (0 : Int32)), (.ref b2)])
  refine ogo (fun _ z_ => XS.aloadN X2.here hx rfl (hb hby d1_18) rfl rfl z_) ?_
  show OWay p e below G T2 (mkF m 19 #[.val (.ref a0), .val (.ref a1), .val (.ref b2), .val (.int (0 : Int32))] [(.ref a1), (.double x0), (.int (0 : Int32)), (.ref b2)])
  refine ogo (fun _ z_ => XS.iloadN X2.here hx rfl (hb hby d1_19) rfl z_) ?_
  show OWay p e below G T2 (mkF m 20 #[.val (.ref a0), .val (.ref a1), .val (.ref b2), .val (.int (0 : Int32))] [(.int (0 : Int32)), (.ref a1), (.double x0), (.int (0 : Int32)), (.ref b2)])
  have F7 : Arv Z h2 a1 kb .double (3 : Int32) [(.double y0), (.double y1), (.double y2)] (.double (0 : UInt64)) := (hp1.ext E2)
  obtain ⟨cl_o8, Ar_o8, q_o8, S_o8, N_o8, H_o8, G_o8⟩ := id F7
  have hin_o8 : ¬ ((0 : Int32) < 0 ∨ cl_o8.slots.size ≤ ((0 : Int32)).toNatClampNeg) := inb_of S_o8 ⟨by decide, by decide⟩
  have hat_o8 : cl_o8.slots[((0 : Int32)).toNatClampNeg]? = some (.double y0) := H_o8.at hin_o8 rfl
  refine ogo (fun _ z_ => X2.daload hx (j := (0 : Int32)) (v := (.double y0)) (by rw [eT2]; exact Ar_o8.1) (State.isArrayOf_alike hZ.alike Ar_o8.2.1) Ar_o8.2.2 hin_o8 hat_o8 (g := (mkF m 20 #[.val (.ref a0), .val (.ref a1), .val (.ref b2), .val (.int (0 : Int32))] [(.int (0 : Int32)), (.ref a1), (.double x0), (.int (0 : Int32)), (.ref b2)])) rfl rfl (hb hby d1_20) _ z_) ?_
  show OWay p e below G T2 (mkF m 21 #[.val (.ref a0), .val (.ref a1), .val (.ref b2), .val (.int (0 : Int32))] [(.double y0), (.double x0), (.int (0 : Int32)), (.ref b2)])
  refine ogo (fun _ z_ => XS.ddivS X2.here hx rfl (hb hby d1_21) rfl hn0 rfl z_) ?_
  show OWay p e below G T2 (mkF m 22 #[.val (.ref a0), .val (.ref a1), .val (.ref b2), .val (.int (0 : Int32))] [(.double (FP.ddiv x0 y0)), (.int (0 : Int32)), (.ref b2)])
  obtain ⟨cl_o9, Ar_o9, q_o9, S_o9, N_o9, H_o9, G_o9⟩ := id V_b2
  have hin_o9 : ¬ ((0 : Int32) < 0 ∨ cl_o9.slots.size ≤ ((0 : Int32)).toNatClampNeg) := inb_of S_o9 ⟨by decide, by decide⟩
  obtain ⟨T10, h10, X10, eT10, W10, st10⟩ := stD X2 hx hZ eT2 Ar_o9 (j := (0 : Int32)) hin_o9 (g := (mkF m 22 #[.val (.ref a0), .val (.ref a1), .val (.ref b2), .val (.int (0 : Int32))] [(.double (FP.ddiv x0 y0)), (.int (0 : Int32)), (.ref b2)])) rfl rfl (hb hby d1_22)
  have K11 : Keep h0 h10 [] := K3.wr W10 (Or.inr sz_b2)
  have V_10 : Arv Z h10 b2 k2 .double (3 : Int32) [(.double (FP.ddiv x0 y0)), (.double (0 : UInt64)), (.double (0 : UInt64))] (.double (0 : UInt64)) := Arv.set Ar_o9 q_o9 S_o9 N_o9 H_o9 G_o9 rfl W10 0 rfl (Nat.le_of_ble_eq_true rfl)
  have N10 := Fr.snoc X10 N0 g_b2
  refine ogo st10 ?_
  show OWay p e below G T10 (mkF m 23 #[.val (.ref a0), .val (.ref a1), .val (.ref b2), .val (.int (0 : Int32))] [])
  refine ogo (fun _ z_ => XS.iinc X10.here hx rfl (hb hby d1_23) rfl (l' := #[.val (.ref a0), .val (.ref a1), .val (.ref b2), .val (.int ((0 : Int32) + (1 : Int32)))]) rfl z_) ?_
  show OWay p e below G T10 (mkF m 26 #[.val (.ref a0), .val (.ref a1), .val (.ref b2), .val (.int ((0 : Int32) + (1 : Int32)))] [])
  refine ogoE (g' := (mkF m 26 #[.val (.ref a0), .val (.ref a1), .val (.ref b2), .val (.int (1 : Int32))] [])) (by rw [show ((0 : Int32) + (1 : Int32)) = (1 : Int32) from by decide]) ?_
  refine ogo (fun _ z_ => XS.goto X10.here hx rfl (pc0 := 26) (pc' := 7) rfl (hb hby d1_26) (by decide) (by decide) z_) ?_
  show OWay p e below G T10 (mkF m 7 #[.val (.ref a0), .val (.ref a1), .val (.ref b2), .val (.int (1 : Int32))] [])
  refine ogo (fun _ z_ => XS.iloadN X10.here hx rfl (hb hby d1_7) rfl z_) ?_
  show OWay p e below G T10 (mkF m 8 #[.val (.ref a0), .val (.ref a1), .val (.ref b2), .val (.int (1 : Int32))] [(.int (1 : Int32))])
  refine ogo (fun _ z_ => XS.aloadN X10.here hx rfl (hb hby d1_8) rfl rfl z_) ?_
  show OWay p e below G T10 (mkF m 9 #[.val (.ref a0), .val (.ref a1), .val (.ref b2), .val (.int (1 : Int32))] [(.ref b2), (.int (1 : Int32))])
  obtain ⟨cl_o12, Ar_o12, -, S_o12, N_o12, -, -⟩ := id V_10
  refine ogo (fun _ z_ => X10.arraylength hx (by rw [eT10]; exact Ar_o12.1) (State.isArrayOf_alike hZ.alike Ar_o12.2.1) (g := (mkF m 9 #[.val (.ref a0), .val (.ref a1), .val (.ref b2), .val (.int (1 : Int32))] [(.ref b2), (.int (1 : Int32))])) rfl rfl (hb hby d1_9) _ z_) ?_
  rw [len_of S_o12 N_o12]
  show OWay p e below G T10 (mkF m 10 #[.val (.ref a0), .val (.ref a1), .val (.ref b2), .val (.int (1 : Int32))] [(.int (3 : Int32)), (.int (1 : Int32))])
  refine ogo (fun _ z_ => XS.icmpNo X10.here hx rfl (hb hby d1_10) rfl (tlt (by decide)).2.1 z_) ?_
  show OWay p e below G T10 (mkF m 13 #[.val (.ref a0), .val (.ref a1), .val (.ref b2), .val (.int (1 : Int32))] [])
  refine ogo (fun _ z_ => XS.aloadN X10.here hx rfl (hb hby d1_13) rfl rfl z_) ?_
  show OWay p e below G T10 (mkF m 14 #[.val (.ref a0), .val (.ref a1), .val (.ref b2), .val (.int (1 : Int32))] [(.ref b2)])
  refine ogo (fun _ z_ => XS.iloadN X10.here hx rfl (hb hby d1_14) rfl z_) ?_
  show OWay p e below G T10 (mkF m 15 #[.val (.ref a0), .val (.ref a1), .val (.ref b2), .val (.int (1 : Int32))] [(.int (1 : Int32)), (.ref b2)])
  refine ogo (fun _ z_ => XS.aloadN X10.here hx rfl (hb hby d1_15) rfl rfl z_) ?_
  show OWay p e below G T10 (mkF m 16 #[.val (.ref a0), .val (.ref a1), .val (.ref b2), .val (.int (1 : Int32))] [(.ref a0), (.int (1 : Int32)), (.ref b2)])
  refine ogo (fun _ z_ => XS.iloadN X10.here hx rfl (hb hby d1_16) rfl z_) ?_
  show OWay p e below G T10 (mkF m 17 #[.val (.ref a0), .val (.ref a1), .val (.ref b2), .val (.int (1 : Int32))] [(.int (1 : Int32)), (.ref a0), (.int (1 : Int32)), (.ref b2)])
  have F13 : Arv Z h10 a0 ka .double (3 : Int32) [(.double x0), (.double x1), (.double x2)] (.double (0 : UInt64)) := (F5.other W10 (Nat.ne_of_lt (Nat.lt_of_lt_of_le hp0.lt (Nat.le_of_eq g2.symm))))
  obtain ⟨cl_o14, Ar_o14, q_o14, S_o14, N_o14, H_o14, G_o14⟩ := id F13
  have hin_o14 : ¬ ((1 : Int32) < 0 ∨ cl_o14.slots.size ≤ ((1 : Int32)).toNatClampNeg) := inb_of S_o14 ⟨by decide, by decide⟩
  have hat_o14 : cl_o14.slots[((1 : Int32)).toNatClampNeg]? = some (.double x1) := H_o14.at hin_o14 rfl
  refine ogo (fun _ z_ => X10.daload hx (j := (1 : Int32)) (v := (.double x1)) (by rw [eT10]; exact Ar_o14.1) (State.isArrayOf_alike hZ.alike Ar_o14.2.1) Ar_o14.2.2 hin_o14 hat_o14 (g := (mkF m 17 #[.val (.ref a0), .val (.ref a1), .val (.ref b2), .val (.int (1 : Int32))] [(.int (1 : Int32)), (.ref a0), (.int (1 : Int32)), (.ref b2)])) rfl rfl (hb hby d1_17) _ z_) ?_
  show OWay p e below G T10 (mkF m 18 #[.val (.ref a0), .val (.ref a1), .val (.ref b2), .val (.int (1 : Int32))] [(.double x1), (.int (1 : Int32)), (.ref b2)])
  refine ogo (fun _ z_ => XS.aloadN X10.here hx rfl (hb hby d1_18) rfl rfl z_) ?_
  show OWay p e below G T10 (mkF m 19 #[.val (.ref a0), .val (.ref a1), .val (.ref b2), .val (.int (1 : Int32))] [(.ref a1), (.double x1), (.int (1 : Int32)), (.ref b2)])
  refine ogo (fun _ z_ => XS.iloadN X10.here hx rfl (hb hby d1_19) rfl z_) ?_
  show OWay p e below G T10 (mkF m 20 #[.val (.ref a0), .val (.ref a1), .val (.ref b2), .val (.int (1 : Int32))] [(.int (1 : Int32)), (.ref a1), (.double x1), (.int (1 : Int32)), (.ref b2)])
  have F15 : Arv Z h10 a1 kb .double (3 : Int32) [(.double y0), (.double y1), (.double y2)] (.double (0 : UInt64)) := (F7.other W10 (Nat.ne_of_lt (Nat.lt_of_lt_of_le hp1.lt (Nat.le_of_eq g2.symm))))
  obtain ⟨cl_o16, Ar_o16, q_o16, S_o16, N_o16, H_o16, G_o16⟩ := id F15
  have hin_o16 : ¬ ((1 : Int32) < 0 ∨ cl_o16.slots.size ≤ ((1 : Int32)).toNatClampNeg) := inb_of S_o16 ⟨by decide, by decide⟩
  have hat_o16 : cl_o16.slots[((1 : Int32)).toNatClampNeg]? = some (.double y1) := H_o16.at hin_o16 rfl
  refine ogo (fun _ z_ => X10.daload hx (j := (1 : Int32)) (v := (.double y1)) (by rw [eT10]; exact Ar_o16.1) (State.isArrayOf_alike hZ.alike Ar_o16.2.1) Ar_o16.2.2 hin_o16 hat_o16 (g := (mkF m 20 #[.val (.ref a0), .val (.ref a1), .val (.ref b2), .val (.int (1 : Int32))] [(.int (1 : Int32)), (.ref a1), (.double x1), (.int (1 : Int32)), (.ref b2)])) rfl rfl (hb hby d1_20) _ z_) ?_
  show OWay p e below G T10 (mkF m 21 #[.val (.ref a0), .val (.ref a1), .val (.ref b2), .val (.int (1 : Int32))] [(.double y1), (.double x1), (.int (1 : Int32)), (.ref b2)])
  refine ogo (fun _ z_ => XS.ddivS X10.here hx rfl (hb hby d1_21) rfl hn1 rfl z_) ?_
  show OWay p e below G T10 (mkF m 22 #[.val (.ref a0), .val (.ref a1), .val (.ref b2), .val (.int (1 : Int32))] [(.double (FP.ddiv x1 y1)), (.int (1 : Int32)), (.ref b2)])
  obtain ⟨cl_o17, Ar_o17, q_o17, S_o17, N_o17, H_o17, G_o17⟩ := id V_10
  have hin_o17 : ¬ ((1 : Int32) < 0 ∨ cl_o17.slots.size ≤ ((1 : Int32)).toNatClampNeg) := inb_of S_o17 ⟨by decide, by decide⟩
  obtain ⟨T18, h18, X18, eT18, W18, st18⟩ := stD X10 hx hZ eT10 Ar_o17 (j := (1 : Int32)) hin_o17 (g := (mkF m 22 #[.val (.ref a0), .val (.ref a1), .val (.ref b2), .val (.int (1 : Int32))] [(.double (FP.ddiv x1 y1)), (.int (1 : Int32)), (.ref b2)])) rfl rfl (hb hby d1_22)
  have K19 : Keep h0 h18 [] := K11.wr W18 (Or.inr sz_b2)
  have V_18 : Arv Z h18 b2 k2 .double (3 : Int32) [(.double (FP.ddiv x0 y0)), (.double (FP.ddiv x1 y1)), (.double (0 : UInt64))] (.double (0 : UInt64)) := Arv.set Ar_o17 q_o17 S_o17 N_o17 H_o17 G_o17 rfl W18 1 rfl (Nat.le_of_ble_eq_true rfl)
  have N18 := Fr.snoc X18 N10 g_b2
  refine ogo st18 ?_
  show OWay p e below G T18 (mkF m 23 #[.val (.ref a0), .val (.ref a1), .val (.ref b2), .val (.int (1 : Int32))] [])
  refine ogo (fun _ z_ => XS.iinc X18.here hx rfl (hb hby d1_23) rfl (l' := #[.val (.ref a0), .val (.ref a1), .val (.ref b2), .val (.int ((1 : Int32) + (1 : Int32)))]) rfl z_) ?_
  show OWay p e below G T18 (mkF m 26 #[.val (.ref a0), .val (.ref a1), .val (.ref b2), .val (.int ((1 : Int32) + (1 : Int32)))] [])
  refine ogoE (g' := (mkF m 26 #[.val (.ref a0), .val (.ref a1), .val (.ref b2), .val (.int (2 : Int32))] [])) (by rw [show ((1 : Int32) + (1 : Int32)) = (2 : Int32) from by decide]) ?_
  refine ogo (fun _ z_ => XS.goto X18.here hx rfl (pc0 := 26) (pc' := 7) rfl (hb hby d1_26) (by decide) (by decide) z_) ?_
  show OWay p e below G T18 (mkF m 7 #[.val (.ref a0), .val (.ref a1), .val (.ref b2), .val (.int (2 : Int32))] [])
  refine ogo (fun _ z_ => XS.iloadN X18.here hx rfl (hb hby d1_7) rfl z_) ?_
  show OWay p e below G T18 (mkF m 8 #[.val (.ref a0), .val (.ref a1), .val (.ref b2), .val (.int (2 : Int32))] [(.int (2 : Int32))])
  refine ogo (fun _ z_ => XS.aloadN X18.here hx rfl (hb hby d1_8) rfl rfl z_) ?_
  show OWay p e below G T18 (mkF m 9 #[.val (.ref a0), .val (.ref a1), .val (.ref b2), .val (.int (2 : Int32))] [(.ref b2), (.int (2 : Int32))])
  obtain ⟨cl_o20, Ar_o20, -, S_o20, N_o20, -, -⟩ := id V_18
  refine ogo (fun _ z_ => X18.arraylength hx (by rw [eT18]; exact Ar_o20.1) (State.isArrayOf_alike hZ.alike Ar_o20.2.1) (g := (mkF m 9 #[.val (.ref a0), .val (.ref a1), .val (.ref b2), .val (.int (2 : Int32))] [(.ref b2), (.int (2 : Int32))])) rfl rfl (hb hby d1_9) _ z_) ?_
  rw [len_of S_o20 N_o20]
  show OWay p e below G T18 (mkF m 10 #[.val (.ref a0), .val (.ref a1), .val (.ref b2), .val (.int (2 : Int32))] [(.int (3 : Int32)), (.int (2 : Int32))])
  refine ogo (fun _ z_ => XS.icmpNo X18.here hx rfl (hb hby d1_10) rfl (tlt (by decide)).2.1 z_) ?_
  show OWay p e below G T18 (mkF m 13 #[.val (.ref a0), .val (.ref a1), .val (.ref b2), .val (.int (2 : Int32))] [])
  refine ogo (fun _ z_ => XS.aloadN X18.here hx rfl (hb hby d1_13) rfl rfl z_) ?_
  show OWay p e below G T18 (mkF m 14 #[.val (.ref a0), .val (.ref a1), .val (.ref b2), .val (.int (2 : Int32))] [(.ref b2)])
  refine ogo (fun _ z_ => XS.iloadN X18.here hx rfl (hb hby d1_14) rfl z_) ?_
  show OWay p e below G T18 (mkF m 15 #[.val (.ref a0), .val (.ref a1), .val (.ref b2), .val (.int (2 : Int32))] [(.int (2 : Int32)), (.ref b2)])
  refine ogo (fun _ z_ => XS.aloadN X18.here hx rfl (hb hby d1_15) rfl rfl z_) ?_
  show OWay p e below G T18 (mkF m 16 #[.val (.ref a0), .val (.ref a1), .val (.ref b2), .val (.int (2 : Int32))] [(.ref a0), (.int (2 : Int32)), (.ref b2)])
  refine ogo (fun _ z_ => XS.iloadN X18.here hx rfl (hb hby d1_16) rfl z_) ?_
  show OWay p e below G T18 (mkF m 17 #[.val (.ref a0), .val (.ref a1), .val (.ref b2), .val (.int (2 : Int32))] [(.int (2 : Int32)), (.ref a0), (.int (2 : Int32)), (.ref b2)])
  have F21 : Arv Z h18 a0 ka .double (3 : Int32) [(.double x0), (.double x1), (.double x2)] (.double (0 : UInt64)) := (F13.other W18 (Nat.ne_of_lt (Nat.lt_of_lt_of_le hp0.lt (Nat.le_of_eq g2.symm))))
  obtain ⟨cl_o22, Ar_o22, q_o22, S_o22, N_o22, H_o22, G_o22⟩ := id F21
  have hin_o22 : ¬ ((2 : Int32) < 0 ∨ cl_o22.slots.size ≤ ((2 : Int32)).toNatClampNeg) := inb_of S_o22 ⟨by decide, by decide⟩
  have hat_o22 : cl_o22.slots[((2 : Int32)).toNatClampNeg]? = some (.double x2) := H_o22.at hin_o22 rfl
  refine ogo (fun _ z_ => X18.daload hx (j := (2 : Int32)) (v := (.double x2)) (by rw [eT18]; exact Ar_o22.1) (State.isArrayOf_alike hZ.alike Ar_o22.2.1) Ar_o22.2.2 hin_o22 hat_o22 (g := (mkF m 17 #[.val (.ref a0), .val (.ref a1), .val (.ref b2), .val (.int (2 : Int32))] [(.int (2 : Int32)), (.ref a0), (.int (2 : Int32)), (.ref b2)])) rfl rfl (hb hby d1_17) _ z_) ?_
  show OWay p e below G T18 (mkF m 18 #[.val (.ref a0), .val (.ref a1), .val (.ref b2), .val (.int (2 : Int32))] [(.double x2), (.int (2 : Int32)), (.ref b2)])
  refine ogo (fun _ z_ => XS.aloadN X18.here hx rfl (hb hby d1_18) rfl rfl z_) ?_
  show OWay p e below G T18 (mkF m 19 #[.val (.ref a0), .val (.ref a1), .val (.ref b2), .val (.int (2 : Int32))] [(.ref a1), (.double x2), (.int (2 : Int32)), (.ref b2)])
  refine ogo (fun _ z_ => XS.iloadN X18.here hx rfl (hb hby d1_19) rfl z_) ?_
  show OWay p e below G T18 (mkF m 20 #[.val (.ref a0), .val (.ref a1), .val (.ref b2), .val (.int (2 : Int32))] [(.int (2 : Int32)), (.ref a1), (.double x2), (.int (2 : Int32)), (.ref b2)])
  have F23 : Arv Z h18 a1 kb .double (3 : Int32) [(.double y0), (.double y1), (.double y2)] (.double (0 : UInt64)) := (F15.other W18 (Nat.ne_of_lt (Nat.lt_of_lt_of_le hp1.lt (Nat.le_of_eq g2.symm))))
  obtain ⟨cl_o24, Ar_o24, q_o24, S_o24, N_o24, H_o24, G_o24⟩ := id F23
  have hin_o24 : ¬ ((2 : Int32) < 0 ∨ cl_o24.slots.size ≤ ((2 : Int32)).toNatClampNeg) := inb_of S_o24 ⟨by decide, by decide⟩
  have hat_o24 : cl_o24.slots[((2 : Int32)).toNatClampNeg]? = some (.double y2) := H_o24.at hin_o24 rfl
  refine ogo (fun _ z_ => X18.daload hx (j := (2 : Int32)) (v := (.double y2)) (by rw [eT18]; exact Ar_o24.1) (State.isArrayOf_alike hZ.alike Ar_o24.2.1) Ar_o24.2.2 hin_o24 hat_o24 (g := (mkF m 20 #[.val (.ref a0), .val (.ref a1), .val (.ref b2), .val (.int (2 : Int32))] [(.int (2 : Int32)), (.ref a1), (.double x2), (.int (2 : Int32)), (.ref b2)])) rfl rfl (hb hby d1_20) _ z_) ?_
  show OWay p e below G T18 (mkF m 21 #[.val (.ref a0), .val (.ref a1), .val (.ref b2), .val (.int (2 : Int32))] [(.double y2), (.double x2), (.int (2 : Int32)), (.ref b2)])
  refine ogo (fun _ z_ => XS.ddivS X18.here hx rfl (hb hby d1_21) rfl hn2 rfl z_) ?_
  show OWay p e below G T18 (mkF m 22 #[.val (.ref a0), .val (.ref a1), .val (.ref b2), .val (.int (2 : Int32))] [(.double (FP.ddiv x2 y2)), (.int (2 : Int32)), (.ref b2)])
  obtain ⟨cl_o25, Ar_o25, q_o25, S_o25, N_o25, H_o25, G_o25⟩ := id V_18
  have hin_o25 : ¬ ((2 : Int32) < 0 ∨ cl_o25.slots.size ≤ ((2 : Int32)).toNatClampNeg) := inb_of S_o25 ⟨by decide, by decide⟩
  obtain ⟨T26, h26, X26, eT26, W26, st26⟩ := stD X18 hx hZ eT18 Ar_o25 (j := (2 : Int32)) hin_o25 (g := (mkF m 22 #[.val (.ref a0), .val (.ref a1), .val (.ref b2), .val (.int (2 : Int32))] [(.double (FP.ddiv x2 y2)), (.int (2 : Int32)), (.ref b2)])) rfl rfl (hb hby d1_22)
  have K27 : Keep h0 h26 [] := K19.wr W26 (Or.inr sz_b2)
  have V_26 : Arv Z h26 b2 k2 .double (3 : Int32) [(.double (FP.ddiv x0 y0)), (.double (FP.ddiv x1 y1)), (.double (FP.ddiv x2 y2))] (.double (0 : UInt64)) := Arv.set Ar_o25 q_o25 S_o25 N_o25 H_o25 G_o25 rfl W26 2 rfl (Nat.le_of_ble_eq_true rfl)
  have N26 := Fr.snoc X26 N18 g_b2
  refine ogo st26 ?_
  show OWay p e below G T26 (mkF m 23 #[.val (.ref a0), .val (.ref a1), .val (.ref b2), .val (.int (2 : Int32))] [])
  refine ogo (fun _ z_ => XS.iinc X26.here hx rfl (hb hby d1_23) rfl (l' := #[.val (.ref a0), .val (.ref a1), .val (.ref b2), .val (.int ((2 : Int32) + (1 : Int32)))]) rfl z_) ?_
  show OWay p e below G T26 (mkF m 26 #[.val (.ref a0), .val (.ref a1), .val (.ref b2), .val (.int ((2 : Int32) + (1 : Int32)))] [])
  refine ogoE (g' := (mkF m 26 #[.val (.ref a0), .val (.ref a1), .val (.ref b2), .val (.int (3 : Int32))] [])) (by rw [show ((2 : Int32) + (1 : Int32)) = (3 : Int32) from by decide]) ?_
  refine ogo (fun _ z_ => XS.goto X26.here hx rfl (pc0 := 26) (pc' := 7) rfl (hb hby d1_26) (by decide) (by decide) z_) ?_
  show OWay p e below G T26 (mkF m 7 #[.val (.ref a0), .val (.ref a1), .val (.ref b2), .val (.int (3 : Int32))] [])
  refine ogo (fun _ z_ => XS.iloadN X26.here hx rfl (hb hby d1_7) rfl z_) ?_
  show OWay p e below G T26 (mkF m 8 #[.val (.ref a0), .val (.ref a1), .val (.ref b2), .val (.int (3 : Int32))] [(.int (3 : Int32))])
  refine ogo (fun _ z_ => XS.aloadN X26.here hx rfl (hb hby d1_8) rfl rfl z_) ?_
  show OWay p e below G T26 (mkF m 9 #[.val (.ref a0), .val (.ref a1), .val (.ref b2), .val (.int (3 : Int32))] [(.ref b2), (.int (3 : Int32))])
  obtain ⟨cl_o28, Ar_o28, -, S_o28, N_o28, -, -⟩ := id V_26
  refine ogo (fun _ z_ => X26.arraylength hx (by rw [eT26]; exact Ar_o28.1) (State.isArrayOf_alike hZ.alike Ar_o28.2.1) (g := (mkF m 9 #[.val (.ref a0), .val (.ref a1), .val (.ref b2), .val (.int (3 : Int32))] [(.ref b2), (.int (3 : Int32))])) rfl rfl (hb hby d1_9) _ z_) ?_
  rw [len_of S_o28 N_o28]
  show OWay p e below G T26 (mkF m 10 #[.val (.ref a0), .val (.ref a1), .val (.ref b2), .val (.int (3 : Int32))] [(.int (3 : Int32)), (.int (3 : Int32))])
  refine ogo (fun _ z_ => XS.icmpYes X26.here hx rfl (pc0 := 10) (pc' := 29) rfl (hb hby d1_10) rfl (flt (by decide)).2.1 (by decide) (by decide) z_) ?_
  show OWay p e below G T26 (mkF m 29 #[.val (.ref a0), .val (.ref a1), .val (.ref b2), .val (.int (3 : Int32))] [])
  refine ogo (fun _ z_ => XS.aloadN X26.here hx rfl (hb hby d1_29) rfl rfl z_) ?_
  show OWay p e below G T26 (mkF m 30 #[.val (.ref a0), .val (.ref a1), .val (.ref b2), .val (.int (3 : Int32))] [(.ref b2)])
  subst hG
  refine wRet X26 hx hret hlk rfl (Or.inr (Or.inr (Or.inr (Or.inr ⟨rfl, rfl, rfl⟩)))) (hb hby d1_30) (by decide) (by decide) eT26 ?_
  exact ⟨b2, k2, rfl, N26, K27, g_b2, sz_b2, V_26⟩
theorem pd___D_D__D : parseMethodDescriptor "([D[D)[D" = some ⟨[(.array .double), (.array .double)], some (.array .double)⟩ := by decide +kernel
theorem pd__J_I : parseMethodDescriptor "(J)I" = some ⟨[.long], some .int⟩ := by decide +kernel
def law_Q (Z : State) (p0 : Int32) (q1 : Int64) (q2 : Int64) (q3 : Int64) (h0 : Heap) (n0 : Nat) (v : Option Value) (h : Heap) (L : List Loc) : Prop := v = some (.int 1) ∧ Fr n0 L
theorem law_ef (m : MethodId) (p0 : Int32) (q1 : Int64) (q2 : Int64) (q3 : Int64) : entryFrame m #[(.int p0), (.long q1), (.long q2), (.long q3)] maxLocals = mkF m 0 #[.val (.int p0), .val (.long q1), .second, .val (.long q2), .second, .val (.long q3), .second, .unset, .unset, .unset, .unset, .unset] [] := by first | (simp [entryFrame, mkF, argsToLocals, Value.category, maxLocals]; done) | rfl
set_option maxRecDepth 65536 in
set_option maxHeartbeats 40000000 in
theorem law_c (l : Launch) (Z : State) (az : Array Value) (hw : ∀ d ∈ tables_1, d.before az Z = true) (ws : List Jvm.Cond) (p0 : Int32) (q1 : Int64) (q2 : Int64) (q3 : Int64) (h0 : Heap) (n0 : Nat) (Z0 : n0 ≤ h0.size) :
    OCon l x code maxLocals ret ws room_1 Z #[(.int p0), (.long q1), (.long q2), (.long q3)] h0 (law_Q Z p0 q1 q2 q3 h0 n0) := by
  refine ocon (plainFor_of_name pn_com_example_stockwire_stockwire_SideBySideRatiosPinLaw) ?_
  intro p e s m below meth c s₁ hx hby hml hown hnm hret hlk hZ X0 eh0
  have N0 := Fr.nil n0
  have K0 := Keep.refl h0 []
  refine ogoE (law_ef m p0 q1 q2 q3) ?_
  generalize hG : (OEnd s below (law_Q Z p0 q1 q2 q3 h0 n0) room_1.cells room_1.slots) = G
  show OWay p e below G s₁ (mkF m 0 #[.val (.int p0), .val (.long q1), .second, .val (.long q2), .second, .val (.long q3), .second, .unset, .unset, .unset, .unset, .unset] [])
  refine ogo (fun _ z_ => XS.iloadN X0.here hx rfl (hb hby at_0) rfl z_) ?_
  show OWay p e below G s₁ (mkF m 1 #[.val (.int p0), .val (.long q1), .second, .val (.long q2), .second, .val (.long q3), .second, .unset, .unset, .unset, .unset, .unset] [(.int p0)])
  refine ogo (fun _ z_ => XS.iconst X0.here hx rfl (hb hby at_1) z_) ?_
  show OWay p e below G s₁ (mkF m 2 #[.val (.int p0), .val (.long q1), .second, .val (.long q2), .second, .val (.long q3), .second, .unset, .unset, .unset, .unset, .unset] [(.int (3 : Int32)), (.int p0)])
  refine ogo (fun _ z_ => XS.iand X0.here hx rfl (hb hby at_2) rfl z_) ?_
  show OWay p e below G s₁ (mkF m 3 #[.val (.int p0), .val (.long q1), .second, .val (.long q2), .second, .val (.long q3), .second, .unset, .unset, .unset, .unset, .unset] [(.int (p0 &&& (3 : Int32)))])
  suffices Jv7_1 : ∀ v7_1 : Int32, v7_1 = (p0 &&& (3 : Int32)) → OWay p e below G s₁ (mkF m 3 #[.val (.int p0), .val (.long q1), .second, .val (.long q2), .second, .val (.long q3), .second, .unset, .unset, .unset, .unset, .unset] [(.int v7_1)]) from Jv7_1 _ rfl
  intro v7_1 hv7_1
  refine ogo (fun _ z_ => XS.istore X0.here hx rfl (hb hby at_3) rfl (l' := #[.val (.int p0), .val (.long q1), .second, .val (.long q2), .second, .val (.long q3), .second, .val (.int v7_1), .unset, .unset, .unset, .unset]) rfl z_) ?_
  show OWay p e below G s₁ (mkF m 5 #[.val (.int p0), .val (.long q1), .second, .val (.long q2), .second, .val (.long q3), .second, .val (.int v7_1), .unset, .unset, .unset, .unset] [])
  rcases (own_c p0 v7_1 hv7_1 : v7_1 = (0 : Int32) ∨ v7_1 = (1 : Int32) ∨ v7_1 = (2 : Int32) ∨ v7_1 = (3 : Int32)) with rfl | rfl | rfl | rfl
  · show OWay p e below G s₁ (mkF m 5 #[.val (.int p0), .val (.long q1), .second, .val (.long q2), .second, .val (.long q3), .second, .val (.int (0 : Int32)), .unset, .unset, .unset, .unset] [])
    refine ogo (fun _ z_ => XS.iload X0.here hx rfl (hb hby at_5) rfl z_) ?_
    show OWay p e below G s₁ (mkF m 7 #[.val (.int p0), .val (.long q1), .second, .val (.long q2), .second, .val (.long q3), .second, .val (.int (0 : Int32)), .unset, .unset, .unset, .unset] [(.int (0 : Int32))])
    obtain ⟨T2, h2, k2, X2, eT2, E2, A2, st2⟩ := newP X0 hx hZ (hw _ (List.mem_of_getElem? (i := 0) rfl)) eh0 (g := (mkF m 7 #[.val (.int p0), .val (.long q1), .second, .val (.long q2), .second, .val (.long q3), .second, .val (.int (0 : Int32)), .unset, .unset, .unset, .unset] [(.int (0 : Int32))])) rfl (hb hby at_7) rfl (by decide) (cap := 0) (by decide) (by decide) (by decide) (by decide)
    obtain ⟨b2, g2⟩ : ∃ z, z = h0.size := ⟨_, rfl⟩
    rw [← g2] at A2 st2
    have g_b2 : n0 ≤ b2 := Nat.le_trans Z0 (Nat.le_of_eq g2.symm)
    have sz_b2 : h0.size ≤ b2 := Nat.le_trans K0.1 (Nat.le_of_eq g2.symm)
    have K3 : Keep h0 h2 [] := K0.ext E2
    have V_b2 : Arv Z h2 b2 k2 .double (0 : Int32) [] (.double (0 : UInt64)) := (Arv.new A2 (by decide)).pad (pad_rep [] (.double (0 : UInt64)) 0)
    refine ogo st2 ?_
    show OWay p e below G T2 (mkF m 9 #[.val (.int p0), .val (.long q1), .second, .val (.long q2), .second, .val (.long q3), .second, .val (.int (0 : Int32)), .unset, .unset, .unset, .unset] [(.ref b2)])
    refine ogo (fun _ z_ => XS.astore X2.here hx rfl (hb hby at_9) rfl rfl (l' := #[.val (.int p0), .val (.long q1), .second, .val (.long q2), .second, .val (.long q3), .second, .val (.int (0 : Int32)), .val (.ref b2), .unset, .unset, .unset]) rfl z_) ?_
    show OWay p e below G T2 (mkF m 11 #[.val (.int p0), .val (.long q1), .second, .val (.long q2), .second, .val (.long q3), .second, .val (.int (0 : Int32)), .val (.ref b2), .unset, .unset, .unset] [])
    refine ogo (fun _ z_ => XS.iload X2.here hx rfl (hb hby at_11) rfl z_) ?_
    show OWay p e below G T2 (mkF m 13 #[.val (.int p0), .val (.long q1), .second, .val (.long q2), .second, .val (.long q3), .second, .val (.int (0 : Int32)), .val (.ref b2), .unset, .unset, .unset] [(.int (0 : Int32))])
    obtain ⟨T4, h4, k4, X4, eT4, E4, A4, st4⟩ := newP X2 hx hZ (hw _ (List.mem_of_getElem? (i := 0) rfl)) eT2 (g := (mkF m 13 #[.val (.int p0), .val (.long q1), .second, .val (.long q2), .second, .val (.long q3), .second, .val (.int (0 : Int32)), .val (.ref b2), .unset, .unset, .unset] [(.int (0 : Int32))])) rfl (hb hby at_13) rfl (by decide) (cap := 0) (by decide) (by decide) (by decide) (by decide)
    obtain ⟨b4, g4⟩ : ∃ z, z = h2.size := ⟨_, rfl⟩
    rw [← g4] at A4 st4
    have g_b4 : n0 ≤ b4 := Nat.le_trans (Nat.le_trans Z0 E2.1) (Nat.le_of_eq g4.symm)
    have sz_b4 : h0.size ≤ b4 := Nat.le_trans K3.1 (Nat.le_of_eq g4.symm)
    have K5 : Keep h0 h4 [] := K3.ext E4
    have V_b4 : Arv Z h4 b4 k4 .double (0 : Int32) [] (.double (0 : UInt64)) := (Arv.new A4 (by decide)).pad (pad_rep [] (.double (0 : UInt64)) 0)
    refine ogo st4 ?_
    show OWay p e below G T4 (mkF m 15 #[.val (.int p0), .val (.long q1), .second, .val (.long q2), .second, .val (.long q3), .second, .val (.int (0 : Int32)), .val (.ref b2), .unset, .unset, .unset] [(.ref b4)])
    refine ogo (fun _ z_ => XS.astore X4.here hx rfl (hb hby at_15) rfl rfl (l' := #[.val (.int p0), .val (.long q1), .second, .val (.long q2), .second, .val (.long q3), .second, .val (.int (0 : Int32)), .val (.ref b2), .val (.ref b4), .unset, .unset]) rfl z_) ?_
    show OWay p e below G T4 (mkF m 17 #[.val (.int p0), .val (.long q1), .second, .val (.long q2), .second, .val (.long q3), .second, .val (.int (0 : Int32)), .val (.ref b2), .val (.ref b4), .unset, .unset] [])
    refine ogo (fun _ z_ => XS.iload X4.here hx rfl (hb hby at_17) rfl z_) ?_
    show OWay p e below G T4 (mkF m 19 #[.val (.int p0), .val (.long q1), .second, .val (.long q2), .second, .val (.long q3), .second, .val (.int (0 : Int32)), .val (.ref b2), .val (.ref b4), .unset, .unset] [(.int (0 : Int32))])
    refine ogo (fun _ z_ => XS.ifYes X4.here hx rfl (pc0 := 19) (pc' := 45) rfl (hb hby at_19) rfl ((if0 _ _).trans (flt (by decide)).2.2.2) (by decide) (by decide) z_) ?_
    show OWay p e below G T4 (mkF m 45 #[.val (.int p0), .val (.long q1), .second, .val (.long q2), .second, .val (.long q3), .second, .val (.int (0 : Int32)), .val (.ref b2), .val (.ref b4), .unset, .unset] [])
    refine ogo (fun _ z_ => XS.iload X4.here hx rfl (hb hby at_45) rfl z_) ?_
    show OWay p e below G T4 (mkF m 47 #[.val (.int p0), .val (.long q1), .second, .val (.long q2), .second, .val (.long q3), .second, .val (.int (0 : Int32)), .val (.ref b2), .val (.ref b4), .unset, .unset] [(.int (0 : Int32))])
    refine ogo (fun _ z_ => XS.iconst X4.here hx rfl (hb hby at_47) z_) ?_
    show OWay p e below G T4 (mkF m 48 #[.val (.int p0), .val (.long q1), .second, .val (.long q2), .second, .val (.long q3), .second, .val (.int (0 : Int32)), .val (.ref b2), .val (.ref b4), .unset, .unset] [(.int (1 : Int32)), (.int (0 : Int32))])
    refine ogo (fun _ z_ => XS.icmpYes X4.here hx rfl (pc0 := 48) (pc' := 74) rfl (hb hby at_48) rfl (flt (by decide)).2.2.2 (by decide) (by decide) z_) ?_
    show OWay p e below G T4 (mkF m 74 #[.val (.int p0), .val (.long q1), .second, .val (.long q2), .second, .val (.long q3), .second, .val (.int (0 : Int32)), .val (.ref b2), .val (.ref b4), .unset, .unset] [])
    refine ogo (fun _ z_ => XS.iload X4.here hx rfl (hb hby at_74) rfl z_) ?_
    show OWay p e below G T4 (mkF m 76 #[.val (.int p0), .val (.long q1), .second, .val (.long q2), .second, .val (.long q3), .second, .val (.int (0 : Int32)), .val (.ref b2), .val (.ref b4), .unset, .unset] [(.int (0 : Int32))])
    refine ogo (fun _ z_ => XS.iconst X4.here hx rfl (hb hby at_76) z_) ?_
    show OWay p e below G T4 (mkF m 77 #[.val (.int p0), .val (.long q1), .second, .val (.long q2), .second, .val (.long q3), .second, .val (.int (0 : Int32)), .val (.ref b2), .val (.ref b4), .unset, .unset] [(.int (2 : Int32)), (.int (0 : Int32))])
    refine ogo (fun _ z_ => XS.icmpYes X4.here hx rfl (pc0 := 77) (pc' := 106) rfl (hb hby at_77) rfl (flt (by decide)).2.2.2 (by decide) (by decide) z_) ?_
    show OWay p e below G T4 (mkF m 106 #[.val (.int p0), .val (.long q1), .second, .val (.long q2), .second, .val (.long q3), .second, .val (.int (0 : Int32)), .val (.ref b2), .val (.ref b4), .unset, .unset] [])
    refine ogo (fun _ z_ => XS.aload X4.here hx rfl (hb hby at_106) rfl rfl z_) ?_
    show OWay p e below G T4 (mkF m 108 #[.val (.int p0), .val (.long q1), .second, .val (.long q2), .second, .val (.long q3), .second, .val (.int (0 : Int32)), .val (.ref b2), .val (.ref b4), .unset, .unset] [(.ref b2)])
    refine ogo (fun _ z_ => XS.aload X4.here hx rfl (hb hby at_108) rfl rfl z_) ?_
    show OWay p e below G T4 (mkF m 110 #[.val (.int p0), .val (.long q1), .second, .val (.long q2), .second, .val (.long q3), .second, .val (.int (0 : Int32)), .val (.ref b2), .val (.ref b4), .unset, .unset] [(.ref b4), (.ref b2)])
    have F6 : Arv Z h4 b2 k2 .double (0 : Int32) [] (.double (0 : UInt64)) := (V_b2.ext E4)
    obtain ⟨_, T7, L7, X7, hQ7, st7⟩ := wStatic X4 hx hZ (y := (⟨"com/example/stockwire/stockwire/SideBySide", "ratios", "([D[D)[D"⟩ : MethodName)) hown (hw _ (List.mem_of_getElem? (i := 1) rfl)) (hw _ (List.mem_of_getElem? (i := 2) rfl)) (hw _ (List.mem_of_getElem? (i := 3) rfl)) (hw _ (List.mem_of_getElem? (i := 4) rfl)) (by decide) (rat0_c l Z az hw [] b2 b4 k2 k4 h4 n0 (Nat.le_trans (Nat.le_trans Z0 E2.1) E4.1) F6 V_b4) 0 (by decide) (by decide) (g := (mkF m 110 #[.val (.int p0), .val (.long q1), .second, .val (.long q2), .second, .val (.long q3), .second, .val (.int (0 : Int32)), .val (.ref b2), .val (.ref b4), .unset, .unset] [(.ref b4), (.ref b2)])) rfl (by rw [hml]; rfl) (argsL := [(.ref b2), (.ref b4)]) (rest := []) (lenOf pd___D_D__D rfl) rfl (by show 2 * 0 + _ ≤ _; exact Nat.le_of_eq rfl) (hb hby at_110) rfl eT4 (by decide) (by decide)
    obtain ⟨b_8, kr_9, rfl, N7q, Kq7, P10, P11, P12⟩ := hQ7
    have N7 := Fr.app N0 N7q
    have K13 : Keep h0 T7.heap [] := K5.trans Kq7 all0
    have g_b_8 := P10
    have sz_b_8 : h0.size ≤ b_8 := Nat.le_trans K5.1 P11
    refine ogo st7 ?_
    show OWay p e below G T7 (mkF m 113 #[.val (.int p0), .val (.long q1), .second, .val (.long q2), .second, .val (.long q3), .second, .val (.int (0 : Int32)), .val (.ref b2), .val (.ref b4), .unset, .unset] [(.ref b_8)])
    refine ogo (fun _ z_ => XS.astore X7.here hx rfl (hb hby at_113) rfl rfl (l' := #[.val (.int p0), .val (.long q1), .second, .val (.long q2), .second, .val (.long q3), .second, .val (.int (0 : Int32)), .val (.ref b2), .val (.ref b4), .val (.ref b_8), .unset]) rfl z_) ?_
    show OWay p e below G T7 (mkF m 115 #[.val (.int p0), .val (.long q1), .second, .val (.long q2), .second, .val (.long q3), .second, .val (.int (0 : Int32)), .val (.ref b2), .val (.ref b4), .val (.ref b_8), .unset] [])
    refine ogo (fun _ z_ => XS.aload X7.here hx rfl (hb hby at_115) rfl rfl z_) ?_
    show OWay p e below G T7 (mkF m 117 #[.val (.int p0), .val (.long q1), .second, .val (.long q2), .second, .val (.long q3), .second, .val (.int (0 : Int32)), .val (.ref b2), .val (.ref b4), .val (.ref b_8), .unset] [(.ref b_8)])
    refine ogo (fun _ z_ => XS.ifnullNo X7.here hx rfl (hb hby at_117) rfl z_) ?_
    show OWay p e below G T7 (mkF m 120 #[.val (.int p0), .val (.long q1), .second, .val (.long q2), .second, .val (.long q3), .second, .val (.int (0 : Int32)), .val (.ref b2), .val (.ref b4), .val (.ref b_8), .unset] [])
    refine ogo (fun _ z_ => XS.aload X7.here hx rfl (hb hby at_120) rfl rfl z_) ?_
    show OWay p e below G T7 (mkF m 122 #[.val (.int p0), .val (.long q1), .second, .val (.long q2), .second, .val (.long q3), .second, .val (.int (0 : Int32)), .val (.ref b2), .val (.ref b4), .val (.ref b_8), .unset] [(.ref b_8)])
    obtain ⟨cl_o14, Ar_o14, -, S_o14, N_o14, -, -⟩ := id P12
    refine ogo (fun _ z_ => X7.arraylength hx Ar_o14.1 (State.isArrayOf_alike hZ.alike Ar_o14.2.1) (g := (mkF m 122 #[.val (.int p0), .val (.long q1), .second, .val (.long q2), .second, .val (.long q3), .second, .val (.int (0 : Int32)), .val (.ref b2), .val (.ref b4), .val (.ref b_8), .unset] [(.ref b_8)])) rfl rfl (hb hby at_122) _ z_) ?_
    rw [len_of S_o14 N_o14]
    show OWay p e below G T7 (mkF m 123 #[.val (.int p0), .val (.long q1), .second, .val (.long q2), .second, .val (.long q3), .second, .val (.int (0 : Int32)), .val (.ref b2), .val (.ref b4), .val (.ref b_8), .unset] [(.int (0 : Int32))])
    refine ogo (fun _ z_ => XS.iload X7.here hx rfl (hb hby at_123) rfl z_) ?_
    show OWay p e below G T7 (mkF m 125 #[.val (.int p0), .val (.long q1), .second, .val (.long q2), .second, .val (.long q3), .second, .val (.int (0 : Int32)), .val (.ref b2), .val (.ref b4), .val (.ref b_8), .unset] [(.int (0 : Int32)), (.int (0 : Int32))])
    refine ogo (fun _ z_ => XS.icmpYes X7.here hx rfl (pc0 := 125) (pc' := 130) rfl (hb hby at_125) rfl (teq rfl).1 (by decide) (by decide) z_) ?_
    show OWay p e below G T7 (mkF m 130 #[.val (.int p0), .val (.long q1), .second, .val (.long q2), .second, .val (.long q3), .second, .val (.int (0 : Int32)), .val (.ref b2), .val (.ref b4), .val (.ref b_8), .unset] [])
    refine ogo (fun _ z_ => XS.iconst X7.here hx rfl (hb hby at_130) z_) ?_
    show OWay p e below G T7 (mkF m 131 #[.val (.int p0), .val (.long q1), .second, .val (.long q2), .second, .val (.long q3), .second, .val (.int (0 : Int32)), .val (.ref b2), .val (.ref b4), .val (.ref b_8), .unset] [(.int (1 : Int32))])
    refine ogo (fun _ z_ => XS.istore X7.here hx rfl (hb hby at_131) rfl (l' := #[.val (.int p0), .val (.long q1), .second, .val (.long q2), .second, .val (.long q3), .second, .val (.int (0 : Int32)), .val (.ref b2), .val (.ref b4), .val (.ref b_8), .val (.int (1 : Int32))]) rfl z_) ?_
    show OWay p e below G T7 (mkF m 133 #[.val (.int p0), .val (.long q1), .second, .val (.long q2), .second, .val (.long q3), .second, .val (.int (0 : Int32)), .val (.ref b2), .val (.ref b4), .val (.ref b_8), .val (.int (1 : Int32))] [])
    refine ogo (fun _ z_ => XS.iload X7.here hx rfl (hb hby at_133) rfl z_) ?_
    show OWay p e below G T7 (mkF m 135 #[.val (.int p0), .val (.long q1), .second, .val (.long q2), .second, .val (.long q3), .second, .val (.int (0 : Int32)), .val (.ref b2), .val (.ref b4), .val (.ref b_8), .val (.int (1 : Int32))] [(.int (0 : Int32))])
    refine ogo (fun _ z_ => XS.ifYes X7.here hx rfl (pc0 := 135) (pc' := 163) rfl (hb hby at_135) rfl ((if0 _ _).trans (flt (by decide)).2.2.2) (by decide) (by decide) z_) ?_
    show OWay p e below G T7 (mkF m 163 #[.val (.int p0), .val (.long q1), .second, .val (.long q2), .second, .val (.long q3), .second, .val (.int (0 : Int32)), .val (.ref b2), .val (.ref b4), .val (.ref b_8), .val (.int (1 : Int32))] [])
    refine ogo (fun _ z_ => XS.iload X7.here hx rfl (hb hby at_163) rfl z_) ?_
    show OWay p e below G T7 (mkF m 165 #[.val (.int p0), .val (.long q1), .second, .val (.long q2), .second, .val (.long q3), .second, .val (.int (0 : Int32)), .val (.ref b2), .val (.ref b4), .val (.ref b_8), .val (.int (1 : Int32))] [(.int (0 : Int32))])
    refine ogo (fun _ z_ => XS.iconst X7.here hx rfl (hb hby at_165) z_) ?_
    show OWay p e below G T7 (mkF m 166 #[.val (.int p0), .val (.long q1), .second, .val (.long q2), .second, .val (.long q3), .second, .val (.int (0 : Int32)), .val (.ref b2), .val (.ref b4), .val (.ref b_8), .val (.int (1 : Int32))] [(.int (1 : Int32)), (.int (0 : Int32))])
    refine ogo (fun _ z_ => XS.icmpYes X7.here hx rfl (pc0 := 166) (pc' := 194) rfl (hb hby at_166) rfl (flt (by decide)).2.2.2 (by decide) (by decide) z_) ?_
    show OWay p e below G T7 (mkF m 194 #[.val (.int p0), .val (.long q1), .second, .val (.long q2), .second, .val (.long q3), .second, .val (.int (0 : Int32)), .val (.ref b2), .val (.ref b4), .val (.ref b_8), .val (.int (1 : Int32))] [])
    refine ogo (fun _ z_ => XS.iload X7.here hx rfl (hb hby at_194) rfl z_) ?_
    show OWay p e below G T7 (mkF m 196 #[.val (.int p0), .val (.long q1), .second, .val (.long q2), .second, .val (.long q3), .second, .val (.int (0 : Int32)), .val (.ref b2), .val (.ref b4), .val (.ref b_8), .val (.int (1 : Int32))] [(.int (0 : Int32))])
    refine ogo (fun _ z_ => XS.iconst X7.here hx rfl (hb hby at_196) z_) ?_
    show OWay p e below G T7 (mkF m 197 #[.val (.int p0), .val (.long q1), .second, .val (.long q2), .second, .val (.long q3), .second, .val (.int (0 : Int32)), .val (.ref b2), .val (.ref b4), .val (.ref b_8), .val (.int (1 : Int32))] [(.int (2 : Int32)), (.int (0 : Int32))])
    refine ogo (fun _ z_ => XS.icmpYes X7.here hx rfl (pc0 := 197) (pc' := 226) rfl (hb hby at_197) rfl (flt (by decide)).2.2.2 (by decide) (by decide) z_) ?_
    show OWay p e below G T7 (mkF m 226 #[.val (.int p0), .val (.long q1), .second, .val (.long q2), .second, .val (.long q3), .second, .val (.int (0 : Int32)), .val (.ref b2), .val (.ref b4), .val (.ref b_8), .val (.int (1 : Int32))] [])
    refine ogo (fun _ z_ => XS.iload X7.here hx rfl (hb hby at_226) rfl z_) ?_
    show OWay p e below G T7 (mkF m 228 #[.val (.int p0), .val (.long q1), .second, .val (.long q2), .second, .val (.long q3), .second, .val (.int (0 : Int32)), .val (.ref b2), .val (.ref b4), .val (.ref b_8), .val (.int (1 : Int32))] [(.int (1 : Int32))])
    subst hG
    refine wRetN X7 hx (t := .boolean) hret hlk (by simp) (hb hby at_228) (by decide) (by decide) rfl ?_
    exact ⟨rfl, N7⟩
  · show OWay p e below G s₁ (mkF m 5 #[.val (.int p0), .val (.long q1), .second, .val (.long q2), .second, .val (.long q3), .second, .val (.int (1 : Int32)), .unset, .unset, .unset, .unset] [])
    refine ogo (fun _ z_ => XS.iload X0.here hx rfl (hb hby at_5) rfl z_) ?_
    show OWay p e below G s₁ (mkF m 7 #[.val (.int p0), .val (.long q1), .second, .val (.long q2), .second, .val (.long q3), .second, .val (.int (1 : Int32)), .unset, .unset, .unset, .unset] [(.int (1 : Int32))])
    obtain ⟨T15, h15, k15, X15, eT15, E15, A15, st15⟩ := newP X0 hx hZ (hw _ (List.mem_of_getElem? (i := 0) rfl)) eh0 (g := (mkF m 7 #[.val (.int p0), .val (.long q1), .second, .val (.long q2), .second, .val (.long q3), .second, .val (.int (1 : Int32)), .unset, .unset, .unset, .unset] [(.int (1 : Int32))])) rfl (hb hby at_7) rfl (by decide) (cap := 1) (by decide) (by decide) (by decide) (by decide)
    obtain ⟨b15, g15⟩ : ∃ z, z = h0.size := ⟨_, rfl⟩
    rw [← g15] at A15 st15
    have g_b15 : n0 ≤ b15 := Nat.le_trans Z0 (Nat.le_of_eq g15.symm)
    have sz_b15 : h0.size ≤ b15 := Nat.le_trans K0.1 (Nat.le_of_eq g15.symm)
    have K16 : Keep h0 h15 [] := K0.ext E15
    have V_b15 : Arv Z h15 b15 k15 .double (1 : Int32) [(.double (0 : UInt64))] (.double (0 : UInt64)) := (Arv.new A15 (by decide)).pad (pad_rep [] (.double (0 : UInt64)) 1)
    refine ogo st15 ?_
    show OWay p e below G T15 (mkF m 9 #[.val (.int p0), .val (.long q1), .second, .val (.long q2), .second, .val (.long q3), .second, .val (.int (1 : Int32)), .unset, .unset, .unset, .unset] [(.ref b15)])
    refine ogo (fun _ z_ => XS.astore X15.here hx rfl (hb hby at_9) rfl rfl (l' := #[.val (.int p0), .val (.long q1), .second, .val (.long q2), .second, .val (.long q3), .second, .val (.int (1 : Int32)), .val (.ref b15), .unset, .unset, .unset]) rfl z_) ?_
    show OWay p e below G T15 (mkF m 11 #[.val (.int p0), .val (.long q1), .second, .val (.long q2), .second, .val (.long q3), .second, .val (.int (1 : Int32)), .val (.ref b15), .unset, .unset, .unset] [])
    refine ogo (fun _ z_ => XS.iload X15.here hx rfl (hb hby at_11) rfl z_) ?_
    show OWay p e below G T15 (mkF m 13 #[.val (.int p0), .val (.long q1), .second, .val (.long q2), .second, .val (.long q3), .second, .val (.int (1 : Int32)), .val (.ref b15), .unset, .unset, .unset] [(.int (1 : Int32))])
    obtain ⟨T17, h17, k17, X17, eT17, E17, A17, st17⟩ := newP X15 hx hZ (hw _ (List.mem_of_getElem? (i := 0) rfl)) eT15 (g := (mkF m 13 #[.val (.int p0), .val (.long q1), .second, .val (.long q2), .second, .val (.long q3), .second, .val (.int (1 : Int32)), .val (.ref b15), .unset, .unset, .unset] [(.int (1 : Int32))])) rfl (hb hby at_13) rfl (by decide) (cap := 1) (by decide) (by decide) (by decide) (by decide)
    obtain ⟨b17, g17⟩ : ∃ z, z = h15.size := ⟨_, rfl⟩
    rw [← g17] at A17 st17
    have g_b17 : n0 ≤ b17 := Nat.le_trans (Nat.le_trans Z0 E15.1) (Nat.le_of_eq g17.symm)
    have sz_b17 : h0.size ≤ b17 := Nat.le_trans K16.1 (Nat.le_of_eq g17.symm)
    have K18 : Keep h0 h17 [] := K16.ext E17
    have V_b17 : Arv Z h17 b17 k17 .double (1 : Int32) [(.double (0 : UInt64))] (.double (0 : UInt64)) := (Arv.new A17 (by decide)).pad (pad_rep [] (.double (0 : UInt64)) 1)
    refine ogo st17 ?_
    show OWay p e below G T17 (mkF m 15 #[.val (.int p0), .val (.long q1), .second, .val (.long q2), .second, .val (.long q3), .second, .val (.int (1 : Int32)), .val (.ref b15), .unset, .unset, .unset] [(.ref b17)])
    refine ogo (fun _ z_ => XS.astore X17.here hx rfl (hb hby at_15) rfl rfl (l' := #[.val (.int p0), .val (.long q1), .second, .val (.long q2), .second, .val (.long q3), .second, .val (.int (1 : Int32)), .val (.ref b15), .val (.ref b17), .unset, .unset]) rfl z_) ?_
    show OWay p e below G T17 (mkF m 17 #[.val (.int p0), .val (.long q1), .second, .val (.long q2), .second, .val (.long q3), .second, .val (.int (1 : Int32)), .val (.ref b15), .val (.ref b17), .unset, .unset] [])
    refine ogo (fun _ z_ => XS.iload X17.here hx rfl (hb hby at_17) rfl z_) ?_
    show OWay p e below G T17 (mkF m 19 #[.val (.int p0), .val (.long q1), .second, .val (.long q2), .second, .val (.long q3), .second, .val (.int (1 : Int32)), .val (.ref b15), .val (.ref b17), .unset, .unset] [(.int (1 : Int32))])
    refine ogo (fun _ z_ => XS.ifNo X17.here hx rfl (hb hby at_19) rfl ((if0 _ _).trans (tlt (by decide)).2.2.2) z_) ?_
    show OWay p e below G T17 (mkF m 22 #[.val (.int p0), .val (.long q1), .second, .val (.long q2), .second, .val (.long q3), .second, .val (.int (1 : Int32)), .val (.ref b15), .val (.ref b17), .unset, .unset] [])
    refine ogo (fun _ z_ => XS.aload X17.here hx rfl (hb hby at_22) rfl rfl z_) ?_
    show OWay p e below G T17 (mkF m 24 #[.val (.int p0), .val (.long q1), .second, .val (.long q2), .second, .val (.long q3), .second, .val (.int (1 : Int32)), .val (.ref b15), .val (.ref b17), .unset, .unset] [(.ref b15)])
    refine ogo (fun _ z_ => XS.iconst X17.here hx rfl (hb hby at_24) z_) ?_
    show OWay p e below G T17 (mkF m 25 #[.val (.int p0), .val (.long q1), .second, .val (.long q2), .second, .val (.long q3), .second, .val (.int (1 : Int32)), .val (.ref b15), .val (.ref b17), .unset, .unset] [(.int (0 : Int32)), (.ref b15)])
    refine ogo (fun _ z_ => XS.lloadN X17.here hx rfl (hb hby at_25) rfl z_) ?_
    show OWay p e below G T17 (mkF m 26 #[.val (.int p0), .val (.long q1), .second, .val (.long q2), .second, .val (.long q3), .second, .val (.int (1 : Int32)), .val (.ref b15), .val (.ref b17), .unset, .unset] [(.long q1), (.int (0 : Int32)), (.ref b15)])
    obtain ⟨_, T19, L19, X19, hQ19, st19⟩ := wStatic X17 hx hZ (y := (⟨"com/example/stockwire/stockwire/SideBySideRatiosPinLaw", "k", "(J)I"⟩ : MethodName)) hown (hw _ (List.mem_of_getElem? (i := 5) rfl)) (hw _ (List.mem_of_getElem? (i := 6) rfl)) (hw _ (List.mem_of_getElem? (i := 7) rfl)) (hw _ (List.mem_of_getElem? (i := 8) rfl)) (by decide) (kk_b_c l Z az hw [] q1 h17 n0 (Nat.le_trans (Nat.le_trans Z0 E15.1) E17.1)) 2 (by decide) (by decide) (g := (mkF m 26 #[.val (.int p0), .val (.long q1), .second, .val (.long q2), .second, .val (.long q3), .second, .val (.int (1 : Int32)), .val (.ref b15), .val (.ref b17), .unset, .unset] [(.long q1), (.int (0 : Int32)), (.ref b15)])) rfl (by rw [hml]; rfl) (argsL := [(.long q1)]) (rest := [(.int (0 : Int32)), (.ref b15)]) (lenOf pd__J_I rfl) rfl (by show 2 * 0 + _ ≤ _; exact Nat.le_of_eq rfl) (hb hby at_26) rfl eT17 (by decide) (by decide)
    obtain ⟨rfl, N19q, eq19⟩ := hQ19
    have N19 := Fr.app N0 N19q
    refine ogo st19 ?_
    show OWay p e below G T19 (mkF m 29 #[.val (.int p0), .val (.long q1), .second, .val (.long q2), .second, .val (.long q3), .second, .val (.int (1 : Int32)), .val (.ref b15), .val (.ref b17), .unset, .unset] [(.int (kk q1)), (.int (0 : Int32)), (.ref b15)])
    refine ogo (fun _ z_ => XS.lloadN X19.here hx rfl (hb hby at_29) rfl z_) ?_
    show OWay p e below G T19 (mkF m 30 #[.val (.int p0), .val (.long q1), .second, .val (.long q2), .second, .val (.long q3), .second, .val (.int (1 : Int32)), .val (.ref b15), .val (.ref b17), .unset, .unset] [(.long q1), (.int (kk q1)), (.int (0 : Int32)), (.ref b15)])
    obtain ⟨_, T20, L20, X20, hQ20, st20⟩ := wStatic X19 hx hZ (y := (⟨"com/example/stockwire/stockwire/SideBySideRatiosPinLaw", "h", "(J)I"⟩ : MethodName)) hown (hw _ (List.mem_of_getElem? (i := 9) rfl)) (hw _ (List.mem_of_getElem? (i := 10) rfl)) (hw _ (List.mem_of_getElem? (i := 7) rfl)) (hw _ (List.mem_of_getElem? (i := 11) rfl)) (by decide) (hh_b_c l Z az hw [] q1 h17 n0 (Nat.le_trans (Nat.le_trans Z0 E15.1) E17.1)) 3 (by decide) (by decide) (g := (mkF m 30 #[.val (.int p0), .val (.long q1), .second, .val (.long q2), .second, .val (.long q3), .second, .val (.int (1 : Int32)), .val (.ref b15), .val (.ref b17), .unset, .unset] [(.long q1), (.int (kk q1)), (.int (0 : Int32)), (.ref b15)])) rfl (by rw [hml]; rfl) (argsL := [(.long q1)]) (rest := [(.int (kk q1)), (.int (0 : Int32)), (.ref b15)]) (lenOf pd__J_I rfl) rfl (by show 2 * 0 + _ ≤ _; exact Nat.le_of_eq rfl) (hb hby at_30) rfl eq19 (by decide) (by decide)
    obtain ⟨rfl, N20q, eq20⟩ := hQ20
    have N20 := Fr.app N19 N20q
    refine ogo st20 ?_
    show OWay p e below G T20 (mkF m 33 #[.val (.int p0), .val (.long q1), .second, .val (.long q2), .second, .val (.long q3), .second, .val (.int (1 : Int32)), .val (.ref b15), .val (.ref b17), .unset, .unset] [(.int (hh q1)), (.int (kk q1)), (.int (0 : Int32)), (.ref b15)])
    refine ogo (fun _ z_ => XS.imul X20.here hx rfl (hb hby at_33) rfl z_) ?_
    show OWay p e below G T20 (mkF m 34 #[.val (.int p0), .val (.long q1), .second, .val (.long q2), .second, .val (.long q3), .second, .val (.int (1 : Int32)), .val (.ref b15), .val (.ref b17), .unset, .unset] [(.int ((kk q1) * (hh q1))), (.int (0 : Int32)), (.ref b15)])
    refine ogo (fun _ z_ => XS.i2dS X20.here hx rfl (hb hby at_34) rfl rfl z_) ?_
    show OWay p e below G T20 (mkF m 35 #[.val (.int p0), .val (.long q1), .second, .val (.long q2), .second, .val (.long q3), .second, .val (.int (1 : Int32)), .val (.ref b15), .val (.ref b17), .unset, .unset] [(.double (FP.i2d ((kk q1) * (hh q1)))), (.int (0 : Int32)), (.ref b15)])
    have F21 : Arv Z h17 b15 k15 .double (1 : Int32) [(.double (0 : UInt64))] (.double (0 : UInt64)) := (V_b15.ext E17)
    obtain ⟨cl_o22, Ar_o22, q_o22, S_o22, N_o22, H_o22, G_o22⟩ := id F21
    have hin_o22 : ¬ ((0 : Int32) < 0 ∨ cl_o22.slots.size ≤ ((0 : Int32)).toNatClampNeg) := inb_of S_o22 ⟨by decide, by decide⟩
    obtain ⟨T23, h23, X23, eT23, W23, st23⟩ := stD X20 hx hZ eq20 Ar_o22 (j := (0 : Int32)) hin_o22 (g := (mkF m 35 #[.val (.int p0), .val (.long q1), .second, .val (.long q2), .second, .val (.long q3), .second, .val (.int (1 : Int32)), .val (.ref b15), .val (.ref b17), .unset, .unset] [(.double (FP.i2d ((kk q1) * (hh q1)))), (.int (0 : Int32)), (.ref b15)])) rfl rfl (hb hby at_35)
    have K24 : Keep h0 h23 [] := K18.wr W23 (Or.inr sz_b15)
    have V_23 : Arv Z h23 b15 k15 .double (1 : Int32) [(.double (FP.i2d ((kk q1) * (hh q1))))] (.double (0 : UInt64)) := Arv.set Ar_o22 q_o22 S_o22 N_o22 H_o22 G_o22 rfl W23 0 rfl (Nat.le_of_ble_eq_true rfl)
    have N23 := Fr.snoc X23 N20 g_b15
    refine ogo st23 ?_
    show OWay p e below G T23 (mkF m 36 #[.val (.int p0), .val (.long q1), .second, .val (.long q2), .second, .val (.long q3), .second, .val (.int (1 : Int32)), .val (.ref b15), .val (.ref b17), .unset, .unset] [])
    refine ogo (fun _ z_ => XS.aload X23.here hx rfl (hb hby at_36) rfl rfl z_) ?_
    show OWay p e below G T23 (mkF m 38 #[.val (.int p0), .val (.long q1), .second, .val (.long q2), .second, .val (.long q3), .second, .val (.int (1 : Int32)), .val (.ref b15), .val (.ref b17), .unset, .unset] [(.ref b17)])
    refine ogo (fun _ z_ => XS.iconst X23.here hx rfl (hb hby at_38) z_) ?_
    show OWay p e below G T23 (mkF m 39 #[.val (.int p0), .val (.long q1), .second, .val (.long q2), .second, .val (.long q3), .second, .val (.int (1 : Int32)), .val (.ref b15), .val (.ref b17), .unset, .unset] [(.int (0 : Int32)), (.ref b17)])
    refine ogo (fun _ z_ => XS.lloadN X23.here hx rfl (hb hby at_39) rfl z_) ?_
    show OWay p e below G T23 (mkF m 40 #[.val (.int p0), .val (.long q1), .second, .val (.long q2), .second, .val (.long q3), .second, .val (.int (1 : Int32)), .val (.ref b15), .val (.ref b17), .unset, .unset] [(.long q1), (.int (0 : Int32)), (.ref b17)])
    obtain ⟨_, T25, L25, X25, hQ25, st25⟩ := wStatic X23 hx hZ (y := (⟨"com/example/stockwire/stockwire/SideBySideRatiosPinLaw", "h", "(J)I"⟩ : MethodName)) hown (hw _ (List.mem_of_getElem? (i := 9) rfl)) (hw _ (List.mem_of_getElem? (i := 10) rfl)) (hw _ (List.mem_of_getElem? (i := 7) rfl)) (hw _ (List.mem_of_getElem? (i := 11) rfl)) (by decide) (hh_b_c l Z az hw [] q1 h23 n0 (Nat.le_trans (Nat.le_trans (Nat.le_trans Z0 E15.1) E17.1) (Keep.of_wr W23).1)) 2 (by decide) (by decide) (g := (mkF m 40 #[.val (.int p0), .val (.long q1), .second, .val (.long q2), .second, .val (.long q3), .second, .val (.int (1 : Int32)), .val (.ref b15), .val (.ref b17), .unset, .unset] [(.long q1), (.int (0 : Int32)), (.ref b17)])) rfl (by rw [hml]; rfl) (argsL := [(.long q1)]) (rest := [(.int (0 : Int32)), (.ref b17)]) (lenOf pd__J_I rfl) rfl (by show 2 * 0 + _ ≤ _; exact Nat.le_of_eq rfl) (hb hby at_40) rfl eT23 (by decide) (by decide)
    obtain ⟨rfl, N25q, eq25⟩ := hQ25
    have N25 := Fr.app N23 N25q
    refine ogo st25 ?_
    show OWay p e below G T25 (mkF m 43 #[.val (.int p0), .val (.long q1), .second, .val (.long q2), .second, .val (.long q3), .second, .val (.int (1 : Int32)), .val (.ref b15), .val (.ref b17), .unset, .unset] [(.int (hh q1)), (.int (0 : Int32)), (.ref b17)])
    refine ogo (fun _ z_ => XS.i2dS X25.here hx rfl (hb hby at_43) rfl rfl z_) ?_
    show OWay p e below G T25 (mkF m 44 #[.val (.int p0), .val (.long q1), .second, .val (.long q2), .second, .val (.long q3), .second, .val (.int (1 : Int32)), .val (.ref b15), .val (.ref b17), .unset, .unset] [(.double (FP.i2d (hh q1))), (.int (0 : Int32)), (.ref b17)])
    have F26 : Arv Z h23 b17 k17 .double (1 : Int32) [(.double (0 : UInt64))] (.double (0 : UInt64)) := (V_b17.other W23 (Ne.symm (Nat.ne_of_lt (Nat.lt_of_lt_of_le V_b15.lt (Nat.le_of_eq g17.symm)))))
    obtain ⟨cl_o27, Ar_o27, q_o27, S_o27, N_o27, H_o27, G_o27⟩ := id F26
    have hin_o27 : ¬ ((0 : Int32) < 0 ∨ cl_o27.slots.size ≤ ((0 : Int32)).toNatClampNeg) := inb_of S_o27 ⟨by decide, by decide⟩
    obtain ⟨T28, h28, X28, eT28, W28, st28⟩ := stD X25 hx hZ eq25 Ar_o27 (j := (0 : Int32)) hin_o27 (g := (mkF m 44 #[.val (.int p0), .val (.long q1), .second, .val (.long q2), .second, .val (.long q3), .second, .val (.int (1 : Int32)), .val (.ref b15), .val (.ref b17), .unset, .unset] [(.double (FP.i2d (hh q1))), (.int (0 : Int32)), (.ref b17)])) rfl rfl (hb hby at_44)
    have K29 : Keep h0 h28 [] := K24.wr W28 (Or.inr sz_b17)
    have V_28 : Arv Z h28 b17 k17 .double (1 : Int32) [(.double (FP.i2d (hh q1)))] (.double (0 : UInt64)) := Arv.set Ar_o27 q_o27 S_o27 N_o27 H_o27 G_o27 rfl W28 0 rfl (Nat.le_of_ble_eq_true rfl)
    have N28 := Fr.snoc X28 N25 g_b17
    refine ogo st28 ?_
    show OWay p e below G T28 (mkF m 45 #[.val (.int p0), .val (.long q1), .second, .val (.long q2), .second, .val (.long q3), .second, .val (.int (1 : Int32)), .val (.ref b15), .val (.ref b17), .unset, .unset] [])
    refine ogo (fun _ z_ => XS.iload X28.here hx rfl (hb hby at_45) rfl z_) ?_
    show OWay p e below G T28 (mkF m 47 #[.val (.int p0), .val (.long q1), .second, .val (.long q2), .second, .val (.long q3), .second, .val (.int (1 : Int32)), .val (.ref b15), .val (.ref b17), .unset, .unset] [(.int (1 : Int32))])
    refine ogo (fun _ z_ => XS.iconst X28.here hx rfl (hb hby at_47) z_) ?_
    show OWay p e below G T28 (mkF m 48 #[.val (.int p0), .val (.long q1), .second, .val (.long q2), .second, .val (.long q3), .second, .val (.int (1 : Int32)), .val (.ref b15), .val (.ref b17), .unset, .unset] [(.int (1 : Int32)), (.int (1 : Int32))])
    refine ogo (fun _ z_ => XS.icmpYes X28.here hx rfl (pc0 := 48) (pc' := 74) rfl (hb hby at_48) rfl (flt (by decide)).2.2.2 (by decide) (by decide) z_) ?_
    show OWay p e below G T28 (mkF m 74 #[.val (.int p0), .val (.long q1), .second, .val (.long q2), .second, .val (.long q3), .second, .val (.int (1 : Int32)), .val (.ref b15), .val (.ref b17), .unset, .unset] [])
    refine ogo (fun _ z_ => XS.iload X28.here hx rfl (hb hby at_74) rfl z_) ?_
    show OWay p e below G T28 (mkF m 76 #[.val (.int p0), .val (.long q1), .second, .val (.long q2), .second, .val (.long q3), .second, .val (.int (1 : Int32)), .val (.ref b15), .val (.ref b17), .unset, .unset] [(.int (1 : Int32))])
    refine ogo (fun _ z_ => XS.iconst X28.here hx rfl (hb hby at_76) z_) ?_
    show OWay p e below G T28 (mkF m 77 #[.val (.int p0), .val (.long q1), .second, .val (.long q2), .second, .val (.long q3), .second, .val (.int (1 : Int32)), .val (.ref b15), .val (.ref b17), .unset, .unset] [(.int (2 : Int32)), (.int (1 : Int32))])
    refine ogo (fun _ z_ => XS.icmpYes X28.here hx rfl (pc0 := 77) (pc' := 106) rfl (hb hby at_77) rfl (flt (by decide)).2.2.2 (by decide) (by decide) z_) ?_
    show OWay p e below G T28 (mkF m 106 #[.val (.int p0), .val (.long q1), .second, .val (.long q2), .second, .val (.long q3), .second, .val (.int (1 : Int32)), .val (.ref b15), .val (.ref b17), .unset, .unset] [])
    refine ogo (fun _ z_ => XS.aload X28.here hx rfl (hb hby at_106) rfl rfl z_) ?_
    show OWay p e below G T28 (mkF m 108 #[.val (.int p0), .val (.long q1), .second, .val (.long q2), .second, .val (.long q3), .second, .val (.int (1 : Int32)), .val (.ref b15), .val (.ref b17), .unset, .unset] [(.ref b15)])
    refine ogo (fun _ z_ => XS.aload X28.here hx rfl (hb hby at_108) rfl rfl z_) ?_
    show OWay p e below G T28 (mkF m 110 #[.val (.int p0), .val (.long q1), .second, .val (.long q2), .second, .val (.long q3), .second, .val (.int (1 : Int32)), .val (.ref b15), .val (.ref b17), .unset, .unset] [(.ref b17), (.ref b15)])
    have F30 : Arv Z h28 b15 k15 .double (1 : Int32) [(.double (FP.i2d ((kk q1) * (hh q1))))] (.double (0 : UInt64)) := (V_23.other W28 (Nat.ne_of_lt (Nat.lt_of_lt_of_le V_b15.lt (Nat.le_of_eq g17.symm))))
    obtain ⟨_, T31, L31, X31, hQ31, st31⟩ := wStatic X28 hx hZ (y := (⟨"com/example/stockwire/stockwire/SideBySide", "ratios", "([D[D)[D"⟩ : MethodName)) hown (hw _ (List.mem_of_getElem? (i := 1) rfl)) (hw _ (List.mem_of_getElem? (i := 2) rfl)) (hw _ (List.mem_of_getElem? (i := 3) rfl)) (hw _ (List.mem_of_getElem? (i := 4) rfl)) (by decide) (rat1_c l Z az hw [] b15 b17 k15 k17 (FP.i2d ((kk q1) * (hh q1))) (FP.i2d (hh q1)) h28 n0 (Nat.le_trans (Nat.le_trans (Nat.le_trans (Nat.le_trans Z0 E15.1) E17.1) (Keep.of_wr W23).1) (Keep.of_wr W28).1) F30 V_28 (dy_nn (own_q q1))) 0 (by decide) (by decide) (g := (mkF m 110 #[.val (.int p0), .val (.long q1), .second, .val (.long q2), .second, .val (.long q3), .second, .val (.int (1 : Int32)), .val (.ref b15), .val (.ref b17), .unset, .unset] [(.ref b17), (.ref b15)])) rfl (by rw [hml]; rfl) (argsL := [(.ref b15), (.ref b17)]) (rest := []) (lenOf pd___D_D__D rfl) rfl (by show 2 * 0 + _ ≤ _; exact Nat.le_of_eq rfl) (hb hby at_110) rfl eT28 (by decide) (by decide)
    obtain ⟨b_32, kr_33, rfl, N31q, Kq31, P34, P35, P36⟩ := hQ31
    have N31 := Fr.app N28 N31q
    have K37 : Keep h0 T31.heap [] := K29.trans Kq31 all0
    have g_b_32 := P34
    have sz_b_32 : h0.size ≤ b_32 := Nat.le_trans K29.1 P35
    refine ogo st31 ?_
    show OWay p e below G T31 (mkF m 113 #[.val (.int p0), .val (.long q1), .second, .val (.long q2), .second, .val (.long q3), .second, .val (.int (1 : Int32)), .val (.ref b15), .val (.ref b17), .unset, .unset] [(.ref b_32)])
    refine ogo (fun _ z_ => XS.astore X31.here hx rfl (hb hby at_113) rfl rfl (l' := #[.val (.int p0), .val (.long q1), .second, .val (.long q2), .second, .val (.long q3), .second, .val (.int (1 : Int32)), .val (.ref b15), .val (.ref b17), .val (.ref b_32), .unset]) rfl z_) ?_
    show OWay p e below G T31 (mkF m 115 #[.val (.int p0), .val (.long q1), .second, .val (.long q2), .second, .val (.long q3), .second, .val (.int (1 : Int32)), .val (.ref b15), .val (.ref b17), .val (.ref b_32), .unset] [])
    refine ogo (fun _ z_ => XS.aload X31.here hx rfl (hb hby at_115) rfl rfl z_) ?_
    show OWay p e below G T31 (mkF m 117 #[.val (.int p0), .val (.long q1), .second, .val (.long q2), .second, .val (.long q3), .second, .val (.int (1 : Int32)), .val (.ref b15), .val (.ref b17), .val (.ref b_32), .unset] [(.ref b_32)])
    refine ogo (fun _ z_ => XS.ifnullNo X31.here hx rfl (hb hby at_117) rfl z_) ?_
    show OWay p e below G T31 (mkF m 120 #[.val (.int p0), .val (.long q1), .second, .val (.long q2), .second, .val (.long q3), .second, .val (.int (1 : Int32)), .val (.ref b15), .val (.ref b17), .val (.ref b_32), .unset] [])
    refine ogo (fun _ z_ => XS.aload X31.here hx rfl (hb hby at_120) rfl rfl z_) ?_
    show OWay p e below G T31 (mkF m 122 #[.val (.int p0), .val (.long q1), .second, .val (.long q2), .second, .val (.long q3), .second, .val (.int (1 : Int32)), .val (.ref b15), .val (.ref b17), .val (.ref b_32), .unset] [(.ref b_32)])
    obtain ⟨cl_o38, Ar_o38, -, S_o38, N_o38, -, -⟩ := id P36
    refine ogo (fun _ z_ => X31.arraylength hx Ar_o38.1 (State.isArrayOf_alike hZ.alike Ar_o38.2.1) (g := (mkF m 122 #[.val (.int p0), .val (.long q1), .second, .val (.long q2), .second, .val (.long q3), .second, .val (.int (1 : Int32)), .val (.ref b15), .val (.ref b17), .val (.ref b_32), .unset] [(.ref b_32)])) rfl rfl (hb hby at_122) _ z_) ?_
    rw [len_of S_o38 N_o38]
    show OWay p e below G T31 (mkF m 123 #[.val (.int p0), .val (.long q1), .second, .val (.long q2), .second, .val (.long q3), .second, .val (.int (1 : Int32)), .val (.ref b15), .val (.ref b17), .val (.ref b_32), .unset] [(.int (1 : Int32))])
    refine ogo (fun _ z_ => XS.iload X31.here hx rfl (hb hby at_123) rfl z_) ?_
    show OWay p e below G T31 (mkF m 125 #[.val (.int p0), .val (.long q1), .second, .val (.long q2), .second, .val (.long q3), .second, .val (.int (1 : Int32)), .val (.ref b15), .val (.ref b17), .val (.ref b_32), .unset] [(.int (1 : Int32)), (.int (1 : Int32))])
    refine ogo (fun _ z_ => XS.icmpYes X31.here hx rfl (pc0 := 125) (pc' := 130) rfl (hb hby at_125) rfl (teq rfl).1 (by decide) (by decide) z_) ?_
    show OWay p e below G T31 (mkF m 130 #[.val (.int p0), .val (.long q1), .second, .val (.long q2), .second, .val (.long q3), .second, .val (.int (1 : Int32)), .val (.ref b15), .val (.ref b17), .val (.ref b_32), .unset] [])
    refine ogo (fun _ z_ => XS.iconst X31.here hx rfl (hb hby at_130) z_) ?_
    show OWay p e below G T31 (mkF m 131 #[.val (.int p0), .val (.long q1), .second, .val (.long q2), .second, .val (.long q3), .second, .val (.int (1 : Int32)), .val (.ref b15), .val (.ref b17), .val (.ref b_32), .unset] [(.int (1 : Int32))])
    refine ogo (fun _ z_ => XS.istore X31.here hx rfl (hb hby at_131) rfl (l' := #[.val (.int p0), .val (.long q1), .second, .val (.long q2), .second, .val (.long q3), .second, .val (.int (1 : Int32)), .val (.ref b15), .val (.ref b17), .val (.ref b_32), .val (.int (1 : Int32))]) rfl z_) ?_
    show OWay p e below G T31 (mkF m 133 #[.val (.int p0), .val (.long q1), .second, .val (.long q2), .second, .val (.long q3), .second, .val (.int (1 : Int32)), .val (.ref b15), .val (.ref b17), .val (.ref b_32), .val (.int (1 : Int32))] [])
    refine ogo (fun _ z_ => XS.iload X31.here hx rfl (hb hby at_133) rfl z_) ?_
    show OWay p e below G T31 (mkF m 135 #[.val (.int p0), .val (.long q1), .second, .val (.long q2), .second, .val (.long q3), .second, .val (.int (1 : Int32)), .val (.ref b15), .val (.ref b17), .val (.ref b_32), .val (.int (1 : Int32))] [(.int (1 : Int32))])
    refine ogo (fun _ z_ => XS.ifNo X31.here hx rfl (hb hby at_135) rfl ((if0 _ _).trans (tlt (by decide)).2.2.2) z_) ?_
    show OWay p e below G T31 (mkF m 138 #[.val (.int p0), .val (.long q1), .second, .val (.long q2), .second, .val (.long q3), .second, .val (.int (1 : Int32)), .val (.ref b15), .val (.ref b17), .val (.ref b_32), .val (.int (1 : Int32))] [])
    refine ogo (fun _ z_ => XS.iload X31.here hx rfl (hb hby at_138) rfl z_) ?_
    show OWay p e below G T31 (mkF m 140 #[.val (.int p0), .val (.long q1), .second, .val (.long q2), .second, .val (.long q3), .second, .val (.int (1 : Int32)), .val (.ref b15), .val (.ref b17), .val (.ref b_32), .val (.int (1 : Int32))] [(.int (1 : Int32))])
    refine ogo (fun _ z_ => XS.ifNo X31.here hx rfl (hb hby at_140) rfl ((if0 _ _).trans (feq (by decide)).1) z_) ?_
    show OWay p e below G T31 (mkF m 143 #[.val (.int p0), .val (.long q1), .second, .val (.long q2), .second, .val (.long q3), .second, .val (.int (1 : Int32)), .val (.ref b15), .val (.ref b17), .val (.ref b_32), .val (.int (1 : Int32))] [])
    refine ogo (fun _ z_ => XS.aload X31.here hx rfl (hb hby at_143) rfl rfl z_) ?_
    show OWay p e below G T31 (mkF m 145 #[.val (.int p0), .val (.long q1), .second, .val (.long q2), .second, .val (.long q3), .second, .val (.int (1 : Int32)), .val (.ref b15), .val (.ref b17), .val (.ref b_32), .val (.int (1 : Int32))] [(.ref b_32)])
    refine ogo (fun _ z_ => XS.iconst X31.here hx rfl (hb hby at_145) z_) ?_
    show OWay p e below G T31 (mkF m 146 #[.val (.int p0), .val (.long q1), .second, .val (.long q2), .second, .val (.long q3), .second, .val (.int (1 : Int32)), .val (.ref b15), .val (.ref b17), .val (.ref b_32), .val (.int (1 : Int32))] [(.int (0 : Int32)), (.ref b_32)])
    obtain ⟨cl_o39, Ar_o39, q_o39, S_o39, N_o39, H_o39, G_o39⟩ := id P36
    have hin_o39 : ¬ ((0 : Int32) < 0 ∨ cl_o39.slots.size ≤ ((0 : Int32)).toNatClampNeg) := inb_of S_o39 ⟨by decide, by decide⟩
    have hat_o39 : cl_o39.slots[((0 : Int32)).toNatClampNeg]? = some (.double (FP.ddiv (FP.i2d ((kk q1) * (hh q1))) (FP.i2d (hh q1)))) := H_o39.at hin_o39 rfl
    refine ogo (fun _ z_ => X31.daload hx (j := (0 : Int32)) (v := (.double (FP.ddiv (FP.i2d ((kk q1) * (hh q1))) (FP.i2d (hh q1))))) Ar_o39.1 (State.isArrayOf_alike hZ.alike Ar_o39.2.1) Ar_o39.2.2 hin_o39 hat_o39 (g := (mkF m 146 #[.val (.int p0), .val (.long q1), .second, .val (.long q2), .second, .val (.long q3), .second, .val (.int (1 : Int32)), .val (.ref b15), .val (.ref b17), .val (.ref b_32), .val (.int (1 : Int32))] [(.int (0 : Int32)), (.ref b_32)])) rfl rfl (hb hby at_146) _ z_) ?_
    show OWay p e below G T31 (mkF m 147 #[.val (.int p0), .val (.long q1), .second, .val (.long q2), .second, .val (.long q3), .second, .val (.int (1 : Int32)), .val (.ref b15), .val (.ref b17), .val (.ref b_32), .val (.int (1 : Int32))] [(.double (FP.ddiv (FP.i2d ((kk q1) * (hh q1))) (FP.i2d (hh q1))))])
    refine ogo (fun _ z_ => XS.lloadN X31.here hx rfl (hb hby at_147) rfl z_) ?_
    show OWay p e below G T31 (mkF m 148 #[.val (.int p0), .val (.long q1), .second, .val (.long q2), .second, .val (.long q3), .second, .val (.int (1 : Int32)), .val (.ref b15), .val (.ref b17), .val (.ref b_32), .val (.int (1 : Int32))] [(.long q1), (.double (FP.ddiv (FP.i2d ((kk q1) * (hh q1))) (FP.i2d (hh q1))))])
    obtain ⟨_, T40, L40, X40, hQ40, st40⟩ := wStatic X31 hx hZ (y := (⟨"com/example/stockwire/stockwire/SideBySideRatiosPinLaw", "k", "(J)I"⟩ : MethodName)) hown (hw _ (List.mem_of_getElem? (i := 5) rfl)) (hw _ (List.mem_of_getElem? (i := 6) rfl)) (hw _ (List.mem_of_getElem? (i := 7) rfl)) (hw _ (List.mem_of_getElem? (i := 8) rfl)) (by decide) (kk_b_c l Z az hw [] q1 T31.heap n0 (Nat.le_trans (Nat.le_trans (Nat.le_trans (Nat.le_trans (Nat.le_trans Z0 E15.1) E17.1) (Keep.of_wr W23).1) (Keep.of_wr W28).1) Kq31.1)) 2 (by decide) (by decide) (g := (mkF m 148 #[.val (.int p0), .val (.long q1), .second, .val (.long q2), .second, .val (.long q3), .second, .val (.int (1 : Int32)), .val (.ref b15), .val (.ref b17), .val (.ref b_32), .val (.int (1 : Int32))] [(.long q1), (.double (FP.ddiv (FP.i2d ((kk q1) * (hh q1))) (FP.i2d (hh q1))))])) rfl (by rw [hml]; rfl) (argsL := [(.long q1)]) (rest := [(.double (FP.ddiv (FP.i2d ((kk q1) * (hh q1))) (FP.i2d (hh q1))))]) (lenOf pd__J_I rfl) rfl (by show 2 * 0 + _ ≤ _; exact Nat.le_of_eq rfl) (hb hby at_148) rfl rfl (by decide) (by decide)
    obtain ⟨rfl, N40q, eq40⟩ := hQ40
    have N40 := Fr.app N31 N40q
    refine ogo st40 ?_
    show OWay p e below G T40 (mkF m 151 #[.val (.int p0), .val (.long q1), .second, .val (.long q2), .second, .val (.long q3), .second, .val (.int (1 : Int32)), .val (.ref b15), .val (.ref b17), .val (.ref b_32), .val (.int (1 : Int32))] [(.int (kk q1)), (.double (FP.ddiv (FP.i2d ((kk q1) * (hh q1))) (FP.i2d (hh q1))))])
    refine ogo (fun _ z_ => XS.i2dS X40.here hx rfl (hb hby at_151) rfl rfl z_) ?_
    show OWay p e below G T40 (mkF m 152 #[.val (.int p0), .val (.long q1), .second, .val (.long q2), .second, .val (.long q3), .second, .val (.int (1 : Int32)), .val (.ref b15), .val (.ref b17), .val (.ref b_32), .val (.int (1 : Int32))] [(.double (FP.i2d (kk q1))), (.double (FP.ddiv (FP.i2d ((kk q1) * (hh q1))) (FP.i2d (hh q1))))])
    refine ogo (fun _ z_ => XS.dcmpS X40.here hx rfl (hb hby at_152) rfl rfl z_) ?_
    show OWay p e below G T40 (mkF m 153 #[.val (.int p0), .val (.long q1), .second, .val (.long q2), .second, .val (.long q3), .second, .val (.int (1 : Int32)), .val (.ref b15), .val (.ref b17), .val (.ref b_32), .val (.int (1 : Int32))] [(.int (cmpValue (FP.dcmp (FP.ddiv (FP.i2d ((kk q1) * (hh q1))) (FP.i2d (hh q1))) (FP.i2d (kk q1))) .l))])
    refine ogo (fun _ z_ => XS.ifNo X40.here hx rfl (hb hby at_153) rfl ((if0 _ _).trans (teq (own_r q1)).2) z_) ?_
    show OWay p e below G T40 (mkF m 156 #[.val (.int p0), .val (.long q1), .second, .val (.long q2), .second, .val (.long q3), .second, .val (.int (1 : Int32)), .val (.ref b15), .val (.ref b17), .val (.ref b_32), .val (.int (1 : Int32))] [])
    refine ogo (fun _ z_ => XS.iconst X40.here hx rfl (hb hby at_156) z_) ?_
    show OWay p e below G T40 (mkF m 157 #[.val (.int p0), .val (.long q1), .second, .val (.long q2), .second, .val (.long q3), .second, .val (.int (1 : Int32)), .val (.ref b15), .val (.ref b17), .val (.ref b_32), .val (.int (1 : Int32))] [(.int (1 : Int32))])
    refine ogo (fun _ z_ => XS.goto X40.here hx rfl (pc0 := 157) (pc' := 161) rfl (hb hby at_157) (by decide) (by decide) z_) ?_
    show OWay p e below G T40 (mkF m 161 #[.val (.int p0), .val (.long q1), .second, .val (.long q2), .second, .val (.long q3), .second, .val (.int (1 : Int32)), .val (.ref b15), .val (.ref b17), .val (.ref b_32), .val (.int (1 : Int32))] [(.int (1 : Int32))])
    refine ogo (fun _ z_ => XS.istore X40.here hx rfl (hb hby at_161) rfl (l' := #[.val (.int p0), .val (.long q1), .second, .val (.long q2), .second, .val (.long q3), .second, .val (.int (1 : Int32)), .val (.ref b15), .val (.ref b17), .val (.ref b_32), .val (.int (1 : Int32))]) rfl z_) ?_
    show OWay p e below G T40 (mkF m 163 #[.val (.int p0), .val (.long q1), .second, .val (.long q2), .second, .val (.long q3), .second, .val (.int (1 : Int32)), .val (.ref b15), .val (.ref b17), .val (.ref b_32), .val (.int (1 : Int32))] [])
    refine ogo (fun _ z_ => XS.iload X40.here hx rfl (hb hby at_163) rfl z_) ?_
    show OWay p e below G T40 (mkF m 165 #[.val (.int p0), .val (.long q1), .second, .val (.long q2), .second, .val (.long q3), .second, .val (.int (1 : Int32)), .val (.ref b15), .val (.ref b17), .val (.ref b_32), .val (.int (1 : Int32))] [(.int (1 : Int32))])
    refine ogo (fun _ z_ => XS.iconst X40.here hx rfl (hb hby at_165) z_) ?_
    show OWay p e below G T40 (mkF m 166 #[.val (.int p0), .val (.long q1), .second, .val (.long q2), .second, .val (.long q3), .second, .val (.int (1 : Int32)), .val (.ref b15), .val (.ref b17), .val (.ref b_32), .val (.int (1 : Int32))] [(.int (1 : Int32)), (.int (1 : Int32))])
    refine ogo (fun _ z_ => XS.icmpYes X40.here hx rfl (pc0 := 166) (pc' := 194) rfl (hb hby at_166) rfl (flt (by decide)).2.2.2 (by decide) (by decide) z_) ?_
    show OWay p e below G T40 (mkF m 194 #[.val (.int p0), .val (.long q1), .second, .val (.long q2), .second, .val (.long q3), .second, .val (.int (1 : Int32)), .val (.ref b15), .val (.ref b17), .val (.ref b_32), .val (.int (1 : Int32))] [])
    refine ogo (fun _ z_ => XS.iload X40.here hx rfl (hb hby at_194) rfl z_) ?_
    show OWay p e below G T40 (mkF m 196 #[.val (.int p0), .val (.long q1), .second, .val (.long q2), .second, .val (.long q3), .second, .val (.int (1 : Int32)), .val (.ref b15), .val (.ref b17), .val (.ref b_32), .val (.int (1 : Int32))] [(.int (1 : Int32))])
    refine ogo (fun _ z_ => XS.iconst X40.here hx rfl (hb hby at_196) z_) ?_
    show OWay p e below G T40 (mkF m 197 #[.val (.int p0), .val (.long q1), .second, .val (.long q2), .second, .val (.long q3), .second, .val (.int (1 : Int32)), .val (.ref b15), .val (.ref b17), .val (.ref b_32), .val (.int (1 : Int32))] [(.int (2 : Int32)), (.int (1 : Int32))])
    refine ogo (fun _ z_ => XS.icmpYes X40.here hx rfl (pc0 := 197) (pc' := 226) rfl (hb hby at_197) rfl (flt (by decide)).2.2.2 (by decide) (by decide) z_) ?_
    show OWay p e below G T40 (mkF m 226 #[.val (.int p0), .val (.long q1), .second, .val (.long q2), .second, .val (.long q3), .second, .val (.int (1 : Int32)), .val (.ref b15), .val (.ref b17), .val (.ref b_32), .val (.int (1 : Int32))] [])
    refine ogo (fun _ z_ => XS.iload X40.here hx rfl (hb hby at_226) rfl z_) ?_
    show OWay p e below G T40 (mkF m 228 #[.val (.int p0), .val (.long q1), .second, .val (.long q2), .second, .val (.long q3), .second, .val (.int (1 : Int32)), .val (.ref b15), .val (.ref b17), .val (.ref b_32), .val (.int (1 : Int32))] [(.int (1 : Int32))])
    subst hG
    refine wRetN X40 hx (t := .boolean) hret hlk (by simp) (hb hby at_228) (by decide) (by decide) eq40 ?_
    exact ⟨rfl, N40⟩
  · show OWay p e below G s₁ (mkF m 5 #[.val (.int p0), .val (.long q1), .second, .val (.long q2), .second, .val (.long q3), .second, .val (.int (2 : Int32)), .unset, .unset, .unset, .unset] [])
    refine ogo (fun _ z_ => XS.iload X0.here hx rfl (hb hby at_5) rfl z_) ?_
    show OWay p e below G s₁ (mkF m 7 #[.val (.int p0), .val (.long q1), .second, .val (.long q2), .second, .val (.long q3), .second, .val (.int (2 : Int32)), .unset, .unset, .unset, .unset] [(.int (2 : Int32))])
    obtain ⟨T41, h41, k41, X41, eT41, E41, A41, st41⟩ := newP X0 hx hZ (hw _ (List.mem_of_getElem? (i := 0) rfl)) eh0 (g := (mkF m 7 #[.val (.int p0), .val (.long q1), .second, .val (.long q2), .second, .val (.long q3), .second, .val (.int (2 : Int32)), .unset, .unset, .unset, .unset] [(.int (2 : Int32))])) rfl (hb hby at_7) rfl (by decide) (cap := 2) (by decide) (by decide) (by decide) (by decide)
    obtain ⟨b41, g41⟩ : ∃ z, z = h0.size := ⟨_, rfl⟩
    rw [← g41] at A41 st41
    have g_b41 : n0 ≤ b41 := Nat.le_trans Z0 (Nat.le_of_eq g41.symm)
    have sz_b41 : h0.size ≤ b41 := Nat.le_trans K0.1 (Nat.le_of_eq g41.symm)
    have K42 : Keep h0 h41 [] := K0.ext E41
    have V_b41 : Arv Z h41 b41 k41 .double (2 : Int32) [(.double (0 : UInt64)), (.double (0 : UInt64))] (.double (0 : UInt64)) := (Arv.new A41 (by decide)).pad (pad_rep [] (.double (0 : UInt64)) 2)
    refine ogo st41 ?_
    show OWay p e below G T41 (mkF m 9 #[.val (.int p0), .val (.long q1), .second, .val (.long q2), .second, .val (.long q3), .second, .val (.int (2 : Int32)), .unset, .unset, .unset, .unset] [(.ref b41)])
    refine ogo (fun _ z_ => XS.astore X41.here hx rfl (hb hby at_9) rfl rfl (l' := #[.val (.int p0), .val (.long q1), .second, .val (.long q2), .second, .val (.long q3), .second, .val (.int (2 : Int32)), .val (.ref b41), .unset, .unset, .unset]) rfl z_) ?_
    show OWay p e below G T41 (mkF m 11 #[.val (.int p0), .val (.long q1), .second, .val (.long q2), .second, .val (.long q3), .second, .val (.int (2 : Int32)), .val (.ref b41), .unset, .unset, .unset] [])
    refine ogo (fun _ z_ => XS.iload X41.here hx rfl (hb hby at_11) rfl z_) ?_
    show OWay p e below G T41 (mkF m 13 #[.val (.int p0), .val (.long q1), .second, .val (.long q2), .second, .val (.long q3), .second, .val (.int (2 : Int32)), .val (.ref b41), .unset, .unset, .unset] [(.int (2 : Int32))])
    obtain ⟨T43, h43, k43, X43, eT43, E43, A43, st43⟩ := newP X41 hx hZ (hw _ (List.mem_of_getElem? (i := 0) rfl)) eT41 (g := (mkF m 13 #[.val (.int p0), .val (.long q1), .second, .val (.long q2), .second, .val (.long q3), .second, .val (.int (2 : Int32)), .val (.ref b41), .unset, .unset, .unset] [(.int (2 : Int32))])) rfl (hb hby at_13) rfl (by decide) (cap := 2) (by decide) (by decide) (by decide) (by decide)
    obtain ⟨b43, g43⟩ : ∃ z, z = h41.size := ⟨_, rfl⟩
    rw [← g43] at A43 st43
    have g_b43 : n0 ≤ b43 := Nat.le_trans (Nat.le_trans Z0 E41.1) (Nat.le_of_eq g43.symm)
    have sz_b43 : h0.size ≤ b43 := Nat.le_trans K42.1 (Nat.le_of_eq g43.symm)
    have K44 : Keep h0 h43 [] := K42.ext E43
    have V_b43 : Arv Z h43 b43 k43 .double (2 : Int32) [(.double (0 : UInt64)), (.double (0 : UInt64))] (.double (0 : UInt64)) := (Arv.new A43 (by decide)).pad (pad_rep [] (.double (0 : UInt64)) 2)
    refine ogo st43 ?_
    show OWay p e below G T43 (mkF m 15 #[.val (.int p0), .val (.long q1), .second, .val (.long q2), .second, .val (.long q3), .second, .val (.int (2 : Int32)), .val (.ref b41), .unset, .unset, .unset] [(.ref b43)])
    refine ogo (fun _ z_ => XS.astore X43.here hx rfl (hb hby at_15) rfl rfl (l' := #[.val (.int p0), .val (.long q1), .second, .val (.long q2), .second, .val (.long q3), .second, .val (.int (2 : Int32)), .val (.ref b41), .val (.ref b43), .unset, .unset]) rfl z_) ?_
    show OWay p e below G T43 (mkF m 17 #[.val (.int p0), .val (.long q1), .second, .val (.long q2), .second, .val (.long q3), .second, .val (.int (2 : Int32)), .val (.ref b41), .val (.ref b43), .unset, .unset] [])
    refine ogo (fun _ z_ => XS.iload X43.here hx rfl (hb hby at_17) rfl z_) ?_
    show OWay p e below G T43 (mkF m 19 #[.val (.int p0), .val (.long q1), .second, .val (.long q2), .second, .val (.long q3), .second, .val (.int (2 : Int32)), .val (.ref b41), .val (.ref b43), .unset, .unset] [(.int (2 : Int32))])
    refine ogo (fun _ z_ => XS.ifNo X43.here hx rfl (hb hby at_19) rfl ((if0 _ _).trans (tlt (by decide)).2.2.2) z_) ?_
    show OWay p e below G T43 (mkF m 22 #[.val (.int p0), .val (.long q1), .second, .val (.long q2), .second, .val (.long q3), .second, .val (.int (2 : Int32)), .val (.ref b41), .val (.ref b43), .unset, .unset] [])
    refine ogo (fun _ z_ => XS.aload X43.here hx rfl (hb hby at_22) rfl rfl z_) ?_
    show OWay p e below G T43 (mkF m 24 #[.val (.int p0), .val (.long q1), .second, .val (.long q2), .second, .val (.long q3), .second, .val (.int (2 : Int32)), .val (.ref b41), .val (.ref b43), .unset, .unset] [(.ref b41)])
    refine ogo (fun _ z_ => XS.iconst X43.here hx rfl (hb hby at_24) z_) ?_
    show OWay p e below G T43 (mkF m 25 #[.val (.int p0), .val (.long q1), .second, .val (.long q2), .second, .val (.long q3), .second, .val (.int (2 : Int32)), .val (.ref b41), .val (.ref b43), .unset, .unset] [(.int (0 : Int32)), (.ref b41)])
    refine ogo (fun _ z_ => XS.lloadN X43.here hx rfl (hb hby at_25) rfl z_) ?_
    show OWay p e below G T43 (mkF m 26 #[.val (.int p0), .val (.long q1), .second, .val (.long q2), .second, .val (.long q3), .second, .val (.int (2 : Int32)), .val (.ref b41), .val (.ref b43), .unset, .unset] [(.long q1), (.int (0 : Int32)), (.ref b41)])
    obtain ⟨_, T45, L45, X45, hQ45, st45⟩ := wStatic X43 hx hZ (y := (⟨"com/example/stockwire/stockwire/SideBySideRatiosPinLaw", "k", "(J)I"⟩ : MethodName)) hown (hw _ (List.mem_of_getElem? (i := 5) rfl)) (hw _ (List.mem_of_getElem? (i := 6) rfl)) (hw _ (List.mem_of_getElem? (i := 7) rfl)) (hw _ (List.mem_of_getElem? (i := 8) rfl)) (by decide) (kk_b_c l Z az hw [] q1 h43 n0 (Nat.le_trans (Nat.le_trans Z0 E41.1) E43.1)) 2 (by decide) (by decide) (g := (mkF m 26 #[.val (.int p0), .val (.long q1), .second, .val (.long q2), .second, .val (.long q3), .second, .val (.int (2 : Int32)), .val (.ref b41), .val (.ref b43), .unset, .unset] [(.long q1), (.int (0 : Int32)), (.ref b41)])) rfl (by rw [hml]; rfl) (argsL := [(.long q1)]) (rest := [(.int (0 : Int32)), (.ref b41)]) (lenOf pd__J_I rfl) rfl (by show 2 * 0 + _ ≤ _; exact Nat.le_of_eq rfl) (hb hby at_26) rfl eT43 (by decide) (by decide)
    obtain ⟨rfl, N45q, eq45⟩ := hQ45
    have N45 := Fr.app N0 N45q
    refine ogo st45 ?_
    show OWay p e below G T45 (mkF m 29 #[.val (.int p0), .val (.long q1), .second, .val (.long q2), .second, .val (.long q3), .second, .val (.int (2 : Int32)), .val (.ref b41), .val (.ref b43), .unset, .unset] [(.int (kk q1)), (.int (0 : Int32)), (.ref b41)])
    refine ogo (fun _ z_ => XS.lloadN X45.here hx rfl (hb hby at_29) rfl z_) ?_
    show OWay p e below G T45 (mkF m 30 #[.val (.int p0), .val (.long q1), .second, .val (.long q2), .second, .val (.long q3), .second, .val (.int (2 : Int32)), .val (.ref b41), .val (.ref b43), .unset, .unset] [(.long q1), (.int (kk q1)), (.int (0 : Int32)), (.ref b41)])
    obtain ⟨_, T46, L46, X46, hQ46, st46⟩ := wStatic X45 hx hZ (y := (⟨"com/example/stockwire/stockwire/SideBySideRatiosPinLaw", "h", "(J)I"⟩ : MethodName)) hown (hw _ (List.mem_of_getElem? (i := 9) rfl)) (hw _ (List.mem_of_getElem? (i := 10) rfl)) (hw _ (List.mem_of_getElem? (i := 7) rfl)) (hw _ (List.mem_of_getElem? (i := 11) rfl)) (by decide) (hh_b_c l Z az hw [] q1 h43 n0 (Nat.le_trans (Nat.le_trans Z0 E41.1) E43.1)) 3 (by decide) (by decide) (g := (mkF m 30 #[.val (.int p0), .val (.long q1), .second, .val (.long q2), .second, .val (.long q3), .second, .val (.int (2 : Int32)), .val (.ref b41), .val (.ref b43), .unset, .unset] [(.long q1), (.int (kk q1)), (.int (0 : Int32)), (.ref b41)])) rfl (by rw [hml]; rfl) (argsL := [(.long q1)]) (rest := [(.int (kk q1)), (.int (0 : Int32)), (.ref b41)]) (lenOf pd__J_I rfl) rfl (by show 2 * 0 + _ ≤ _; exact Nat.le_of_eq rfl) (hb hby at_30) rfl eq45 (by decide) (by decide)
    obtain ⟨rfl, N46q, eq46⟩ := hQ46
    have N46 := Fr.app N45 N46q
    refine ogo st46 ?_
    show OWay p e below G T46 (mkF m 33 #[.val (.int p0), .val (.long q1), .second, .val (.long q2), .second, .val (.long q3), .second, .val (.int (2 : Int32)), .val (.ref b41), .val (.ref b43), .unset, .unset] [(.int (hh q1)), (.int (kk q1)), (.int (0 : Int32)), (.ref b41)])
    refine ogo (fun _ z_ => XS.imul X46.here hx rfl (hb hby at_33) rfl z_) ?_
    show OWay p e below G T46 (mkF m 34 #[.val (.int p0), .val (.long q1), .second, .val (.long q2), .second, .val (.long q3), .second, .val (.int (2 : Int32)), .val (.ref b41), .val (.ref b43), .unset, .unset] [(.int ((kk q1) * (hh q1))), (.int (0 : Int32)), (.ref b41)])
    refine ogo (fun _ z_ => XS.i2dS X46.here hx rfl (hb hby at_34) rfl rfl z_) ?_
    show OWay p e below G T46 (mkF m 35 #[.val (.int p0), .val (.long q1), .second, .val (.long q2), .second, .val (.long q3), .second, .val (.int (2 : Int32)), .val (.ref b41), .val (.ref b43), .unset, .unset] [(.double (FP.i2d ((kk q1) * (hh q1)))), (.int (0 : Int32)), (.ref b41)])
    have F47 : Arv Z h43 b41 k41 .double (2 : Int32) [(.double (0 : UInt64)), (.double (0 : UInt64))] (.double (0 : UInt64)) := (V_b41.ext E43)
    obtain ⟨cl_o48, Ar_o48, q_o48, S_o48, N_o48, H_o48, G_o48⟩ := id F47
    have hin_o48 : ¬ ((0 : Int32) < 0 ∨ cl_o48.slots.size ≤ ((0 : Int32)).toNatClampNeg) := inb_of S_o48 ⟨by decide, by decide⟩
    obtain ⟨T49, h49, X49, eT49, W49, st49⟩ := stD X46 hx hZ eq46 Ar_o48 (j := (0 : Int32)) hin_o48 (g := (mkF m 35 #[.val (.int p0), .val (.long q1), .second, .val (.long q2), .second, .val (.long q3), .second, .val (.int (2 : Int32)), .val (.ref b41), .val (.ref b43), .unset, .unset] [(.double (FP.i2d ((kk q1) * (hh q1)))), (.int (0 : Int32)), (.ref b41)])) rfl rfl (hb hby at_35)
    have K50 : Keep h0 h49 [] := K44.wr W49 (Or.inr sz_b41)
    have V_49 : Arv Z h49 b41 k41 .double (2 : Int32) [(.double (FP.i2d ((kk q1) * (hh q1)))), (.double (0 : UInt64))] (.double (0 : UInt64)) := Arv.set Ar_o48 q_o48 S_o48 N_o48 H_o48 G_o48 rfl W49 0 rfl (Nat.le_of_ble_eq_true rfl)
    have N49 := Fr.snoc X49 N46 g_b41
    refine ogo st49 ?_
    show OWay p e below G T49 (mkF m 36 #[.val (.int p0), .val (.long q1), .second, .val (.long q2), .second, .val (.long q3), .second, .val (.int (2 : Int32)), .val (.ref b41), .val (.ref b43), .unset, .unset] [])
    refine ogo (fun _ z_ => XS.aload X49.here hx rfl (hb hby at_36) rfl rfl z_) ?_
    show OWay p e below G T49 (mkF m 38 #[.val (.int p0), .val (.long q1), .second, .val (.long q2), .second, .val (.long q3), .second, .val (.int (2 : Int32)), .val (.ref b41), .val (.ref b43), .unset, .unset] [(.ref b43)])
    refine ogo (fun _ z_ => XS.iconst X49.here hx rfl (hb hby at_38) z_) ?_
    show OWay p e below G T49 (mkF m 39 #[.val (.int p0), .val (.long q1), .second, .val (.long q2), .second, .val (.long q3), .second, .val (.int (2 : Int32)), .val (.ref b41), .val (.ref b43), .unset, .unset] [(.int (0 : Int32)), (.ref b43)])
    refine ogo (fun _ z_ => XS.lloadN X49.here hx rfl (hb hby at_39) rfl z_) ?_
    show OWay p e below G T49 (mkF m 40 #[.val (.int p0), .val (.long q1), .second, .val (.long q2), .second, .val (.long q3), .second, .val (.int (2 : Int32)), .val (.ref b41), .val (.ref b43), .unset, .unset] [(.long q1), (.int (0 : Int32)), (.ref b43)])
    obtain ⟨_, T51, L51, X51, hQ51, st51⟩ := wStatic X49 hx hZ (y := (⟨"com/example/stockwire/stockwire/SideBySideRatiosPinLaw", "h", "(J)I"⟩ : MethodName)) hown (hw _ (List.mem_of_getElem? (i := 9) rfl)) (hw _ (List.mem_of_getElem? (i := 10) rfl)) (hw _ (List.mem_of_getElem? (i := 7) rfl)) (hw _ (List.mem_of_getElem? (i := 11) rfl)) (by decide) (hh_b_c l Z az hw [] q1 h49 n0 (Nat.le_trans (Nat.le_trans (Nat.le_trans Z0 E41.1) E43.1) (Keep.of_wr W49).1)) 2 (by decide) (by decide) (g := (mkF m 40 #[.val (.int p0), .val (.long q1), .second, .val (.long q2), .second, .val (.long q3), .second, .val (.int (2 : Int32)), .val (.ref b41), .val (.ref b43), .unset, .unset] [(.long q1), (.int (0 : Int32)), (.ref b43)])) rfl (by rw [hml]; rfl) (argsL := [(.long q1)]) (rest := [(.int (0 : Int32)), (.ref b43)]) (lenOf pd__J_I rfl) rfl (by show 2 * 0 + _ ≤ _; exact Nat.le_of_eq rfl) (hb hby at_40) rfl eT49 (by decide) (by decide)
    obtain ⟨rfl, N51q, eq51⟩ := hQ51
    have N51 := Fr.app N49 N51q
    refine ogo st51 ?_
    show OWay p e below G T51 (mkF m 43 #[.val (.int p0), .val (.long q1), .second, .val (.long q2), .second, .val (.long q3), .second, .val (.int (2 : Int32)), .val (.ref b41), .val (.ref b43), .unset, .unset] [(.int (hh q1)), (.int (0 : Int32)), (.ref b43)])
    refine ogo (fun _ z_ => XS.i2dS X51.here hx rfl (hb hby at_43) rfl rfl z_) ?_
    show OWay p e below G T51 (mkF m 44 #[.val (.int p0), .val (.long q1), .second, .val (.long q2), .second, .val (.long q3), .second, .val (.int (2 : Int32)), .val (.ref b41), .val (.ref b43), .unset, .unset] [(.double (FP.i2d (hh q1))), (.int (0 : Int32)), (.ref b43)])
    have F52 : Arv Z h49 b43 k43 .double (2 : Int32) [(.double (0 : UInt64)), (.double (0 : UInt64))] (.double (0 : UInt64)) := (V_b43.other W49 (Ne.symm (Nat.ne_of_lt (Nat.lt_of_lt_of_le V_b41.lt (Nat.le_of_eq g43.symm)))))
    obtain ⟨cl_o53, Ar_o53, q_o53, S_o53, N_o53, H_o53, G_o53⟩ := id F52
    have hin_o53 : ¬ ((0 : Int32) < 0 ∨ cl_o53.slots.size ≤ ((0 : Int32)).toNatClampNeg) := inb_of S_o53 ⟨by decide, by decide⟩
    obtain ⟨T54, h54, X54, eT54, W54, st54⟩ := stD X51 hx hZ eq51 Ar_o53 (j := (0 : Int32)) hin_o53 (g := (mkF m 44 #[.val (.int p0), .val (.long q1), .second, .val (.long q2), .second, .val (.long q3), .second, .val (.int (2 : Int32)), .val (.ref b41), .val (.ref b43), .unset, .unset] [(.double (FP.i2d (hh q1))), (.int (0 : Int32)), (.ref b43)])) rfl rfl (hb hby at_44)
    have K55 : Keep h0 h54 [] := K50.wr W54 (Or.inr sz_b43)
    have V_54 : Arv Z h54 b43 k43 .double (2 : Int32) [(.double (FP.i2d (hh q1))), (.double (0 : UInt64))] (.double (0 : UInt64)) := Arv.set Ar_o53 q_o53 S_o53 N_o53 H_o53 G_o53 rfl W54 0 rfl (Nat.le_of_ble_eq_true rfl)
    have N54 := Fr.snoc X54 N51 g_b43
    refine ogo st54 ?_
    show OWay p e below G T54 (mkF m 45 #[.val (.int p0), .val (.long q1), .second, .val (.long q2), .second, .val (.long q3), .second, .val (.int (2 : Int32)), .val (.ref b41), .val (.ref b43), .unset, .unset] [])
    refine ogo (fun _ z_ => XS.iload X54.here hx rfl (hb hby at_45) rfl z_) ?_
    show OWay p e below G T54 (mkF m 47 #[.val (.int p0), .val (.long q1), .second, .val (.long q2), .second, .val (.long q3), .second, .val (.int (2 : Int32)), .val (.ref b41), .val (.ref b43), .unset, .unset] [(.int (2 : Int32))])
    refine ogo (fun _ z_ => XS.iconst X54.here hx rfl (hb hby at_47) z_) ?_
    show OWay p e below G T54 (mkF m 48 #[.val (.int p0), .val (.long q1), .second, .val (.long q2), .second, .val (.long q3), .second, .val (.int (2 : Int32)), .val (.ref b41), .val (.ref b43), .unset, .unset] [(.int (1 : Int32)), (.int (2 : Int32))])
    refine ogo (fun _ z_ => XS.icmpNo X54.here hx rfl (hb hby at_48) rfl (tlt (by decide)).2.2.2 z_) ?_
    show OWay p e below G T54 (mkF m 51 #[.val (.int p0), .val (.long q1), .second, .val (.long q2), .second, .val (.long q3), .second, .val (.int (2 : Int32)), .val (.ref b41), .val (.ref b43), .unset, .unset] [])
    refine ogo (fun _ z_ => XS.aload X54.here hx rfl (hb hby at_51) rfl rfl z_) ?_
    show OWay p e below G T54 (mkF m 53 #[.val (.int p0), .val (.long q1), .second, .val (.long q2), .second, .val (.long q3), .second, .val (.int (2 : Int32)), .val (.ref b41), .val (.ref b43), .unset, .unset] [(.ref b41)])
    refine ogo (fun _ z_ => XS.iconst X54.here hx rfl (hb hby at_53) z_) ?_
    show OWay p e below G T54 (mkF m 54 #[.val (.int p0), .val (.long q1), .second, .val (.long q2), .second, .val (.long q3), .second, .val (.int (2 : Int32)), .val (.ref b41), .val (.ref b43), .unset, .unset] [(.int (1 : Int32)), (.ref b41)])
    refine ogo (fun _ z_ => XS.lloadN X54.here hx rfl (hb hby at_54) rfl z_) ?_
    show OWay p e below G T54 (mkF m 55 #[.val (.int p0), .val (.long q1), .second, .val (.long q2), .second, .val (.long q3), .second, .val (.int (2 : Int32)), .val (.ref b41), .val (.ref b43), .unset, .unset] [(.long q2), (.int (1 : Int32)), (.ref b41)])
    obtain ⟨_, T56, L56, X56, hQ56, st56⟩ := wStatic X54 hx hZ (y := (⟨"com/example/stockwire/stockwire/SideBySideRatiosPinLaw", "k", "(J)I"⟩ : MethodName)) hown (hw _ (List.mem_of_getElem? (i := 5) rfl)) (hw _ (List.mem_of_getElem? (i := 6) rfl)) (hw _ (List.mem_of_getElem? (i := 7) rfl)) (hw _ (List.mem_of_getElem? (i := 8) rfl)) (by decide) (kk_b_c l Z az hw [] q2 h54 n0 (Nat.le_trans (Nat.le_trans (Nat.le_trans (Nat.le_trans Z0 E41.1) E43.1) (Keep.of_wr W49).1) (Keep.of_wr W54).1)) 2 (by decide) (by decide) (g := (mkF m 55 #[.val (.int p0), .val (.long q1), .second, .val (.long q2), .second, .val (.long q3), .second, .val (.int (2 : Int32)), .val (.ref b41), .val (.ref b43), .unset, .unset] [(.long q2), (.int (1 : Int32)), (.ref b41)])) rfl (by rw [hml]; rfl) (argsL := [(.long q2)]) (rest := [(.int (1 : Int32)), (.ref b41)]) (lenOf pd__J_I rfl) rfl (by show 2 * 0 + _ ≤ _; exact Nat.le_of_eq rfl) (hb hby at_55) rfl eT54 (by decide) (by decide)
    obtain ⟨rfl, N56q, eq56⟩ := hQ56
    have N56 := Fr.app N54 N56q
    refine ogo st56 ?_
    show OWay p e below G T56 (mkF m 58 #[.val (.int p0), .val (.long q1), .second, .val (.long q2), .second, .val (.long q3), .second, .val (.int (2 : Int32)), .val (.ref b41), .val (.ref b43), .unset, .unset] [(.int (kk q2)), (.int (1 : Int32)), (.ref b41)])
    refine ogo (fun _ z_ => XS.lloadN X56.here hx rfl (hb hby at_58) rfl z_) ?_
    show OWay p e below G T56 (mkF m 59 #[.val (.int p0), .val (.long q1), .second, .val (.long q2), .second, .val (.long q3), .second, .val (.int (2 : Int32)), .val (.ref b41), .val (.ref b43), .unset, .unset] [(.long q2), (.int (kk q2)), (.int (1 : Int32)), (.ref b41)])
    obtain ⟨_, T57, L57, X57, hQ57, st57⟩ := wStatic X56 hx hZ (y := (⟨"com/example/stockwire/stockwire/SideBySideRatiosPinLaw", "h", "(J)I"⟩ : MethodName)) hown (hw _ (List.mem_of_getElem? (i := 9) rfl)) (hw _ (List.mem_of_getElem? (i := 10) rfl)) (hw _ (List.mem_of_getElem? (i := 7) rfl)) (hw _ (List.mem_of_getElem? (i := 11) rfl)) (by decide) (hh_b_c l Z az hw [] q2 h54 n0 (Nat.le_trans (Nat.le_trans (Nat.le_trans (Nat.le_trans Z0 E41.1) E43.1) (Keep.of_wr W49).1) (Keep.of_wr W54).1)) 3 (by decide) (by decide) (g := (mkF m 59 #[.val (.int p0), .val (.long q1), .second, .val (.long q2), .second, .val (.long q3), .second, .val (.int (2 : Int32)), .val (.ref b41), .val (.ref b43), .unset, .unset] [(.long q2), (.int (kk q2)), (.int (1 : Int32)), (.ref b41)])) rfl (by rw [hml]; rfl) (argsL := [(.long q2)]) (rest := [(.int (kk q2)), (.int (1 : Int32)), (.ref b41)]) (lenOf pd__J_I rfl) rfl (by show 2 * 0 + _ ≤ _; exact Nat.le_of_eq rfl) (hb hby at_59) rfl eq56 (by decide) (by decide)
    obtain ⟨rfl, N57q, eq57⟩ := hQ57
    have N57 := Fr.app N56 N57q
    refine ogo st57 ?_
    show OWay p e below G T57 (mkF m 62 #[.val (.int p0), .val (.long q1), .second, .val (.long q2), .second, .val (.long q3), .second, .val (.int (2 : Int32)), .val (.ref b41), .val (.ref b43), .unset, .unset] [(.int (hh q2)), (.int (kk q2)), (.int (1 : Int32)), (.ref b41)])
    refine ogo (fun _ z_ => XS.imul X57.here hx rfl (hb hby at_62) rfl z_) ?_
    show OWay p e below G T57 (mkF m 63 #[.val (.int p0), .val (.long q1), .second, .val (.long q2), .second, .val (.long q3), .second, .val (.int (2 : Int32)), .val (.ref b41), .val (.ref b43), .unset, .unset] [(.int ((kk q2) * (hh q2))), (.int (1 : Int32)), (.ref b41)])
    refine ogo (fun _ z_ => XS.i2dS X57.here hx rfl (hb hby at_63) rfl rfl z_) ?_
    show OWay p e below G T57 (mkF m 64 #[.val (.int p0), .val (.long q1), .second, .val (.long q2), .second, .val (.long q3), .second, .val (.int (2 : Int32)), .val (.ref b41), .val (.ref b43), .unset, .unset] [(.double (FP.i2d ((kk q2) * (hh q2)))), (.int (1 : Int32)), (.ref b41)])
    have F58 : Arv Z h54 b41 k41 .double (2 : Int32) [(.double (FP.i2d ((kk q1) * (hh q1)))), (.double (0 : UInt64))] (.double (0 : UInt64)) := (V_49.other W54 (Nat.ne_of_lt (Nat.lt_of_lt_of_le V_b41.lt (Nat.le_of_eq g43.symm))))
    obtain ⟨cl_o59, Ar_o59, q_o59, S_o59, N_o59, H_o59, G_o59⟩ := id F58
    have hin_o59 : ¬ ((1 : Int32) < 0 ∨ cl_o59.slots.size ≤ ((1 : Int32)).toNatClampNeg) := inb_of S_o59 ⟨by decide, by decide⟩
    obtain ⟨T60, h60, X60, eT60, W60, st60⟩ := stD X57 hx hZ eq57 Ar_o59 (j := (1 : Int32)) hin_o59 (g := (mkF m 64 #[.val (.int p0), .val (.long q1), .second, .val (.long q2), .second, .val (.long q3), .second, .val (.int (2 : Int32)), .val (.ref b41), .val (.ref b43), .unset, .unset] [(.double (FP.i2d ((kk q2) * (hh q2)))), (.int (1 : Int32)), (.ref b41)])) rfl rfl (hb hby at_64)
    have K61 : Keep h0 h60 [] := K55.wr W60 (Or.inr sz_b41)
    have V_60 : Arv Z h60 b41 k41 .double (2 : Int32) [(.double (FP.i2d ((kk q1) * (hh q1)))), (.double (FP.i2d ((kk q2) * (hh q2))))] (.double (0 : UInt64)) := Arv.set Ar_o59 q_o59 S_o59 N_o59 H_o59 G_o59 rfl W60 1 rfl (Nat.le_of_ble_eq_true rfl)
    have N60 := Fr.snoc X60 N57 g_b41
    refine ogo st60 ?_
    show OWay p e below G T60 (mkF m 65 #[.val (.int p0), .val (.long q1), .second, .val (.long q2), .second, .val (.long q3), .second, .val (.int (2 : Int32)), .val (.ref b41), .val (.ref b43), .unset, .unset] [])
    refine ogo (fun _ z_ => XS.aload X60.here hx rfl (hb hby at_65) rfl rfl z_) ?_
    show OWay p e below G T60 (mkF m 67 #[.val (.int p0), .val (.long q1), .second, .val (.long q2), .second, .val (.long q3), .second, .val (.int (2 : Int32)), .val (.ref b41), .val (.ref b43), .unset, .unset] [(.ref b43)])
    refine ogo (fun _ z_ => XS.iconst X60.here hx rfl (hb hby at_67) z_) ?_
    show OWay p e below G T60 (mkF m 68 #[.val (.int p0), .val (.long q1), .second, .val (.long q2), .second, .val (.long q3), .second, .val (.int (2 : Int32)), .val (.ref b41), .val (.ref b43), .unset, .unset] [(.int (1 : Int32)), (.ref b43)])
    refine ogo (fun _ z_ => XS.lloadN X60.here hx rfl (hb hby at_68) rfl z_) ?_
    show OWay p e below G T60 (mkF m 69 #[.val (.int p0), .val (.long q1), .second, .val (.long q2), .second, .val (.long q3), .second, .val (.int (2 : Int32)), .val (.ref b41), .val (.ref b43), .unset, .unset] [(.long q2), (.int (1 : Int32)), (.ref b43)])
    obtain ⟨_, T62, L62, X62, hQ62, st62⟩ := wStatic X60 hx hZ (y := (⟨"com/example/stockwire/stockwire/SideBySideRatiosPinLaw", "h", "(J)I"⟩ : MethodName)) hown (hw _ (List.mem_of_getElem? (i := 9) rfl)) (hw _ (List.mem_of_getElem? (i := 10) rfl)) (hw _ (List.mem_of_getElem? (i := 7) rfl)) (hw _ (List.mem_of_getElem? (i := 11) rfl)) (by decide) (hh_b_c l Z az hw [] q2 h60 n0 (Nat.le_trans (Nat.le_trans (Nat.le_trans (Nat.le_trans (Nat.le_trans Z0 E41.1) E43.1) (Keep.of_wr W49).1) (Keep.of_wr W54).1) (Keep.of_wr W60).1)) 2 (by decide) (by decide) (g := (mkF m 69 #[.val (.int p0), .val (.long q1), .second, .val (.long q2), .second, .val (.long q3), .second, .val (.int (2 : Int32)), .val (.ref b41), .val (.ref b43), .unset, .unset] [(.long q2), (.int (1 : Int32)), (.ref b43)])) rfl (by rw [hml]; rfl) (argsL := [(.long q2)]) (rest := [(.int (1 : Int32)), (.ref b43)]) (lenOf pd__J_I rfl) rfl (by show 2 * 0 + _ ≤ _; exact Nat.le_of_eq rfl) (hb hby at_69) rfl eT60 (by decide) (by decide)
    obtain ⟨rfl, N62q, eq62⟩ := hQ62
    have N62 := Fr.app N60 N62q
    refine ogo st62 ?_
    show OWay p e below G T62 (mkF m 72 #[.val (.int p0), .val (.long q1), .second, .val (.long q2), .second, .val (.long q3), .second, .val (.int (2 : Int32)), .val (.ref b41), .val (.ref b43), .unset, .unset] [(.int (hh q2)), (.int (1 : Int32)), (.ref b43)])
    refine ogo (fun _ z_ => XS.i2dS X62.here hx rfl (hb hby at_72) rfl rfl z_) ?_
    show OWay p e below G T62 (mkF m 73 #[.val (.int p0), .val (.long q1), .second, .val (.long q2), .second, .val (.long q3), .second, .val (.int (2 : Int32)), .val (.ref b41), .val (.ref b43), .unset, .unset] [(.double (FP.i2d (hh q2))), (.int (1 : Int32)), (.ref b43)])
    have F63 : Arv Z h60 b43 k43 .double (2 : Int32) [(.double (FP.i2d (hh q1))), (.double (0 : UInt64))] (.double (0 : UInt64)) := (V_54.other W60 (Ne.symm (Nat.ne_of_lt (Nat.lt_of_lt_of_le V_b41.lt (Nat.le_of_eq g43.symm)))))
    obtain ⟨cl_o64, Ar_o64, q_o64, S_o64, N_o64, H_o64, G_o64⟩ := id F63
    have hin_o64 : ¬ ((1 : Int32) < 0 ∨ cl_o64.slots.size ≤ ((1 : Int32)).toNatClampNeg) := inb_of S_o64 ⟨by decide, by decide⟩
    obtain ⟨T65, h65, X65, eT65, W65, st65⟩ := stD X62 hx hZ eq62 Ar_o64 (j := (1 : Int32)) hin_o64 (g := (mkF m 73 #[.val (.int p0), .val (.long q1), .second, .val (.long q2), .second, .val (.long q3), .second, .val (.int (2 : Int32)), .val (.ref b41), .val (.ref b43), .unset, .unset] [(.double (FP.i2d (hh q2))), (.int (1 : Int32)), (.ref b43)])) rfl rfl (hb hby at_73)
    have K66 : Keep h0 h65 [] := K61.wr W65 (Or.inr sz_b43)
    have V_65 : Arv Z h65 b43 k43 .double (2 : Int32) [(.double (FP.i2d (hh q1))), (.double (FP.i2d (hh q2)))] (.double (0 : UInt64)) := Arv.set Ar_o64 q_o64 S_o64 N_o64 H_o64 G_o64 rfl W65 1 rfl (Nat.le_of_ble_eq_true rfl)
    have N65 := Fr.snoc X65 N62 g_b43
    refine ogo st65 ?_
    show OWay p e below G T65 (mkF m 74 #[.val (.int p0), .val (.long q1), .second, .val (.long q2), .second, .val (.long q3), .second, .val (.int (2 : Int32)), .val (.ref b41), .val (.ref b43), .unset, .unset] [])
    refine ogo (fun _ z_ => XS.iload X65.here hx rfl (hb hby at_74) rfl z_) ?_
    show OWay p e below G T65 (mkF m 76 #[.val (.int p0), .val (.long q1), .second, .val (.long q2), .second, .val (.long q3), .second, .val (.int (2 : Int32)), .val (.ref b41), .val (.ref b43), .unset, .unset] [(.int (2 : Int32))])
    refine ogo (fun _ z_ => XS.iconst X65.here hx rfl (hb hby at_76) z_) ?_
    show OWay p e below G T65 (mkF m 77 #[.val (.int p0), .val (.long q1), .second, .val (.long q2), .second, .val (.long q3), .second, .val (.int (2 : Int32)), .val (.ref b41), .val (.ref b43), .unset, .unset] [(.int (2 : Int32)), (.int (2 : Int32))])
    refine ogo (fun _ z_ => XS.icmpYes X65.here hx rfl (pc0 := 77) (pc' := 106) rfl (hb hby at_77) rfl (flt (by decide)).2.2.2 (by decide) (by decide) z_) ?_
    show OWay p e below G T65 (mkF m 106 #[.val (.int p0), .val (.long q1), .second, .val (.long q2), .second, .val (.long q3), .second, .val (.int (2 : Int32)), .val (.ref b41), .val (.ref b43), .unset, .unset] [])
    refine ogo (fun _ z_ => XS.aload X65.here hx rfl (hb hby at_106) rfl rfl z_) ?_
    show OWay p e below G T65 (mkF m 108 #[.val (.int p0), .val (.long q1), .second, .val (.long q2), .second, .val (.long q3), .second, .val (.int (2 : Int32)), .val (.ref b41), .val (.ref b43), .unset, .unset] [(.ref b41)])
    refine ogo (fun _ z_ => XS.aload X65.here hx rfl (hb hby at_108) rfl rfl z_) ?_
    show OWay p e below G T65 (mkF m 110 #[.val (.int p0), .val (.long q1), .second, .val (.long q2), .second, .val (.long q3), .second, .val (.int (2 : Int32)), .val (.ref b41), .val (.ref b43), .unset, .unset] [(.ref b43), (.ref b41)])
    have F67 : Arv Z h65 b41 k41 .double (2 : Int32) [(.double (FP.i2d ((kk q1) * (hh q1)))), (.double (FP.i2d ((kk q2) * (hh q2))))] (.double (0 : UInt64)) := (V_60.other W65 (Nat.ne_of_lt (Nat.lt_of_lt_of_le V_b41.lt (Nat.le_of_eq g43.symm))))
    obtain ⟨_, T68, L68, X68, hQ68, st68⟩ := wStatic X65 hx hZ (y := (⟨"com/example/stockwire/stockwire/SideBySide", "ratios", "([D[D)[D"⟩ : MethodName)) hown (hw _ (List.mem_of_getElem? (i := 1) rfl)) (hw _ (List.mem_of_getElem? (i := 2) rfl)) (hw _ (List.mem_of_getElem? (i := 3) rfl)) (hw _ (List.mem_of_getElem? (i := 4) rfl)) (by decide) (rat2_c l Z az hw [] b41 b43 k41 k43 (FP.i2d ((kk q1) * (hh q1))) (FP.i2d ((kk q2) * (hh q2))) (FP.i2d (hh q1)) (FP.i2d (hh q2)) h65 n0 (Nat.le_trans (Nat.le_trans (Nat.le_trans (Nat.le_trans (Nat.le_trans (Nat.le_trans Z0 E41.1) E43.1) (Keep.of_wr W49).1) (Keep.of_wr W54).1) (Keep.of_wr W60).1) (Keep.of_wr W65).1) F67 V_65 (dy_nn (own_q q1)) (dy_nn (own_q q2))) 0 (by decide) (by decide) (g := (mkF m 110 #[.val (.int p0), .val (.long q1), .second, .val (.long q2), .second, .val (.long q3), .second, .val (.int (2 : Int32)), .val (.ref b41), .val (.ref b43), .unset, .unset] [(.ref b43), (.ref b41)])) rfl (by rw [hml]; rfl) (argsL := [(.ref b41), (.ref b43)]) (rest := []) (lenOf pd___D_D__D rfl) rfl (by show 2 * 0 + _ ≤ _; exact Nat.le_of_eq rfl) (hb hby at_110) rfl eT65 (by decide) (by decide)
    obtain ⟨b_69, kr_70, rfl, N68q, Kq68, P71, P72, P73⟩ := hQ68
    have N68 := Fr.app N65 N68q
    have K74 : Keep h0 T68.heap [] := K66.trans Kq68 all0
    have g_b_69 := P71
    have sz_b_69 : h0.size ≤ b_69 := Nat.le_trans K66.1 P72
    refine ogo st68 ?_
    show OWay p e below G T68 (mkF m 113 #[.val (.int p0), .val (.long q1), .second, .val (.long q2), .second, .val (.long q3), .second, .val (.int (2 : Int32)), .val (.ref b41), .val (.ref b43), .unset, .unset] [(.ref b_69)])
    refine ogo (fun _ z_ => XS.astore X68.here hx rfl (hb hby at_113) rfl rfl (l' := #[.val (.int p0), .val (.long q1), .second, .val (.long q2), .second, .val (.long q3), .second, .val (.int (2 : Int32)), .val (.ref b41), .val (.ref b43), .val (.ref b_69), .unset]) rfl z_) ?_
    show OWay p e below G T68 (mkF m 115 #[.val (.int p0), .val (.long q1), .second, .val (.long q2), .second, .val (.long q3), .second, .val (.int (2 : Int32)), .val (.ref b41), .val (.ref b43), .val (.ref b_69), .unset] [])
    refine ogo (fun _ z_ => XS.aload X68.here hx rfl (hb hby at_115) rfl rfl z_) ?_
    show OWay p e below G T68 (mkF m 117 #[.val (.int p0), .val (.long q1), .second, .val (.long q2), .second, .val (.long q3), .second, .val (.int (2 : Int32)), .val (.ref b41), .val (.ref b43), .val (.ref b_69), .unset] [(.ref b_69)])
    refine ogo (fun _ z_ => XS.ifnullNo X68.here hx rfl (hb hby at_117) rfl z_) ?_
    show OWay p e below G T68 (mkF m 120 #[.val (.int p0), .val (.long q1), .second, .val (.long q2), .second, .val (.long q3), .second, .val (.int (2 : Int32)), .val (.ref b41), .val (.ref b43), .val (.ref b_69), .unset] [])
    refine ogo (fun _ z_ => XS.aload X68.here hx rfl (hb hby at_120) rfl rfl z_) ?_
    show OWay p e below G T68 (mkF m 122 #[.val (.int p0), .val (.long q1), .second, .val (.long q2), .second, .val (.long q3), .second, .val (.int (2 : Int32)), .val (.ref b41), .val (.ref b43), .val (.ref b_69), .unset] [(.ref b_69)])
    obtain ⟨cl_o75, Ar_o75, -, S_o75, N_o75, -, -⟩ := id P73
    refine ogo (fun _ z_ => X68.arraylength hx Ar_o75.1 (State.isArrayOf_alike hZ.alike Ar_o75.2.1) (g := (mkF m 122 #[.val (.int p0), .val (.long q1), .second, .val (.long q2), .second, .val (.long q3), .second, .val (.int (2 : Int32)), .val (.ref b41), .val (.ref b43), .val (.ref b_69), .unset] [(.ref b_69)])) rfl rfl (hb hby at_122) _ z_) ?_
    rw [len_of S_o75 N_o75]
    show OWay p e below G T68 (mkF m 123 #[.val (.int p0), .val (.long q1), .second, .val (.long q2), .second, .val (.long q3), .second, .val (.int (2 : Int32)), .val (.ref b41), .val (.ref b43), .val (.ref b_69), .unset] [(.int (2 : Int32))])
    refine ogo (fun _ z_ => XS.iload X68.here hx rfl (hb hby at_123) rfl z_) ?_
    show OWay p e below G T68 (mkF m 125 #[.val (.int p0), .val (.long q1), .second, .val (.long q2), .second, .val (.long q3), .second, .val (.int (2 : Int32)), .val (.ref b41), .val (.ref b43), .val (.ref b_69), .unset] [(.int (2 : Int32)), (.int (2 : Int32))])
    refine ogo (fun _ z_ => XS.icmpYes X68.here hx rfl (pc0 := 125) (pc' := 130) rfl (hb hby at_125) rfl (teq rfl).1 (by decide) (by decide) z_) ?_
    show OWay p e below G T68 (mkF m 130 #[.val (.int p0), .val (.long q1), .second, .val (.long q2), .second, .val (.long q3), .second, .val (.int (2 : Int32)), .val (.ref b41), .val (.ref b43), .val (.ref b_69), .unset] [])
    refine ogo (fun _ z_ => XS.iconst X68.here hx rfl (hb hby at_130) z_) ?_
    show OWay p e below G T68 (mkF m 131 #[.val (.int p0), .val (.long q1), .second, .val (.long q2), .second, .val (.long q3), .second, .val (.int (2 : Int32)), .val (.ref b41), .val (.ref b43), .val (.ref b_69), .unset] [(.int (1 : Int32))])
    refine ogo (fun _ z_ => XS.istore X68.here hx rfl (hb hby at_131) rfl (l' := #[.val (.int p0), .val (.long q1), .second, .val (.long q2), .second, .val (.long q3), .second, .val (.int (2 : Int32)), .val (.ref b41), .val (.ref b43), .val (.ref b_69), .val (.int (1 : Int32))]) rfl z_) ?_
    show OWay p e below G T68 (mkF m 133 #[.val (.int p0), .val (.long q1), .second, .val (.long q2), .second, .val (.long q3), .second, .val (.int (2 : Int32)), .val (.ref b41), .val (.ref b43), .val (.ref b_69), .val (.int (1 : Int32))] [])
    refine ogo (fun _ z_ => XS.iload X68.here hx rfl (hb hby at_133) rfl z_) ?_
    show OWay p e below G T68 (mkF m 135 #[.val (.int p0), .val (.long q1), .second, .val (.long q2), .second, .val (.long q3), .second, .val (.int (2 : Int32)), .val (.ref b41), .val (.ref b43), .val (.ref b_69), .val (.int (1 : Int32))] [(.int (2 : Int32))])
    refine ogo (fun _ z_ => XS.ifNo X68.here hx rfl (hb hby at_135) rfl ((if0 _ _).trans (tlt (by decide)).2.2.2) z_) ?_
    show OWay p e below G T68 (mkF m 138 #[.val (.int p0), .val (.long q1), .second, .val (.long q2), .second, .val (.long q3), .second, .val (.int (2 : Int32)), .val (.ref b41), .val (.ref b43), .val (.ref b_69), .val (.int (1 : Int32))] [])
    refine ogo (fun _ z_ => XS.iload X68.here hx rfl (hb hby at_138) rfl z_) ?_
    show OWay p e below G T68 (mkF m 140 #[.val (.int p0), .val (.long q1), .second, .val (.long q2), .second, .val (.long q3), .second, .val (.int (2 : Int32)), .val (.ref b41), .val (.ref b43), .val (.ref b_69), .val (.int (1 : Int32))] [(.int (1 : Int32))])
    refine ogo (fun _ z_ => XS.ifNo X68.here hx rfl (hb hby at_140) rfl ((if0 _ _).trans (feq (by decide)).1) z_) ?_
    show OWay p e below G T68 (mkF m 143 #[.val (.int p0), .val (.long q1), .second, .val (.long q2), .second, .val (.long q3), .second, .val (.int (2 : Int32)), .val (.ref b41), .val (.ref b43), .val (.ref b_69), .val (.int (1 : Int32))] [])
    refine ogo (fun _ z_ => XS.aload X68.here hx rfl (hb hby at_143) rfl rfl z_) ?_
    show OWay p e below G T68 (mkF m 145 #[.val (.int p0), .val (.long q1), .second, .val (.long q2), .second, .val (.long q3), .second, .val (.int (2 : Int32)), .val (.ref b41), .val (.ref b43), .val (.ref b_69), .val (.int (1 : Int32))] [(.ref b_69)])
    refine ogo (fun _ z_ => XS.iconst X68.here hx rfl (hb hby at_145) z_) ?_
    show OWay p e below G T68 (mkF m 146 #[.val (.int p0), .val (.long q1), .second, .val (.long q2), .second, .val (.long q3), .second, .val (.int (2 : Int32)), .val (.ref b41), .val (.ref b43), .val (.ref b_69), .val (.int (1 : Int32))] [(.int (0 : Int32)), (.ref b_69)])
    obtain ⟨cl_o76, Ar_o76, q_o76, S_o76, N_o76, H_o76, G_o76⟩ := id P73
    have hin_o76 : ¬ ((0 : Int32) < 0 ∨ cl_o76.slots.size ≤ ((0 : Int32)).toNatClampNeg) := inb_of S_o76 ⟨by decide, by decide⟩
    have hat_o76 : cl_o76.slots[((0 : Int32)).toNatClampNeg]? = some (.double (FP.ddiv (FP.i2d ((kk q1) * (hh q1))) (FP.i2d (hh q1)))) := H_o76.at hin_o76 rfl
    refine ogo (fun _ z_ => X68.daload hx (j := (0 : Int32)) (v := (.double (FP.ddiv (FP.i2d ((kk q1) * (hh q1))) (FP.i2d (hh q1))))) Ar_o76.1 (State.isArrayOf_alike hZ.alike Ar_o76.2.1) Ar_o76.2.2 hin_o76 hat_o76 (g := (mkF m 146 #[.val (.int p0), .val (.long q1), .second, .val (.long q2), .second, .val (.long q3), .second, .val (.int (2 : Int32)), .val (.ref b41), .val (.ref b43), .val (.ref b_69), .val (.int (1 : Int32))] [(.int (0 : Int32)), (.ref b_69)])) rfl rfl (hb hby at_146) _ z_) ?_
    show OWay p e below G T68 (mkF m 147 #[.val (.int p0), .val (.long q1), .second, .val (.long q2), .second, .val (.long q3), .second, .val (.int (2 : Int32)), .val (.ref b41), .val (.ref b43), .val (.ref b_69), .val (.int (1 : Int32))] [(.double (FP.ddiv (FP.i2d ((kk q1) * (hh q1))) (FP.i2d (hh q1))))])
    refine ogo (fun _ z_ => XS.lloadN X68.here hx rfl (hb hby at_147) rfl z_) ?_
    show OWay p e below G T68 (mkF m 148 #[.val (.int p0), .val (.long q1), .second, .val (.long q2), .second, .val (.long q3), .second, .val (.int (2 : Int32)), .val (.ref b41), .val (.ref b43), .val (.ref b_69), .val (.int (1 : Int32))] [(.long q1), (.double (FP.ddiv (FP.i2d ((kk q1) * (hh q1))) (FP.i2d (hh q1))))])
    obtain ⟨_, T77, L77, X77, hQ77, st77⟩ := wStatic X68 hx hZ (y := (⟨"com/example/stockwire/stockwire/SideBySideRatiosPinLaw", "k", "(J)I"⟩ : MethodName)) hown (hw _ (List.mem_of_getElem? (i := 5) rfl)) (hw _ (List.mem_of_getElem? (i := 6) rfl)) (hw _ (List.mem_of_getElem? (i := 7) rfl)) (hw _ (List.mem_of_getElem? (i := 8) rfl)) (by decide) (kk_b_c l Z az hw [] q1 T68.heap n0 (Nat.le_trans (Nat.le_trans (Nat.le_trans (Nat.le_trans (Nat.le_trans (Nat.le_trans (Nat.le_trans Z0 E41.1) E43.1) (Keep.of_wr W49).1) (Keep.of_wr W54).1) (Keep.of_wr W60).1) (Keep.of_wr W65).1) Kq68.1)) 2 (by decide) (by decide) (g := (mkF m 148 #[.val (.int p0), .val (.long q1), .second, .val (.long q2), .second, .val (.long q3), .second, .val (.int (2 : Int32)), .val (.ref b41), .val (.ref b43), .val (.ref b_69), .val (.int (1 : Int32))] [(.long q1), (.double (FP.ddiv (FP.i2d ((kk q1) * (hh q1))) (FP.i2d (hh q1))))])) rfl (by rw [hml]; rfl) (argsL := [(.long q1)]) (rest := [(.double (FP.ddiv (FP.i2d ((kk q1) * (hh q1))) (FP.i2d (hh q1))))]) (lenOf pd__J_I rfl) rfl (by show 2 * 0 + _ ≤ _; exact Nat.le_of_eq rfl) (hb hby at_148) rfl rfl (by decide) (by decide)
    obtain ⟨rfl, N77q, eq77⟩ := hQ77
    have N77 := Fr.app N68 N77q
    refine ogo st77 ?_
    show OWay p e below G T77 (mkF m 151 #[.val (.int p0), .val (.long q1), .second, .val (.long q2), .second, .val (.long q3), .second, .val (.int (2 : Int32)), .val (.ref b41), .val (.ref b43), .val (.ref b_69), .val (.int (1 : Int32))] [(.int (kk q1)), (.double (FP.ddiv (FP.i2d ((kk q1) * (hh q1))) (FP.i2d (hh q1))))])
    refine ogo (fun _ z_ => XS.i2dS X77.here hx rfl (hb hby at_151) rfl rfl z_) ?_
    show OWay p e below G T77 (mkF m 152 #[.val (.int p0), .val (.long q1), .second, .val (.long q2), .second, .val (.long q3), .second, .val (.int (2 : Int32)), .val (.ref b41), .val (.ref b43), .val (.ref b_69), .val (.int (1 : Int32))] [(.double (FP.i2d (kk q1))), (.double (FP.ddiv (FP.i2d ((kk q1) * (hh q1))) (FP.i2d (hh q1))))])
    refine ogo (fun _ z_ => XS.dcmpS X77.here hx rfl (hb hby at_152) rfl rfl z_) ?_
    show OWay p e below G T77 (mkF m 153 #[.val (.int p0), .val (.long q1), .second, .val (.long q2), .second, .val (.long q3), .second, .val (.int (2 : Int32)), .val (.ref b41), .val (.ref b43), .val (.ref b_69), .val (.int (1 : Int32))] [(.int (cmpValue (FP.dcmp (FP.ddiv (FP.i2d ((kk q1) * (hh q1))) (FP.i2d (hh q1))) (FP.i2d (kk q1))) .l))])
    refine ogo (fun _ z_ => XS.ifNo X77.here hx rfl (hb hby at_153) rfl ((if0 _ _).trans (teq (own_r q1)).2) z_) ?_
    show OWay p e below G T77 (mkF m 156 #[.val (.int p0), .val (.long q1), .second, .val (.long q2), .second, .val (.long q3), .second, .val (.int (2 : Int32)), .val (.ref b41), .val (.ref b43), .val (.ref b_69), .val (.int (1 : Int32))] [])
    refine ogo (fun _ z_ => XS.iconst X77.here hx rfl (hb hby at_156) z_) ?_
    show OWay p e below G T77 (mkF m 157 #[.val (.int p0), .val (.long q1), .second, .val (.long q2), .second, .val (.long q3), .second, .val (.int (2 : Int32)), .val (.ref b41), .val (.ref b43), .val (.ref b_69), .val (.int (1 : Int32))] [(.int (1 : Int32))])
    refine ogo (fun _ z_ => XS.goto X77.here hx rfl (pc0 := 157) (pc' := 161) rfl (hb hby at_157) (by decide) (by decide) z_) ?_
    show OWay p e below G T77 (mkF m 161 #[.val (.int p0), .val (.long q1), .second, .val (.long q2), .second, .val (.long q3), .second, .val (.int (2 : Int32)), .val (.ref b41), .val (.ref b43), .val (.ref b_69), .val (.int (1 : Int32))] [(.int (1 : Int32))])
    refine ogo (fun _ z_ => XS.istore X77.here hx rfl (hb hby at_161) rfl (l' := #[.val (.int p0), .val (.long q1), .second, .val (.long q2), .second, .val (.long q3), .second, .val (.int (2 : Int32)), .val (.ref b41), .val (.ref b43), .val (.ref b_69), .val (.int (1 : Int32))]) rfl z_) ?_
    show OWay p e below G T77 (mkF m 163 #[.val (.int p0), .val (.long q1), .second, .val (.long q2), .second, .val (.long q3), .second, .val (.int (2 : Int32)), .val (.ref b41), .val (.ref b43), .val (.ref b_69), .val (.int (1 : Int32))] [])
    refine ogo (fun _ z_ => XS.iload X77.here hx rfl (hb hby at_163) rfl z_) ?_
    show OWay p e below G T77 (mkF m 165 #[.val (.int p0), .val (.long q1), .second, .val (.long q2), .second, .val (.long q3), .second, .val (.int (2 : Int32)), .val (.ref b41), .val (.ref b43), .val (.ref b_69), .val (.int (1 : Int32))] [(.int (2 : Int32))])
    refine ogo (fun _ z_ => XS.iconst X77.here hx rfl (hb hby at_165) z_) ?_
    show OWay p e below G T77 (mkF m 166 #[.val (.int p0), .val (.long q1), .second, .val (.long q2), .second, .val (.long q3), .second, .val (.int (2 : Int32)), .val (.ref b41), .val (.ref b43), .val (.ref b_69), .val (.int (1 : Int32))] [(.int (1 : Int32)), (.int (2 : Int32))])
    refine ogo (fun _ z_ => XS.icmpNo X77.here hx rfl (hb hby at_166) rfl (tlt (by decide)).2.2.2 z_) ?_
    show OWay p e below G T77 (mkF m 169 #[.val (.int p0), .val (.long q1), .second, .val (.long q2), .second, .val (.long q3), .second, .val (.int (2 : Int32)), .val (.ref b41), .val (.ref b43), .val (.ref b_69), .val (.int (1 : Int32))] [])
    refine ogo (fun _ z_ => XS.iload X77.here hx rfl (hb hby at_169) rfl z_) ?_
    show OWay p e below G T77 (mkF m 171 #[.val (.int p0), .val (.long q1), .second, .val (.long q2), .second, .val (.long q3), .second, .val (.int (2 : Int32)), .val (.ref b41), .val (.ref b43), .val (.ref b_69), .val (.int (1 : Int32))] [(.int (1 : Int32))])
    refine ogo (fun _ z_ => XS.ifNo X77.here hx rfl (hb hby at_171) rfl ((if0 _ _).trans (feq (by decide)).1) z_) ?_
    show OWay p e below G T77 (mkF m 174 #[.val (.int p0), .val (.long q1), .second, .val (.long q2), .second, .val (.long q3), .second, .val (.int (2 : Int32)), .val (.ref b41), .val (.ref b43), .val (.ref b_69), .val (.int (1 : Int32))] [])
    refine ogo (fun _ z_ => XS.aload X77.here hx rfl (hb hby at_174) rfl rfl z_) ?_
    show OWay p e below G T77 (mkF m 176 #[.val (.int p0), .val (.long q1), .second, .val (.long q2), .second, .val (.long q3), .second, .val (.int (2 : Int32)), .val (.ref b41), .val (.ref b43), .val (.ref b_69), .val (.int (1 : Int32))] [(.ref b_69)])
    refine ogo (fun _ z_ => XS.iconst X77.here hx rfl (hb hby at_176) z_) ?_
    show OWay p e below G T77 (mkF m 177 #[.val (.int p0), .val (.long q1), .second, .val (.long q2), .second, .val (.long q3), .second, .val (.int (2 : Int32)), .val (.ref b41), .val (.ref b43), .val (.ref b_69), .val (.int (1 : Int32))] [(.int (1 : Int32)), (.ref b_69)])
    obtain ⟨cl_o78, Ar_o78, q_o78, S_o78, N_o78, H_o78, G_o78⟩ := id P73
    have hin_o78 : ¬ ((1 : Int32) < 0 ∨ cl_o78.slots.size ≤ ((1 : Int32)).toNatClampNeg) := inb_of S_o78 ⟨by decide, by decide⟩
    have hat_o78 : cl_o78.slots[((1 : Int32)).toNatClampNeg]? = some (.double (FP.ddiv (FP.i2d ((kk q2) * (hh q2))) (FP.i2d (hh q2)))) := H_o78.at hin_o78 rfl
    refine ogo (fun _ z_ => X77.daload hx (j := (1 : Int32)) (v := (.double (FP.ddiv (FP.i2d ((kk q2) * (hh q2))) (FP.i2d (hh q2))))) (by rw [eq77]; exact Ar_o78.1) (State.isArrayOf_alike hZ.alike Ar_o78.2.1) Ar_o78.2.2 hin_o78 hat_o78 (g := (mkF m 177 #[.val (.int p0), .val (.long q1), .second, .val (.long q2), .second, .val (.long q3), .second, .val (.int (2 : Int32)), .val (.ref b41), .val (.ref b43), .val (.ref b_69), .val (.int (1 : Int32))] [(.int (1 : Int32)), (.ref b_69)])) rfl rfl (hb hby at_177) _ z_) ?_
    show OWay p e below G T77 (mkF m 178 #[.val (.int p0), .val (.long q1), .second, .val (.long q2), .second, .val (.long q3), .second, .val (.int (2 : Int32)), .val (.ref b41), .val (.ref b43), .val (.ref b_69), .val (.int (1 : Int32))] [(.double (FP.ddiv (FP.i2d ((kk q2) * (hh q2))) (FP.i2d (hh q2))))])
    refine ogo (fun _ z_ => XS.lloadN X77.here hx rfl (hb hby at_178) rfl z_) ?_
    show OWay p e below G T77 (mkF m 179 #[.val (.int p0), .val (.long q1), .second, .val (.long q2), .second, .val (.long q3), .second, .val (.int (2 : Int32)), .val (.ref b41), .val (.ref b43), .val (.ref b_69), .val (.int (1 : Int32))] [(.long q2), (.double (FP.ddiv (FP.i2d ((kk q2) * (hh q2))) (FP.i2d (hh q2))))])
    obtain ⟨_, T79, L79, X79, hQ79, st79⟩ := wStatic X77 hx hZ (y := (⟨"com/example/stockwire/stockwire/SideBySideRatiosPinLaw", "k", "(J)I"⟩ : MethodName)) hown (hw _ (List.mem_of_getElem? (i := 5) rfl)) (hw _ (List.mem_of_getElem? (i := 6) rfl)) (hw _ (List.mem_of_getElem? (i := 7) rfl)) (hw _ (List.mem_of_getElem? (i := 8) rfl)) (by decide) (kk_b_c l Z az hw [] q2 T68.heap n0 (Nat.le_trans (Nat.le_trans (Nat.le_trans (Nat.le_trans (Nat.le_trans (Nat.le_trans (Nat.le_trans Z0 E41.1) E43.1) (Keep.of_wr W49).1) (Keep.of_wr W54).1) (Keep.of_wr W60).1) (Keep.of_wr W65).1) Kq68.1)) 2 (by decide) (by decide) (g := (mkF m 179 #[.val (.int p0), .val (.long q1), .second, .val (.long q2), .second, .val (.long q3), .second, .val (.int (2 : Int32)), .val (.ref b41), .val (.ref b43), .val (.ref b_69), .val (.int (1 : Int32))] [(.long q2), (.double (FP.ddiv (FP.i2d ((kk q2) * (hh q2))) (FP.i2d (hh q2))))])) rfl (by rw [hml]; rfl) (argsL := [(.long q2)]) (rest := [(.double (FP.ddiv (FP.i2d ((kk q2) * (hh q2))) (FP.i2d (hh q2))))]) (lenOf pd__J_I rfl) rfl (by show 2 * 0 + _ ≤ _; exact Nat.le_of_eq rfl) (hb hby at_179) rfl eq77 (by decide) (by decide)
    obtain ⟨rfl, N79q, eq79⟩ := hQ79
    have N79 := Fr.app N77 N79q
    refine ogo st79 ?_
    show OWay p e below G T79 (mkF m 182 #[.val (.int p0), .val (.long q1), .second, .val (.long q2), .second, .val (.long q3), .second, .val (.int (2 : Int32)), .val (.ref b41), .val (.ref b43), .val (.ref b_69), .val (.int (1 : Int32))] [(.int (kk q2)), (.double (FP.ddiv (FP.i2d ((kk q2) * (hh q2))) (FP.i2d (hh q2))))])
    refine ogo (fun _ z_ => XS.i2dS X79.here hx rfl (hb hby at_182) rfl rfl z_) ?_
    show OWay p e below G T79 (mkF m 183 #[.val (.int p0), .val (.long q1), .second, .val (.long q2), .second, .val (.long q3), .second, .val (.int (2 : Int32)), .val (.ref b41), .val (.ref b43), .val (.ref b_69), .val (.int (1 : Int32))] [(.double (FP.i2d (kk q2))), (.double (FP.ddiv (FP.i2d ((kk q2) * (hh q2))) (FP.i2d (hh q2))))])
    refine ogo (fun _ z_ => XS.dcmpS X79.here hx rfl (hb hby at_183) rfl rfl z_) ?_
    show OWay p e below G T79 (mkF m 184 #[.val (.int p0), .val (.long q1), .second, .val (.long q2), .second, .val (.long q3), .second, .val (.int (2 : Int32)), .val (.ref b41), .val (.ref b43), .val (.ref b_69), .val (.int (1 : Int32))] [(.int (cmpValue (FP.dcmp (FP.ddiv (FP.i2d ((kk q2) * (hh q2))) (FP.i2d (hh q2))) (FP.i2d (kk q2))) .l))])
    refine ogo (fun _ z_ => XS.ifNo X79.here hx rfl (hb hby at_184) rfl ((if0 _ _).trans (teq (own_r q2)).2) z_) ?_
    show OWay p e below G T79 (mkF m 187 #[.val (.int p0), .val (.long q1), .second, .val (.long q2), .second, .val (.long q3), .second, .val (.int (2 : Int32)), .val (.ref b41), .val (.ref b43), .val (.ref b_69), .val (.int (1 : Int32))] [])
    refine ogo (fun _ z_ => XS.iconst X79.here hx rfl (hb hby at_187) z_) ?_
    show OWay p e below G T79 (mkF m 188 #[.val (.int p0), .val (.long q1), .second, .val (.long q2), .second, .val (.long q3), .second, .val (.int (2 : Int32)), .val (.ref b41), .val (.ref b43), .val (.ref b_69), .val (.int (1 : Int32))] [(.int (1 : Int32))])
    refine ogo (fun _ z_ => XS.goto X79.here hx rfl (pc0 := 188) (pc' := 192) rfl (hb hby at_188) (by decide) (by decide) z_) ?_
    show OWay p e below G T79 (mkF m 192 #[.val (.int p0), .val (.long q1), .second, .val (.long q2), .second, .val (.long q3), .second, .val (.int (2 : Int32)), .val (.ref b41), .val (.ref b43), .val (.ref b_69), .val (.int (1 : Int32))] [(.int (1 : Int32))])
    refine ogo (fun _ z_ => XS.istore X79.here hx rfl (hb hby at_192) rfl (l' := #[.val (.int p0), .val (.long q1), .second, .val (.long q2), .second, .val (.long q3), .second, .val (.int (2 : Int32)), .val (.ref b41), .val (.ref b43), .val (.ref b_69), .val (.int (1 : Int32))]) rfl z_) ?_
    show OWay p e below G T79 (mkF m 194 #[.val (.int p0), .val (.long q1), .second, .val (.long q2), .second, .val (.long q3), .second, .val (.int (2 : Int32)), .val (.ref b41), .val (.ref b43), .val (.ref b_69), .val (.int (1 : Int32))] [])
    refine ogo (fun _ z_ => XS.iload X79.here hx rfl (hb hby at_194) rfl z_) ?_
    show OWay p e below G T79 (mkF m 196 #[.val (.int p0), .val (.long q1), .second, .val (.long q2), .second, .val (.long q3), .second, .val (.int (2 : Int32)), .val (.ref b41), .val (.ref b43), .val (.ref b_69), .val (.int (1 : Int32))] [(.int (2 : Int32))])
    refine ogo (fun _ z_ => XS.iconst X79.here hx rfl (hb hby at_196) z_) ?_
    show OWay p e below G T79 (mkF m 197 #[.val (.int p0), .val (.long q1), .second, .val (.long q2), .second, .val (.long q3), .second, .val (.int (2 : Int32)), .val (.ref b41), .val (.ref b43), .val (.ref b_69), .val (.int (1 : Int32))] [(.int (2 : Int32)), (.int (2 : Int32))])
    refine ogo (fun _ z_ => XS.icmpYes X79.here hx rfl (pc0 := 197) (pc' := 226) rfl (hb hby at_197) rfl (flt (by decide)).2.2.2 (by decide) (by decide) z_) ?_
    show OWay p e below G T79 (mkF m 226 #[.val (.int p0), .val (.long q1), .second, .val (.long q2), .second, .val (.long q3), .second, .val (.int (2 : Int32)), .val (.ref b41), .val (.ref b43), .val (.ref b_69), .val (.int (1 : Int32))] [])
    refine ogo (fun _ z_ => XS.iload X79.here hx rfl (hb hby at_226) rfl z_) ?_
    show OWay p e below G T79 (mkF m 228 #[.val (.int p0), .val (.long q1), .second, .val (.long q2), .second, .val (.long q3), .second, .val (.int (2 : Int32)), .val (.ref b41), .val (.ref b43), .val (.ref b_69), .val (.int (1 : Int32))] [(.int (1 : Int32))])
    subst hG
    refine wRetN X79 hx (t := .boolean) hret hlk (by simp) (hb hby at_228) (by decide) (by decide) eq79 ?_
    exact ⟨rfl, N79⟩
  · show OWay p e below G s₁ (mkF m 5 #[.val (.int p0), .val (.long q1), .second, .val (.long q2), .second, .val (.long q3), .second, .val (.int (3 : Int32)), .unset, .unset, .unset, .unset] [])
    refine ogo (fun _ z_ => XS.iload X0.here hx rfl (hb hby at_5) rfl z_) ?_
    show OWay p e below G s₁ (mkF m 7 #[.val (.int p0), .val (.long q1), .second, .val (.long q2), .second, .val (.long q3), .second, .val (.int (3 : Int32)), .unset, .unset, .unset, .unset] [(.int (3 : Int32))])
    obtain ⟨T80, h80, k80, X80, eT80, E80, A80, st80⟩ := newP X0 hx hZ (hw _ (List.mem_of_getElem? (i := 0) rfl)) eh0 (g := (mkF m 7 #[.val (.int p0), .val (.long q1), .second, .val (.long q2), .second, .val (.long q3), .second, .val (.int (3 : Int32)), .unset, .unset, .unset, .unset] [(.int (3 : Int32))])) rfl (hb hby at_7) rfl (by decide) (cap := 3) (by decide) (by decide) (by decide) (by decide)
    obtain ⟨b80, g80⟩ : ∃ z, z = h0.size := ⟨_, rfl⟩
    rw [← g80] at A80 st80
    have g_b80 : n0 ≤ b80 := Nat.le_trans Z0 (Nat.le_of_eq g80.symm)
    have sz_b80 : h0.size ≤ b80 := Nat.le_trans K0.1 (Nat.le_of_eq g80.symm)
    have K81 : Keep h0 h80 [] := K0.ext E80
    have V_b80 : Arv Z h80 b80 k80 .double (3 : Int32) [(.double (0 : UInt64)), (.double (0 : UInt64)), (.double (0 : UInt64))] (.double (0 : UInt64)) := (Arv.new A80 (by decide)).pad (pad_rep [] (.double (0 : UInt64)) 3)
    refine ogo st80 ?_
    show OWay p e below G T80 (mkF m 9 #[.val (.int p0), .val (.long q1), .second, .val (.long q2), .second, .val (.long q3), .second, .val (.int (3 : Int32)), .unset, .unset, .unset, .unset] [(.ref b80)])
    refine ogo (fun _ z_ => XS.astore X80.here hx rfl (hb hby at_9) rfl rfl (l' := #[.val (.int p0), .val (.long q1), .second, .val (.long q2), .second, .val (.long q3), .second, .val (.int (3 : Int32)), .val (.ref b80), .unset, .unset, .unset]) rfl z_) ?_
    show OWay p e below G T80 (mkF m 11 #[.val (.int p0), .val (.long q1), .second, .val (.long q2), .second, .val (.long q3), .second, .val (.int (3 : Int32)), .val (.ref b80), .unset, .unset, .unset] [])
    refine ogo (fun _ z_ => XS.iload X80.here hx rfl (hb hby at_11) rfl z_) ?_
    show OWay p e below G T80 (mkF m 13 #[.val (.int p0), .val (.long q1), .second, .val (.long q2), .second, .val (.long q3), .second, .val (.int (3 : Int32)), .val (.ref b80), .unset, .unset, .unset] [(.int (3 : Int32))])
    obtain ⟨T82, h82, k82, X82, eT82, E82, A82, st82⟩ := newP X80 hx hZ (hw _ (List.mem_of_getElem? (i := 0) rfl)) eT80 (g := (mkF m 13 #[.val (.int p0), .val (.long q1), .second, .val (.long q2), .second, .val (.long q3), .second, .val (.int (3 : Int32)), .val (.ref b80), .unset, .unset, .unset] [(.int (3 : Int32))])) rfl (hb hby at_13) rfl (by decide) (cap := 3) (by decide) (by decide) (by decide) (by decide)
    obtain ⟨b82, g82⟩ : ∃ z, z = h80.size := ⟨_, rfl⟩
    rw [← g82] at A82 st82
    have g_b82 : n0 ≤ b82 := Nat.le_trans (Nat.le_trans Z0 E80.1) (Nat.le_of_eq g82.symm)
    have sz_b82 : h0.size ≤ b82 := Nat.le_trans K81.1 (Nat.le_of_eq g82.symm)
    have K83 : Keep h0 h82 [] := K81.ext E82
    have V_b82 : Arv Z h82 b82 k82 .double (3 : Int32) [(.double (0 : UInt64)), (.double (0 : UInt64)), (.double (0 : UInt64))] (.double (0 : UInt64)) := (Arv.new A82 (by decide)).pad (pad_rep [] (.double (0 : UInt64)) 3)
    refine ogo st82 ?_
    show OWay p e below G T82 (mkF m 15 #[.val (.int p0), .val (.long q1), .second, .val (.long q2), .second, .val (.long q3), .second, .val (.int (3 : Int32)), .val (.ref b80), .unset, .unset, .unset] [(.ref b82)])
    refine ogo (fun _ z_ => XS.astore X82.here hx rfl (hb hby at_15) rfl rfl (l' := #[.val (.int p0), .val (.long q1), .second, .val (.long q2), .second, .val (.long q3), .second, .val (.int (3 : Int32)), .val (.ref b80), .val (.ref b82), .unset, .unset]) rfl z_) ?_
    show OWay p e below G T82 (mkF m 17 #[.val (.int p0), .val (.long q1), .second, .val (.long q2), .second, .val (.long q3), .second, .val (.int (3 : Int32)), .val (.ref b80), .val (.ref b82), .unset, .unset] [])
    refine ogo (fun _ z_ => XS.iload X82.here hx rfl (hb hby at_17) rfl z_) ?_
    show OWay p e below G T82 (mkF m 19 #[.val (.int p0), .val (.long q1), .second, .val (.long q2), .second, .val (.long q3), .second, .val (.int (3 : Int32)), .val (.ref b80), .val (.ref b82), .unset, .unset] [(.int (3 : Int32))])
    refine ogo (fun _ z_ => XS.ifNo X82.here hx rfl (hb hby at_19) rfl ((if0 _ _).trans (tlt (by decide)).2.2.2) z_) ?_
    show OWay p e below G T82 (mkF m 22 #[.val (.int p0), .val (.long q1), .second, .val (.long q2), .second, .val (.long q3), .second, .val (.int (3 : Int32)), .val (.ref b80), .val (.ref b82), .unset, .unset] [])
    refine ogo (fun _ z_ => XS.aload X82.here hx rfl (hb hby at_22) rfl rfl z_) ?_
    show OWay p e below G T82 (mkF m 24 #[.val (.int p0), .val (.long q1), .second, .val (.long q2), .second, .val (.long q3), .second, .val (.int (3 : Int32)), .val (.ref b80), .val (.ref b82), .unset, .unset] [(.ref b80)])
    refine ogo (fun _ z_ => XS.iconst X82.here hx rfl (hb hby at_24) z_) ?_
    show OWay p e below G T82 (mkF m 25 #[.val (.int p0), .val (.long q1), .second, .val (.long q2), .second, .val (.long q3), .second, .val (.int (3 : Int32)), .val (.ref b80), .val (.ref b82), .unset, .unset] [(.int (0 : Int32)), (.ref b80)])
    refine ogo (fun _ z_ => XS.lloadN X82.here hx rfl (hb hby at_25) rfl z_) ?_
    show OWay p e below G T82 (mkF m 26 #[.val (.int p0), .val (.long q1), .second, .val (.long q2), .second, .val (.long q3), .second, .val (.int (3 : Int32)), .val (.ref b80), .val (.ref b82), .unset, .unset] [(.long q1), (.int (0 : Int32)), (.ref b80)])
    obtain ⟨_, T84, L84, X84, hQ84, st84⟩ := wStatic X82 hx hZ (y := (⟨"com/example/stockwire/stockwire/SideBySideRatiosPinLaw", "k", "(J)I"⟩ : MethodName)) hown (hw _ (List.mem_of_getElem? (i := 5) rfl)) (hw _ (List.mem_of_getElem? (i := 6) rfl)) (hw _ (List.mem_of_getElem? (i := 7) rfl)) (hw _ (List.mem_of_getElem? (i := 8) rfl)) (by decide) (kk_b_c l Z az hw [] q1 h82 n0 (Nat.le_trans (Nat.le_trans Z0 E80.1) E82.1)) 2 (by decide) (by decide) (g := (mkF m 26 #[.val (.int p0), .val (.long q1), .second, .val (.long q2), .second, .val (.long q3), .second, .val (.int (3 : Int32)), .val (.ref b80), .val (.ref b82), .unset, .unset] [(.long q1), (.int (0 : Int32)), (.ref b80)])) rfl (by rw [hml]; rfl) (argsL := [(.long q1)]) (rest := [(.int (0 : Int32)), (.ref b80)]) (lenOf pd__J_I rfl) rfl (by show 2 * 0 + _ ≤ _; exact Nat.le_of_eq rfl) (hb hby at_26) rfl eT82 (by decide) (by decide)
    obtain ⟨rfl, N84q, eq84⟩ := hQ84
    have N84 := Fr.app N0 N84q
    refine ogo st84 ?_
    show OWay p e below G T84 (mkF m 29 #[.val (.int p0), .val (.long q1), .second, .val (.long q2), .second, .val (.long q3), .second, .val (.int (3 : Int32)), .val (.ref b80), .val (.ref b82), .unset, .unset] [(.int (kk q1)), (.int (0 : Int32)), (.ref b80)])
    refine ogo (fun _ z_ => XS.lloadN X84.here hx rfl (hb hby at_29) rfl z_) ?_
    show OWay p e below G T84 (mkF m 30 #[.val (.int p0), .val (.long q1), .second, .val (.long q2), .second, .val (.long q3), .second, .val (.int (3 : Int32)), .val (.ref b80), .val (.ref b82), .unset, .unset] [(.long q1), (.int (kk q1)), (.int (0 : Int32)), (.ref b80)])
    obtain ⟨_, T85, L85, X85, hQ85, st85⟩ := wStatic X84 hx hZ (y := (⟨"com/example/stockwire/stockwire/SideBySideRatiosPinLaw", "h", "(J)I"⟩ : MethodName)) hown (hw _ (List.mem_of_getElem? (i := 9) rfl)) (hw _ (List.mem_of_getElem? (i := 10) rfl)) (hw _ (List.mem_of_getElem? (i := 7) rfl)) (hw _ (List.mem_of_getElem? (i := 11) rfl)) (by decide) (hh_b_c l Z az hw [] q1 h82 n0 (Nat.le_trans (Nat.le_trans Z0 E80.1) E82.1)) 3 (by decide) (by decide) (g := (mkF m 30 #[.val (.int p0), .val (.long q1), .second, .val (.long q2), .second, .val (.long q3), .second, .val (.int (3 : Int32)), .val (.ref b80), .val (.ref b82), .unset, .unset] [(.long q1), (.int (kk q1)), (.int (0 : Int32)), (.ref b80)])) rfl (by rw [hml]; rfl) (argsL := [(.long q1)]) (rest := [(.int (kk q1)), (.int (0 : Int32)), (.ref b80)]) (lenOf pd__J_I rfl) rfl (by show 2 * 0 + _ ≤ _; exact Nat.le_of_eq rfl) (hb hby at_30) rfl eq84 (by decide) (by decide)
    obtain ⟨rfl, N85q, eq85⟩ := hQ85
    have N85 := Fr.app N84 N85q
    refine ogo st85 ?_
    show OWay p e below G T85 (mkF m 33 #[.val (.int p0), .val (.long q1), .second, .val (.long q2), .second, .val (.long q3), .second, .val (.int (3 : Int32)), .val (.ref b80), .val (.ref b82), .unset, .unset] [(.int (hh q1)), (.int (kk q1)), (.int (0 : Int32)), (.ref b80)])
    refine ogo (fun _ z_ => XS.imul X85.here hx rfl (hb hby at_33) rfl z_) ?_
    show OWay p e below G T85 (mkF m 34 #[.val (.int p0), .val (.long q1), .second, .val (.long q2), .second, .val (.long q3), .second, .val (.int (3 : Int32)), .val (.ref b80), .val (.ref b82), .unset, .unset] [(.int ((kk q1) * (hh q1))), (.int (0 : Int32)), (.ref b80)])
    refine ogo (fun _ z_ => XS.i2dS X85.here hx rfl (hb hby at_34) rfl rfl z_) ?_
    show OWay p e below G T85 (mkF m 35 #[.val (.int p0), .val (.long q1), .second, .val (.long q2), .second, .val (.long q3), .second, .val (.int (3 : Int32)), .val (.ref b80), .val (.ref b82), .unset, .unset] [(.double (FP.i2d ((kk q1) * (hh q1)))), (.int (0 : Int32)), (.ref b80)])
    have F86 : Arv Z h82 b80 k80 .double (3 : Int32) [(.double (0 : UInt64)), (.double (0 : UInt64)), (.double (0 : UInt64))] (.double (0 : UInt64)) := (V_b80.ext E82)
    obtain ⟨cl_o87, Ar_o87, q_o87, S_o87, N_o87, H_o87, G_o87⟩ := id F86
    have hin_o87 : ¬ ((0 : Int32) < 0 ∨ cl_o87.slots.size ≤ ((0 : Int32)).toNatClampNeg) := inb_of S_o87 ⟨by decide, by decide⟩
    obtain ⟨T88, h88, X88, eT88, W88, st88⟩ := stD X85 hx hZ eq85 Ar_o87 (j := (0 : Int32)) hin_o87 (g := (mkF m 35 #[.val (.int p0), .val (.long q1), .second, .val (.long q2), .second, .val (.long q3), .second, .val (.int (3 : Int32)), .val (.ref b80), .val (.ref b82), .unset, .unset] [(.double (FP.i2d ((kk q1) * (hh q1)))), (.int (0 : Int32)), (.ref b80)])) rfl rfl (hb hby at_35)
    have K89 : Keep h0 h88 [] := K83.wr W88 (Or.inr sz_b80)
    have V_88 : Arv Z h88 b80 k80 .double (3 : Int32) [(.double (FP.i2d ((kk q1) * (hh q1)))), (.double (0 : UInt64)), (.double (0 : UInt64))] (.double (0 : UInt64)) := Arv.set Ar_o87 q_o87 S_o87 N_o87 H_o87 G_o87 rfl W88 0 rfl (Nat.le_of_ble_eq_true rfl)
    have N88 := Fr.snoc X88 N85 g_b80
    refine ogo st88 ?_
    show OWay p e below G T88 (mkF m 36 #[.val (.int p0), .val (.long q1), .second, .val (.long q2), .second, .val (.long q3), .second, .val (.int (3 : Int32)), .val (.ref b80), .val (.ref b82), .unset, .unset] [])
    refine ogo (fun _ z_ => XS.aload X88.here hx rfl (hb hby at_36) rfl rfl z_) ?_
    show OWay p e below G T88 (mkF m 38 #[.val (.int p0), .val (.long q1), .second, .val (.long q2), .second, .val (.long q3), .second, .val (.int (3 : Int32)), .val (.ref b80), .val (.ref b82), .unset, .unset] [(.ref b82)])
    refine ogo (fun _ z_ => XS.iconst X88.here hx rfl (hb hby at_38) z_) ?_
    show OWay p e below G T88 (mkF m 39 #[.val (.int p0), .val (.long q1), .second, .val (.long q2), .second, .val (.long q3), .second, .val (.int (3 : Int32)), .val (.ref b80), .val (.ref b82), .unset, .unset] [(.int (0 : Int32)), (.ref b82)])
    refine ogo (fun _ z_ => XS.lloadN X88.here hx rfl (hb hby at_39) rfl z_) ?_
    show OWay p e below G T88 (mkF m 40 #[.val (.int p0), .val (.long q1), .second, .val (.long q2), .second, .val (.long q3), .second, .val (.int (3 : Int32)), .val (.ref b80), .val (.ref b82), .unset, .unset] [(.long q1), (.int (0 : Int32)), (.ref b82)])
    obtain ⟨_, T90, L90, X90, hQ90, st90⟩ := wStatic X88 hx hZ (y := (⟨"com/example/stockwire/stockwire/SideBySideRatiosPinLaw", "h", "(J)I"⟩ : MethodName)) hown (hw _ (List.mem_of_getElem? (i := 9) rfl)) (hw _ (List.mem_of_getElem? (i := 10) rfl)) (hw _ (List.mem_of_getElem? (i := 7) rfl)) (hw _ (List.mem_of_getElem? (i := 11) rfl)) (by decide) (hh_b_c l Z az hw [] q1 h88 n0 (Nat.le_trans (Nat.le_trans (Nat.le_trans Z0 E80.1) E82.1) (Keep.of_wr W88).1)) 2 (by decide) (by decide) (g := (mkF m 40 #[.val (.int p0), .val (.long q1), .second, .val (.long q2), .second, .val (.long q3), .second, .val (.int (3 : Int32)), .val (.ref b80), .val (.ref b82), .unset, .unset] [(.long q1), (.int (0 : Int32)), (.ref b82)])) rfl (by rw [hml]; rfl) (argsL := [(.long q1)]) (rest := [(.int (0 : Int32)), (.ref b82)]) (lenOf pd__J_I rfl) rfl (by show 2 * 0 + _ ≤ _; exact Nat.le_of_eq rfl) (hb hby at_40) rfl eT88 (by decide) (by decide)
    obtain ⟨rfl, N90q, eq90⟩ := hQ90
    have N90 := Fr.app N88 N90q
    refine ogo st90 ?_
    show OWay p e below G T90 (mkF m 43 #[.val (.int p0), .val (.long q1), .second, .val (.long q2), .second, .val (.long q3), .second, .val (.int (3 : Int32)), .val (.ref b80), .val (.ref b82), .unset, .unset] [(.int (hh q1)), (.int (0 : Int32)), (.ref b82)])
    refine ogo (fun _ z_ => XS.i2dS X90.here hx rfl (hb hby at_43) rfl rfl z_) ?_
    show OWay p e below G T90 (mkF m 44 #[.val (.int p0), .val (.long q1), .second, .val (.long q2), .second, .val (.long q3), .second, .val (.int (3 : Int32)), .val (.ref b80), .val (.ref b82), .unset, .unset] [(.double (FP.i2d (hh q1))), (.int (0 : Int32)), (.ref b82)])
    have F91 : Arv Z h88 b82 k82 .double (3 : Int32) [(.double (0 : UInt64)), (.double (0 : UInt64)), (.double (0 : UInt64))] (.double (0 : UInt64)) := (V_b82.other W88 (Ne.symm (Nat.ne_of_lt (Nat.lt_of_lt_of_le V_b80.lt (Nat.le_of_eq g82.symm)))))
    obtain ⟨cl_o92, Ar_o92, q_o92, S_o92, N_o92, H_o92, G_o92⟩ := id F91
    have hin_o92 : ¬ ((0 : Int32) < 0 ∨ cl_o92.slots.size ≤ ((0 : Int32)).toNatClampNeg) := inb_of S_o92 ⟨by decide, by decide⟩
    obtain ⟨T93, h93, X93, eT93, W93, st93⟩ := stD X90 hx hZ eq90 Ar_o92 (j := (0 : Int32)) hin_o92 (g := (mkF m 44 #[.val (.int p0), .val (.long q1), .second, .val (.long q2), .second, .val (.long q3), .second, .val (.int (3 : Int32)), .val (.ref b80), .val (.ref b82), .unset, .unset] [(.double (FP.i2d (hh q1))), (.int (0 : Int32)), (.ref b82)])) rfl rfl (hb hby at_44)
    have K94 : Keep h0 h93 [] := K89.wr W93 (Or.inr sz_b82)
    have V_93 : Arv Z h93 b82 k82 .double (3 : Int32) [(.double (FP.i2d (hh q1))), (.double (0 : UInt64)), (.double (0 : UInt64))] (.double (0 : UInt64)) := Arv.set Ar_o92 q_o92 S_o92 N_o92 H_o92 G_o92 rfl W93 0 rfl (Nat.le_of_ble_eq_true rfl)
    have N93 := Fr.snoc X93 N90 g_b82
    refine ogo st93 ?_
    show OWay p e below G T93 (mkF m 45 #[.val (.int p0), .val (.long q1), .second, .val (.long q2), .second, .val (.long q3), .second, .val (.int (3 : Int32)), .val (.ref b80), .val (.ref b82), .unset, .unset] [])
    refine ogo (fun _ z_ => XS.iload X93.here hx rfl (hb hby at_45) rfl z_) ?_
    show OWay p e below G T93 (mkF m 47 #[.val (.int p0), .val (.long q1), .second, .val (.long q2), .second, .val (.long q3), .second, .val (.int (3 : Int32)), .val (.ref b80), .val (.ref b82), .unset, .unset] [(.int (3 : Int32))])
    refine ogo (fun _ z_ => XS.iconst X93.here hx rfl (hb hby at_47) z_) ?_
    show OWay p e below G T93 (mkF m 48 #[.val (.int p0), .val (.long q1), .second, .val (.long q2), .second, .val (.long q3), .second, .val (.int (3 : Int32)), .val (.ref b80), .val (.ref b82), .unset, .unset] [(.int (1 : Int32)), (.int (3 : Int32))])
    refine ogo (fun _ z_ => XS.icmpNo X93.here hx rfl (hb hby at_48) rfl (tlt (by decide)).2.2.2 z_) ?_
    show OWay p e below G T93 (mkF m 51 #[.val (.int p0), .val (.long q1), .second, .val (.long q2), .second, .val (.long q3), .second, .val (.int (3 : Int32)), .val (.ref b80), .val (.ref b82), .unset, .unset] [])
    refine ogo (fun _ z_ => XS.aload X93.here hx rfl (hb hby at_51) rfl rfl z_) ?_
    show OWay p e below G T93 (mkF m 53 #[.val (.int p0), .val (.long q1), .second, .val (.long q2), .second, .val (.long q3), .second, .val (.int (3 : Int32)), .val (.ref b80), .val (.ref b82), .unset, .unset] [(.ref b80)])
    refine ogo (fun _ z_ => XS.iconst X93.here hx rfl (hb hby at_53) z_) ?_
    show OWay p e below G T93 (mkF m 54 #[.val (.int p0), .val (.long q1), .second, .val (.long q2), .second, .val (.long q3), .second, .val (.int (3 : Int32)), .val (.ref b80), .val (.ref b82), .unset, .unset] [(.int (1 : Int32)), (.ref b80)])
    refine ogo (fun _ z_ => XS.lloadN X93.here hx rfl (hb hby at_54) rfl z_) ?_
    show OWay p e below G T93 (mkF m 55 #[.val (.int p0), .val (.long q1), .second, .val (.long q2), .second, .val (.long q3), .second, .val (.int (3 : Int32)), .val (.ref b80), .val (.ref b82), .unset, .unset] [(.long q2), (.int (1 : Int32)), (.ref b80)])
    obtain ⟨_, T95, L95, X95, hQ95, st95⟩ := wStatic X93 hx hZ (y := (⟨"com/example/stockwire/stockwire/SideBySideRatiosPinLaw", "k", "(J)I"⟩ : MethodName)) hown (hw _ (List.mem_of_getElem? (i := 5) rfl)) (hw _ (List.mem_of_getElem? (i := 6) rfl)) (hw _ (List.mem_of_getElem? (i := 7) rfl)) (hw _ (List.mem_of_getElem? (i := 8) rfl)) (by decide) (kk_b_c l Z az hw [] q2 h93 n0 (Nat.le_trans (Nat.le_trans (Nat.le_trans (Nat.le_trans Z0 E80.1) E82.1) (Keep.of_wr W88).1) (Keep.of_wr W93).1)) 2 (by decide) (by decide) (g := (mkF m 55 #[.val (.int p0), .val (.long q1), .second, .val (.long q2), .second, .val (.long q3), .second, .val (.int (3 : Int32)), .val (.ref b80), .val (.ref b82), .unset, .unset] [(.long q2), (.int (1 : Int32)), (.ref b80)])) rfl (by rw [hml]; rfl) (argsL := [(.long q2)]) (rest := [(.int (1 : Int32)), (.ref b80)]) (lenOf pd__J_I rfl) rfl (by show 2 * 0 + _ ≤ _; exact Nat.le_of_eq rfl) (hb hby at_55) rfl eT93 (by decide) (by decide)
    obtain ⟨rfl, N95q, eq95⟩ := hQ95
    have N95 := Fr.app N93 N95q
    refine ogo st95 ?_
    show OWay p e below G T95 (mkF m 58 #[.val (.int p0), .val (.long q1), .second, .val (.long q2), .second, .val (.long q3), .second, .val (.int (3 : Int32)), .val (.ref b80), .val (.ref b82), .unset, .unset] [(.int (kk q2)), (.int (1 : Int32)), (.ref b80)])
    refine ogo (fun _ z_ => XS.lloadN X95.here hx rfl (hb hby at_58) rfl z_) ?_
    show OWay p e below G T95 (mkF m 59 #[.val (.int p0), .val (.long q1), .second, .val (.long q2), .second, .val (.long q3), .second, .val (.int (3 : Int32)), .val (.ref b80), .val (.ref b82), .unset, .unset] [(.long q2), (.int (kk q2)), (.int (1 : Int32)), (.ref b80)])
    obtain ⟨_, T96, L96, X96, hQ96, st96⟩ := wStatic X95 hx hZ (y := (⟨"com/example/stockwire/stockwire/SideBySideRatiosPinLaw", "h", "(J)I"⟩ : MethodName)) hown (hw _ (List.mem_of_getElem? (i := 9) rfl)) (hw _ (List.mem_of_getElem? (i := 10) rfl)) (hw _ (List.mem_of_getElem? (i := 7) rfl)) (hw _ (List.mem_of_getElem? (i := 11) rfl)) (by decide) (hh_b_c l Z az hw [] q2 h93 n0 (Nat.le_trans (Nat.le_trans (Nat.le_trans (Nat.le_trans Z0 E80.1) E82.1) (Keep.of_wr W88).1) (Keep.of_wr W93).1)) 3 (by decide) (by decide) (g := (mkF m 59 #[.val (.int p0), .val (.long q1), .second, .val (.long q2), .second, .val (.long q3), .second, .val (.int (3 : Int32)), .val (.ref b80), .val (.ref b82), .unset, .unset] [(.long q2), (.int (kk q2)), (.int (1 : Int32)), (.ref b80)])) rfl (by rw [hml]; rfl) (argsL := [(.long q2)]) (rest := [(.int (kk q2)), (.int (1 : Int32)), (.ref b80)]) (lenOf pd__J_I rfl) rfl (by show 2 * 0 + _ ≤ _; exact Nat.le_of_eq rfl) (hb hby at_59) rfl eq95 (by decide) (by decide)
    obtain ⟨rfl, N96q, eq96⟩ := hQ96
    have N96 := Fr.app N95 N96q
    refine ogo st96 ?_
    show OWay p e below G T96 (mkF m 62 #[.val (.int p0), .val (.long q1), .second, .val (.long q2), .second, .val (.long q3), .second, .val (.int (3 : Int32)), .val (.ref b80), .val (.ref b82), .unset, .unset] [(.int (hh q2)), (.int (kk q2)), (.int (1 : Int32)), (.ref b80)])
    refine ogo (fun _ z_ => XS.imul X96.here hx rfl (hb hby at_62) rfl z_) ?_
    show OWay p e below G T96 (mkF m 63 #[.val (.int p0), .val (.long q1), .second, .val (.long q2), .second, .val (.long q3), .second, .val (.int (3 : Int32)), .val (.ref b80), .val (.ref b82), .unset, .unset] [(.int ((kk q2) * (hh q2))), (.int (1 : Int32)), (.ref b80)])
    refine ogo (fun _ z_ => XS.i2dS X96.here hx rfl (hb hby at_63) rfl rfl z_) ?_
    show OWay p e below G T96 (mkF m 64 #[.val (.int p0), .val (.long q1), .second, .val (.long q2), .second, .val (.long q3), .second, .val (.int (3 : Int32)), .val (.ref b80), .val (.ref b82), .unset, .unset] [(.double (FP.i2d ((kk q2) * (hh q2)))), (.int (1 : Int32)), (.ref b80)])
    have F97 : Arv Z h93 b80 k80 .double (3 : Int32) [(.double (FP.i2d ((kk q1) * (hh q1)))), (.double (0 : UInt64)), (.double (0 : UInt64))] (.double (0 : UInt64)) := (V_88.other W93 (Nat.ne_of_lt (Nat.lt_of_lt_of_le V_b80.lt (Nat.le_of_eq g82.symm))))
    obtain ⟨cl_o98, Ar_o98, q_o98, S_o98, N_o98, H_o98, G_o98⟩ := id F97
    have hin_o98 : ¬ ((1 : Int32) < 0 ∨ cl_o98.slots.size ≤ ((1 : Int32)).toNatClampNeg) := inb_of S_o98 ⟨by decide, by decide⟩
    obtain ⟨T99, h99, X99, eT99, W99, st99⟩ := stD X96 hx hZ eq96 Ar_o98 (j := (1 : Int32)) hin_o98 (g := (mkF m 64 #[.val (.int p0), .val (.long q1), .second, .val (.long q2), .second, .val (.long q3), .second, .val (.int (3 : Int32)), .val (.ref b80), .val (.ref b82), .unset, .unset] [(.double (FP.i2d ((kk q2) * (hh q2)))), (.int (1 : Int32)), (.ref b80)])) rfl rfl (hb hby at_64)
    have K100 : Keep h0 h99 [] := K94.wr W99 (Or.inr sz_b80)
    have V_99 : Arv Z h99 b80 k80 .double (3 : Int32) [(.double (FP.i2d ((kk q1) * (hh q1)))), (.double (FP.i2d ((kk q2) * (hh q2)))), (.double (0 : UInt64))] (.double (0 : UInt64)) := Arv.set Ar_o98 q_o98 S_o98 N_o98 H_o98 G_o98 rfl W99 1 rfl (Nat.le_of_ble_eq_true rfl)
    have N99 := Fr.snoc X99 N96 g_b80
    refine ogo st99 ?_
    show OWay p e below G T99 (mkF m 65 #[.val (.int p0), .val (.long q1), .second, .val (.long q2), .second, .val (.long q3), .second, .val (.int (3 : Int32)), .val (.ref b80), .val (.ref b82), .unset, .unset] [])
    refine ogo (fun _ z_ => XS.aload X99.here hx rfl (hb hby at_65) rfl rfl z_) ?_
    show OWay p e below G T99 (mkF m 67 #[.val (.int p0), .val (.long q1), .second, .val (.long q2), .second, .val (.long q3), .second, .val (.int (3 : Int32)), .val (.ref b80), .val (.ref b82), .unset, .unset] [(.ref b82)])
    refine ogo (fun _ z_ => XS.iconst X99.here hx rfl (hb hby at_67) z_) ?_
    show OWay p e below G T99 (mkF m 68 #[.val (.int p0), .val (.long q1), .second, .val (.long q2), .second, .val (.long q3), .second, .val (.int (3 : Int32)), .val (.ref b80), .val (.ref b82), .unset, .unset] [(.int (1 : Int32)), (.ref b82)])
    refine ogo (fun _ z_ => XS.lloadN X99.here hx rfl (hb hby at_68) rfl z_) ?_
    show OWay p e below G T99 (mkF m 69 #[.val (.int p0), .val (.long q1), .second, .val (.long q2), .second, .val (.long q3), .second, .val (.int (3 : Int32)), .val (.ref b80), .val (.ref b82), .unset, .unset] [(.long q2), (.int (1 : Int32)), (.ref b82)])
    obtain ⟨_, T101, L101, X101, hQ101, st101⟩ := wStatic X99 hx hZ (y := (⟨"com/example/stockwire/stockwire/SideBySideRatiosPinLaw", "h", "(J)I"⟩ : MethodName)) hown (hw _ (List.mem_of_getElem? (i := 9) rfl)) (hw _ (List.mem_of_getElem? (i := 10) rfl)) (hw _ (List.mem_of_getElem? (i := 7) rfl)) (hw _ (List.mem_of_getElem? (i := 11) rfl)) (by decide) (hh_b_c l Z az hw [] q2 h99 n0 (Nat.le_trans (Nat.le_trans (Nat.le_trans (Nat.le_trans (Nat.le_trans Z0 E80.1) E82.1) (Keep.of_wr W88).1) (Keep.of_wr W93).1) (Keep.of_wr W99).1)) 2 (by decide) (by decide) (g := (mkF m 69 #[.val (.int p0), .val (.long q1), .second, .val (.long q2), .second, .val (.long q3), .second, .val (.int (3 : Int32)), .val (.ref b80), .val (.ref b82), .unset, .unset] [(.long q2), (.int (1 : Int32)), (.ref b82)])) rfl (by rw [hml]; rfl) (argsL := [(.long q2)]) (rest := [(.int (1 : Int32)), (.ref b82)]) (lenOf pd__J_I rfl) rfl (by show 2 * 0 + _ ≤ _; exact Nat.le_of_eq rfl) (hb hby at_69) rfl eT99 (by decide) (by decide)
    obtain ⟨rfl, N101q, eq101⟩ := hQ101
    have N101 := Fr.app N99 N101q
    refine ogo st101 ?_
    show OWay p e below G T101 (mkF m 72 #[.val (.int p0), .val (.long q1), .second, .val (.long q2), .second, .val (.long q3), .second, .val (.int (3 : Int32)), .val (.ref b80), .val (.ref b82), .unset, .unset] [(.int (hh q2)), (.int (1 : Int32)), (.ref b82)])
    refine ogo (fun _ z_ => XS.i2dS X101.here hx rfl (hb hby at_72) rfl rfl z_) ?_
    show OWay p e below G T101 (mkF m 73 #[.val (.int p0), .val (.long q1), .second, .val (.long q2), .second, .val (.long q3), .second, .val (.int (3 : Int32)), .val (.ref b80), .val (.ref b82), .unset, .unset] [(.double (FP.i2d (hh q2))), (.int (1 : Int32)), (.ref b82)])
    have F102 : Arv Z h99 b82 k82 .double (3 : Int32) [(.double (FP.i2d (hh q1))), (.double (0 : UInt64)), (.double (0 : UInt64))] (.double (0 : UInt64)) := (V_93.other W99 (Ne.symm (Nat.ne_of_lt (Nat.lt_of_lt_of_le V_b80.lt (Nat.le_of_eq g82.symm)))))
    obtain ⟨cl_o103, Ar_o103, q_o103, S_o103, N_o103, H_o103, G_o103⟩ := id F102
    have hin_o103 : ¬ ((1 : Int32) < 0 ∨ cl_o103.slots.size ≤ ((1 : Int32)).toNatClampNeg) := inb_of S_o103 ⟨by decide, by decide⟩
    obtain ⟨T104, h104, X104, eT104, W104, st104⟩ := stD X101 hx hZ eq101 Ar_o103 (j := (1 : Int32)) hin_o103 (g := (mkF m 73 #[.val (.int p0), .val (.long q1), .second, .val (.long q2), .second, .val (.long q3), .second, .val (.int (3 : Int32)), .val (.ref b80), .val (.ref b82), .unset, .unset] [(.double (FP.i2d (hh q2))), (.int (1 : Int32)), (.ref b82)])) rfl rfl (hb hby at_73)
    have K105 : Keep h0 h104 [] := K100.wr W104 (Or.inr sz_b82)
    have V_104 : Arv Z h104 b82 k82 .double (3 : Int32) [(.double (FP.i2d (hh q1))), (.double (FP.i2d (hh q2))), (.double (0 : UInt64))] (.double (0 : UInt64)) := Arv.set Ar_o103 q_o103 S_o103 N_o103 H_o103 G_o103 rfl W104 1 rfl (Nat.le_of_ble_eq_true rfl)
    have N104 := Fr.snoc X104 N101 g_b82
    refine ogo st104 ?_
    show OWay p e below G T104 (mkF m 74 #[.val (.int p0), .val (.long q1), .second, .val (.long q2), .second, .val (.long q3), .second, .val (.int (3 : Int32)), .val (.ref b80), .val (.ref b82), .unset, .unset] [])
    refine ogo (fun _ z_ => XS.iload X104.here hx rfl (hb hby at_74) rfl z_) ?_
    show OWay p e below G T104 (mkF m 76 #[.val (.int p0), .val (.long q1), .second, .val (.long q2), .second, .val (.long q3), .second, .val (.int (3 : Int32)), .val (.ref b80), .val (.ref b82), .unset, .unset] [(.int (3 : Int32))])
    refine ogo (fun _ z_ => XS.iconst X104.here hx rfl (hb hby at_76) z_) ?_
    show OWay p e below G T104 (mkF m 77 #[.val (.int p0), .val (.long q1), .second, .val (.long q2), .second, .val (.long q3), .second, .val (.int (3 : Int32)), .val (.ref b80), .val (.ref b82), .unset, .unset] [(.int (2 : Int32)), (.int (3 : Int32))])
    refine ogo (fun _ z_ => XS.icmpNo X104.here hx rfl (hb hby at_77) rfl (tlt (by decide)).2.2.2 z_) ?_
    show OWay p e below G T104 (mkF m 80 #[.val (.int p0), .val (.long q1), .second, .val (.long q2), .second, .val (.long q3), .second, .val (.int (3 : Int32)), .val (.ref b80), .val (.ref b82), .unset, .unset] [])
    refine ogo (fun _ z_ => XS.aload X104.here hx rfl (hb hby at_80) rfl rfl z_) ?_
    show OWay p e below G T104 (mkF m 82 #[.val (.int p0), .val (.long q1), .second, .val (.long q2), .second, .val (.long q3), .second, .val (.int (3 : Int32)), .val (.ref b80), .val (.ref b82), .unset, .unset] [(.ref b80)])
    refine ogo (fun _ z_ => XS.iconst X104.here hx rfl (hb hby at_82) z_) ?_
    show OWay p e below G T104 (mkF m 83 #[.val (.int p0), .val (.long q1), .second, .val (.long q2), .second, .val (.long q3), .second, .val (.int (3 : Int32)), .val (.ref b80), .val (.ref b82), .unset, .unset] [(.int (2 : Int32)), (.ref b80)])
    refine ogo (fun _ z_ => XS.lload X104.here hx rfl (hb hby at_83) rfl z_) ?_
    show OWay p e below G T104 (mkF m 85 #[.val (.int p0), .val (.long q1), .second, .val (.long q2), .second, .val (.long q3), .second, .val (.int (3 : Int32)), .val (.ref b80), .val (.ref b82), .unset, .unset] [(.long q3), (.int (2 : Int32)), (.ref b80)])
    obtain ⟨_, T106, L106, X106, hQ106, st106⟩ := wStatic X104 hx hZ (y := (⟨"com/example/stockwire/stockwire/SideBySideRatiosPinLaw", "k", "(J)I"⟩ : MethodName)) hown (hw _ (List.mem_of_getElem? (i := 5) rfl)) (hw _ (List.mem_of_getElem? (i := 6) rfl)) (hw _ (List.mem_of_getElem? (i := 7) rfl)) (hw _ (List.mem_of_getElem? (i := 8) rfl)) (by decide) (kk_b_c l Z az hw [] q3 h104 n0 (Nat.le_trans (Nat.le_trans (Nat.le_trans (Nat.le_trans (Nat.le_trans (Nat.le_trans Z0 E80.1) E82.1) (Keep.of_wr W88).1) (Keep.of_wr W93).1) (Keep.of_wr W99).1) (Keep.of_wr W104).1)) 2 (by decide) (by decide) (g := (mkF m 85 #[.val (.int p0), .val (.long q1), .second, .val (.long q2), .second, .val (.long q3), .second, .val (.int (3 : Int32)), .val (.ref b80), .val (.ref b82), .unset, .unset] [(.long q3), (.int (2 : Int32)), (.ref b80)])) rfl (by rw [hml]; rfl) (argsL := [(.long q3)]) (rest := [(.int (2 : Int32)), (.ref b80)]) (lenOf pd__J_I rfl) rfl (by show 2 * 0 + _ ≤ _; exact Nat.le_of_eq rfl) (hb hby at_85) rfl eT104 (by decide) (by decide)
    obtain ⟨rfl, N106q, eq106⟩ := hQ106
    have N106 := Fr.app N104 N106q
    refine ogo st106 ?_
    show OWay p e below G T106 (mkF m 88 #[.val (.int p0), .val (.long q1), .second, .val (.long q2), .second, .val (.long q3), .second, .val (.int (3 : Int32)), .val (.ref b80), .val (.ref b82), .unset, .unset] [(.int (kk q3)), (.int (2 : Int32)), (.ref b80)])
    refine ogo (fun _ z_ => XS.lload X106.here hx rfl (hb hby at_88) rfl z_) ?_
    show OWay p e below G T106 (mkF m 90 #[.val (.int p0), .val (.long q1), .second, .val (.long q2), .second, .val (.long q3), .second, .val (.int (3 : Int32)), .val (.ref b80), .val (.ref b82), .unset, .unset] [(.long q3), (.int (kk q3)), (.int (2 : Int32)), (.ref b80)])
    obtain ⟨_, T107, L107, X107, hQ107, st107⟩ := wStatic X106 hx hZ (y := (⟨"com/example/stockwire/stockwire/SideBySideRatiosPinLaw", "h", "(J)I"⟩ : MethodName)) hown (hw _ (List.mem_of_getElem? (i := 9) rfl)) (hw _ (List.mem_of_getElem? (i := 10) rfl)) (hw _ (List.mem_of_getElem? (i := 7) rfl)) (hw _ (List.mem_of_getElem? (i := 11) rfl)) (by decide) (hh_b_c l Z az hw [] q3 h104 n0 (Nat.le_trans (Nat.le_trans (Nat.le_trans (Nat.le_trans (Nat.le_trans (Nat.le_trans Z0 E80.1) E82.1) (Keep.of_wr W88).1) (Keep.of_wr W93).1) (Keep.of_wr W99).1) (Keep.of_wr W104).1)) 3 (by decide) (by decide) (g := (mkF m 90 #[.val (.int p0), .val (.long q1), .second, .val (.long q2), .second, .val (.long q3), .second, .val (.int (3 : Int32)), .val (.ref b80), .val (.ref b82), .unset, .unset] [(.long q3), (.int (kk q3)), (.int (2 : Int32)), (.ref b80)])) rfl (by rw [hml]; rfl) (argsL := [(.long q3)]) (rest := [(.int (kk q3)), (.int (2 : Int32)), (.ref b80)]) (lenOf pd__J_I rfl) rfl (by show 2 * 0 + _ ≤ _; exact Nat.le_of_eq rfl) (hb hby at_90) rfl eq106 (by decide) (by decide)
    obtain ⟨rfl, N107q, eq107⟩ := hQ107
    have N107 := Fr.app N106 N107q
    refine ogo st107 ?_
    show OWay p e below G T107 (mkF m 93 #[.val (.int p0), .val (.long q1), .second, .val (.long q2), .second, .val (.long q3), .second, .val (.int (3 : Int32)), .val (.ref b80), .val (.ref b82), .unset, .unset] [(.int (hh q3)), (.int (kk q3)), (.int (2 : Int32)), (.ref b80)])
    refine ogo (fun _ z_ => XS.imul X107.here hx rfl (hb hby at_93) rfl z_) ?_
    show OWay p e below G T107 (mkF m 94 #[.val (.int p0), .val (.long q1), .second, .val (.long q2), .second, .val (.long q3), .second, .val (.int (3 : Int32)), .val (.ref b80), .val (.ref b82), .unset, .unset] [(.int ((kk q3) * (hh q3))), (.int (2 : Int32)), (.ref b80)])
    refine ogo (fun _ z_ => XS.i2dS X107.here hx rfl (hb hby at_94) rfl rfl z_) ?_
    show OWay p e below G T107 (mkF m 95 #[.val (.int p0), .val (.long q1), .second, .val (.long q2), .second, .val (.long q3), .second, .val (.int (3 : Int32)), .val (.ref b80), .val (.ref b82), .unset, .unset] [(.double (FP.i2d ((kk q3) * (hh q3)))), (.int (2 : Int32)), (.ref b80)])
    have F108 : Arv Z h104 b80 k80 .double (3 : Int32) [(.double (FP.i2d ((kk q1) * (hh q1)))), (.double (FP.i2d ((kk q2) * (hh q2)))), (.double (0 : UInt64))] (.double (0 : UInt64)) := (V_99.other W104 (Nat.ne_of_lt (Nat.lt_of_lt_of_le V_b80.lt (Nat.le_of_eq g82.symm))))
    obtain ⟨cl_o109, Ar_o109, q_o109, S_o109, N_o109, H_o109, G_o109⟩ := id F108
    have hin_o109 : ¬ ((2 : Int32) < 0 ∨ cl_o109.slots.size ≤ ((2 : Int32)).toNatClampNeg) := inb_of S_o109 ⟨by decide, by decide⟩
    obtain ⟨T110, h110, X110, eT110, W110, st110⟩ := stD X107 hx hZ eq107 Ar_o109 (j := (2 : Int32)) hin_o109 (g := (mkF m 95 #[.val (.int p0), .val (.long q1), .second, .val (.long q2), .second, .val (.long q3), .second, .val (.int (3 : Int32)), .val (.ref b80), .val (.ref b82), .unset, .unset] [(.double (FP.i2d ((kk q3) * (hh q3)))), (.int (2 : Int32)), (.ref b80)])) rfl rfl (hb hby at_95)
    have K111 : Keep h0 h110 [] := K105.wr W110 (Or.inr sz_b80)
    have V_110 : Arv Z h110 b80 k80 .double (3 : Int32) [(.double (FP.i2d ((kk q1) * (hh q1)))), (.double (FP.i2d ((kk q2) * (hh q2)))), (.double (FP.i2d ((kk q3) * (hh q3))))] (.double (0 : UInt64)) := Arv.set Ar_o109 q_o109 S_o109 N_o109 H_o109 G_o109 rfl W110 2 rfl (Nat.le_of_ble_eq_true rfl)
    have N110 := Fr.snoc X110 N107 g_b80
    refine ogo st110 ?_
    show OWay p e below G T110 (mkF m 96 #[.val (.int p0), .val (.long q1), .second, .val (.long q2), .second, .val (.long q3), .second, .val (.int (3 : Int32)), .val (.ref b80), .val (.ref b82), .unset, .unset] [])
    refine ogo (fun _ z_ => XS.aload X110.here hx rfl (hb hby at_96) rfl rfl z_) ?_
    show OWay p e below G T110 (mkF m 98 #[.val (.int p0), .val (.long q1), .second, .val (.long q2), .second, .val (.long q3), .second, .val (.int (3 : Int32)), .val (.ref b80), .val (.ref b82), .unset, .unset] [(.ref b82)])
    refine ogo (fun _ z_ => XS.iconst X110.here hx rfl (hb hby at_98) z_) ?_
    show OWay p e below G T110 (mkF m 99 #[.val (.int p0), .val (.long q1), .second, .val (.long q2), .second, .val (.long q3), .second, .val (.int (3 : Int32)), .val (.ref b80), .val (.ref b82), .unset, .unset] [(.int (2 : Int32)), (.ref b82)])
    refine ogo (fun _ z_ => XS.lload X110.here hx rfl (hb hby at_99) rfl z_) ?_
    show OWay p e below G T110 (mkF m 101 #[.val (.int p0), .val (.long q1), .second, .val (.long q2), .second, .val (.long q3), .second, .val (.int (3 : Int32)), .val (.ref b80), .val (.ref b82), .unset, .unset] [(.long q3), (.int (2 : Int32)), (.ref b82)])
    obtain ⟨_, T112, L112, X112, hQ112, st112⟩ := wStatic X110 hx hZ (y := (⟨"com/example/stockwire/stockwire/SideBySideRatiosPinLaw", "h", "(J)I"⟩ : MethodName)) hown (hw _ (List.mem_of_getElem? (i := 9) rfl)) (hw _ (List.mem_of_getElem? (i := 10) rfl)) (hw _ (List.mem_of_getElem? (i := 7) rfl)) (hw _ (List.mem_of_getElem? (i := 11) rfl)) (by decide) (hh_b_c l Z az hw [] q3 h110 n0 (Nat.le_trans (Nat.le_trans (Nat.le_trans (Nat.le_trans (Nat.le_trans (Nat.le_trans (Nat.le_trans Z0 E80.1) E82.1) (Keep.of_wr W88).1) (Keep.of_wr W93).1) (Keep.of_wr W99).1) (Keep.of_wr W104).1) (Keep.of_wr W110).1)) 2 (by decide) (by decide) (g := (mkF m 101 #[.val (.int p0), .val (.long q1), .second, .val (.long q2), .second, .val (.long q3), .second, .val (.int (3 : Int32)), .val (.ref b80), .val (.ref b82), .unset, .unset] [(.long q3), (.int (2 : Int32)), (.ref b82)])) rfl (by rw [hml]; rfl) (argsL := [(.long q3)]) (rest := [(.int (2 : Int32)), (.ref b82)]) (lenOf pd__J_I rfl) rfl (by show 2 * 0 + _ ≤ _; exact Nat.le_of_eq rfl) (hb hby at_101) rfl eT110 (by decide) (by decide)
    obtain ⟨rfl, N112q, eq112⟩ := hQ112
    have N112 := Fr.app N110 N112q
    refine ogo st112 ?_
    show OWay p e below G T112 (mkF m 104 #[.val (.int p0), .val (.long q1), .second, .val (.long q2), .second, .val (.long q3), .second, .val (.int (3 : Int32)), .val (.ref b80), .val (.ref b82), .unset, .unset] [(.int (hh q3)), (.int (2 : Int32)), (.ref b82)])
    refine ogo (fun _ z_ => XS.i2dS X112.here hx rfl (hb hby at_104) rfl rfl z_) ?_
    show OWay p e below G T112 (mkF m 105 #[.val (.int p0), .val (.long q1), .second, .val (.long q2), .second, .val (.long q3), .second, .val (.int (3 : Int32)), .val (.ref b80), .val (.ref b82), .unset, .unset] [(.double (FP.i2d (hh q3))), (.int (2 : Int32)), (.ref b82)])
    have F113 : Arv Z h110 b82 k82 .double (3 : Int32) [(.double (FP.i2d (hh q1))), (.double (FP.i2d (hh q2))), (.double (0 : UInt64))] (.double (0 : UInt64)) := (V_104.other W110 (Ne.symm (Nat.ne_of_lt (Nat.lt_of_lt_of_le V_b80.lt (Nat.le_of_eq g82.symm)))))
    obtain ⟨cl_o114, Ar_o114, q_o114, S_o114, N_o114, H_o114, G_o114⟩ := id F113
    have hin_o114 : ¬ ((2 : Int32) < 0 ∨ cl_o114.slots.size ≤ ((2 : Int32)).toNatClampNeg) := inb_of S_o114 ⟨by decide, by decide⟩
    obtain ⟨T115, h115, X115, eT115, W115, st115⟩ := stD X112 hx hZ eq112 Ar_o114 (j := (2 : Int32)) hin_o114 (g := (mkF m 105 #[.val (.int p0), .val (.long q1), .second, .val (.long q2), .second, .val (.long q3), .second, .val (.int (3 : Int32)), .val (.ref b80), .val (.ref b82), .unset, .unset] [(.double (FP.i2d (hh q3))), (.int (2 : Int32)), (.ref b82)])) rfl rfl (hb hby at_105)
    have K116 : Keep h0 h115 [] := K111.wr W115 (Or.inr sz_b82)
    have V_115 : Arv Z h115 b82 k82 .double (3 : Int32) [(.double (FP.i2d (hh q1))), (.double (FP.i2d (hh q2))), (.double (FP.i2d (hh q3)))] (.double (0 : UInt64)) := Arv.set Ar_o114 q_o114 S_o114 N_o114 H_o114 G_o114 rfl W115 2 rfl (Nat.le_of_ble_eq_true rfl)
    have N115 := Fr.snoc X115 N112 g_b82
    refine ogo st115 ?_
    show OWay p e below G T115 (mkF m 106 #[.val (.int p0), .val (.long q1), .second, .val (.long q2), .second, .val (.long q3), .second, .val (.int (3 : Int32)), .val (.ref b80), .val (.ref b82), .unset, .unset] [])
    refine ogo (fun _ z_ => XS.aload X115.here hx rfl (hb hby at_106) rfl rfl z_) ?_
    show OWay p e below G T115 (mkF m 108 #[.val (.int p0), .val (.long q1), .second, .val (.long q2), .second, .val (.long q3), .second, .val (.int (3 : Int32)), .val (.ref b80), .val (.ref b82), .unset, .unset] [(.ref b80)])
    refine ogo (fun _ z_ => XS.aload X115.here hx rfl (hb hby at_108) rfl rfl z_) ?_
    show OWay p e below G T115 (mkF m 110 #[.val (.int p0), .val (.long q1), .second, .val (.long q2), .second, .val (.long q3), .second, .val (.int (3 : Int32)), .val (.ref b80), .val (.ref b82), .unset, .unset] [(.ref b82), (.ref b80)])
    have F117 : Arv Z h115 b80 k80 .double (3 : Int32) [(.double (FP.i2d ((kk q1) * (hh q1)))), (.double (FP.i2d ((kk q2) * (hh q2)))), (.double (FP.i2d ((kk q3) * (hh q3))))] (.double (0 : UInt64)) := (V_110.other W115 (Nat.ne_of_lt (Nat.lt_of_lt_of_le V_b80.lt (Nat.le_of_eq g82.symm))))
    obtain ⟨_, T118, L118, X118, hQ118, st118⟩ := wStatic X115 hx hZ (y := (⟨"com/example/stockwire/stockwire/SideBySide", "ratios", "([D[D)[D"⟩ : MethodName)) hown (hw _ (List.mem_of_getElem? (i := 1) rfl)) (hw _ (List.mem_of_getElem? (i := 2) rfl)) (hw _ (List.mem_of_getElem? (i := 3) rfl)) (hw _ (List.mem_of_getElem? (i := 4) rfl)) (by decide) (rat3_c l Z az hw [] b80 b82 k80 k82 (FP.i2d ((kk q1) * (hh q1))) (FP.i2d ((kk q2) * (hh q2))) (FP.i2d ((kk q3) * (hh q3))) (FP.i2d (hh q1)) (FP.i2d (hh q2)) (FP.i2d (hh q3)) h115 n0 (Nat.le_trans (Nat.le_trans (Nat.le_trans (Nat.le_trans (Nat.le_trans (Nat.le_trans (Nat.le_trans (Nat.le_trans Z0 E80.1) E82.1) (Keep.of_wr W88).1) (Keep.of_wr W93).1) (Keep.of_wr W99).1) (Keep.of_wr W104).1) (Keep.of_wr W110).1) (Keep.of_wr W115).1) F117 V_115 (dy_nn (own_q q1)) (dy_nn (own_q q2)) (dy_nn (own_q q3))) 0 (by decide) (by decide) (g := (mkF m 110 #[.val (.int p0), .val (.long q1), .second, .val (.long q2), .second, .val (.long q3), .second, .val (.int (3 : Int32)), .val (.ref b80), .val (.ref b82), .unset, .unset] [(.ref b82), (.ref b80)])) rfl (by rw [hml]; rfl) (argsL := [(.ref b80), (.ref b82)]) (rest := []) (lenOf pd___D_D__D rfl) rfl (by show 2 * 0 + _ ≤ _; exact Nat.le_of_eq rfl) (hb hby at_110) rfl eT115 (by decide) (by decide)
    obtain ⟨b_119, kr_120, rfl, N118q, Kq118, P121, P122, P123⟩ := hQ118
    have N118 := Fr.app N115 N118q
    have K124 : Keep h0 T118.heap [] := K116.trans Kq118 all0
    have g_b_119 := P121
    have sz_b_119 : h0.size ≤ b_119 := Nat.le_trans K116.1 P122
    refine ogo st118 ?_
    show OWay p e below G T118 (mkF m 113 #[.val (.int p0), .val (.long q1), .second, .val (.long q2), .second, .val (.long q3), .second, .val (.int (3 : Int32)), .val (.ref b80), .val (.ref b82), .unset, .unset] [(.ref b_119)])
    refine ogo (fun _ z_ => XS.astore X118.here hx rfl (hb hby at_113) rfl rfl (l' := #[.val (.int p0), .val (.long q1), .second, .val (.long q2), .second, .val (.long q3), .second, .val (.int (3 : Int32)), .val (.ref b80), .val (.ref b82), .val (.ref b_119), .unset]) rfl z_) ?_
    show OWay p e below G T118 (mkF m 115 #[.val (.int p0), .val (.long q1), .second, .val (.long q2), .second, .val (.long q3), .second, .val (.int (3 : Int32)), .val (.ref b80), .val (.ref b82), .val (.ref b_119), .unset] [])
    refine ogo (fun _ z_ => XS.aload X118.here hx rfl (hb hby at_115) rfl rfl z_) ?_
    show OWay p e below G T118 (mkF m 117 #[.val (.int p0), .val (.long q1), .second, .val (.long q2), .second, .val (.long q3), .second, .val (.int (3 : Int32)), .val (.ref b80), .val (.ref b82), .val (.ref b_119), .unset] [(.ref b_119)])
    refine ogo (fun _ z_ => XS.ifnullNo X118.here hx rfl (hb hby at_117) rfl z_) ?_
    show OWay p e below G T118 (mkF m 120 #[.val (.int p0), .val (.long q1), .second, .val (.long q2), .second, .val (.long q3), .second, .val (.int (3 : Int32)), .val (.ref b80), .val (.ref b82), .val (.ref b_119), .unset] [])
    refine ogo (fun _ z_ => XS.aload X118.here hx rfl (hb hby at_120) rfl rfl z_) ?_
    show OWay p e below G T118 (mkF m 122 #[.val (.int p0), .val (.long q1), .second, .val (.long q2), .second, .val (.long q3), .second, .val (.int (3 : Int32)), .val (.ref b80), .val (.ref b82), .val (.ref b_119), .unset] [(.ref b_119)])
    obtain ⟨cl_o125, Ar_o125, -, S_o125, N_o125, -, -⟩ := id P123
    refine ogo (fun _ z_ => X118.arraylength hx Ar_o125.1 (State.isArrayOf_alike hZ.alike Ar_o125.2.1) (g := (mkF m 122 #[.val (.int p0), .val (.long q1), .second, .val (.long q2), .second, .val (.long q3), .second, .val (.int (3 : Int32)), .val (.ref b80), .val (.ref b82), .val (.ref b_119), .unset] [(.ref b_119)])) rfl rfl (hb hby at_122) _ z_) ?_
    rw [len_of S_o125 N_o125]
    show OWay p e below G T118 (mkF m 123 #[.val (.int p0), .val (.long q1), .second, .val (.long q2), .second, .val (.long q3), .second, .val (.int (3 : Int32)), .val (.ref b80), .val (.ref b82), .val (.ref b_119), .unset] [(.int (3 : Int32))])
    refine ogo (fun _ z_ => XS.iload X118.here hx rfl (hb hby at_123) rfl z_) ?_
    show OWay p e below G T118 (mkF m 125 #[.val (.int p0), .val (.long q1), .second, .val (.long q2), .second, .val (.long q3), .second, .val (.int (3 : Int32)), .val (.ref b80), .val (.ref b82), .val (.ref b_119), .unset] [(.int (3 : Int32)), (.int (3 : Int32))])
    refine ogo (fun _ z_ => XS.icmpYes X118.here hx rfl (pc0 := 125) (pc' := 130) rfl (hb hby at_125) rfl (teq rfl).1 (by decide) (by decide) z_) ?_
    show OWay p e below G T118 (mkF m 130 #[.val (.int p0), .val (.long q1), .second, .val (.long q2), .second, .val (.long q3), .second, .val (.int (3 : Int32)), .val (.ref b80), .val (.ref b82), .val (.ref b_119), .unset] [])
    refine ogo (fun _ z_ => XS.iconst X118.here hx rfl (hb hby at_130) z_) ?_
    show OWay p e below G T118 (mkF m 131 #[.val (.int p0), .val (.long q1), .second, .val (.long q2), .second, .val (.long q3), .second, .val (.int (3 : Int32)), .val (.ref b80), .val (.ref b82), .val (.ref b_119), .unset] [(.int (1 : Int32))])
    refine ogo (fun _ z_ => XS.istore X118.here hx rfl (hb hby at_131) rfl (l' := #[.val (.int p0), .val (.long q1), .second, .val (.long q2), .second, .val (.long q3), .second, .val (.int (3 : Int32)), .val (.ref b80), .val (.ref b82), .val (.ref b_119), .val (.int (1 : Int32))]) rfl z_) ?_
    show OWay p e below G T118 (mkF m 133 #[.val (.int p0), .val (.long q1), .second, .val (.long q2), .second, .val (.long q3), .second, .val (.int (3 : Int32)), .val (.ref b80), .val (.ref b82), .val (.ref b_119), .val (.int (1 : Int32))] [])
    refine ogo (fun _ z_ => XS.iload X118.here hx rfl (hb hby at_133) rfl z_) ?_
    show OWay p e below G T118 (mkF m 135 #[.val (.int p0), .val (.long q1), .second, .val (.long q2), .second, .val (.long q3), .second, .val (.int (3 : Int32)), .val (.ref b80), .val (.ref b82), .val (.ref b_119), .val (.int (1 : Int32))] [(.int (3 : Int32))])
    refine ogo (fun _ z_ => XS.ifNo X118.here hx rfl (hb hby at_135) rfl ((if0 _ _).trans (tlt (by decide)).2.2.2) z_) ?_
    show OWay p e below G T118 (mkF m 138 #[.val (.int p0), .val (.long q1), .second, .val (.long q2), .second, .val (.long q3), .second, .val (.int (3 : Int32)), .val (.ref b80), .val (.ref b82), .val (.ref b_119), .val (.int (1 : Int32))] [])
    refine ogo (fun _ z_ => XS.iload X118.here hx rfl (hb hby at_138) rfl z_) ?_
    show OWay p e below G T118 (mkF m 140 #[.val (.int p0), .val (.long q1), .second, .val (.long q2), .second, .val (.long q3), .second, .val (.int (3 : Int32)), .val (.ref b80), .val (.ref b82), .val (.ref b_119), .val (.int (1 : Int32))] [(.int (1 : Int32))])
    refine ogo (fun _ z_ => XS.ifNo X118.here hx rfl (hb hby at_140) rfl ((if0 _ _).trans (feq (by decide)).1) z_) ?_
    show OWay p e below G T118 (mkF m 143 #[.val (.int p0), .val (.long q1), .second, .val (.long q2), .second, .val (.long q3), .second, .val (.int (3 : Int32)), .val (.ref b80), .val (.ref b82), .val (.ref b_119), .val (.int (1 : Int32))] [])
    refine ogo (fun _ z_ => XS.aload X118.here hx rfl (hb hby at_143) rfl rfl z_) ?_
    show OWay p e below G T118 (mkF m 145 #[.val (.int p0), .val (.long q1), .second, .val (.long q2), .second, .val (.long q3), .second, .val (.int (3 : Int32)), .val (.ref b80), .val (.ref b82), .val (.ref b_119), .val (.int (1 : Int32))] [(.ref b_119)])
    refine ogo (fun _ z_ => XS.iconst X118.here hx rfl (hb hby at_145) z_) ?_
    show OWay p e below G T118 (mkF m 146 #[.val (.int p0), .val (.long q1), .second, .val (.long q2), .second, .val (.long q3), .second, .val (.int (3 : Int32)), .val (.ref b80), .val (.ref b82), .val (.ref b_119), .val (.int (1 : Int32))] [(.int (0 : Int32)), (.ref b_119)])
    obtain ⟨cl_o126, Ar_o126, q_o126, S_o126, N_o126, H_o126, G_o126⟩ := id P123
    have hin_o126 : ¬ ((0 : Int32) < 0 ∨ cl_o126.slots.size ≤ ((0 : Int32)).toNatClampNeg) := inb_of S_o126 ⟨by decide, by decide⟩
    have hat_o126 : cl_o126.slots[((0 : Int32)).toNatClampNeg]? = some (.double (FP.ddiv (FP.i2d ((kk q1) * (hh q1))) (FP.i2d (hh q1)))) := H_o126.at hin_o126 rfl
    refine ogo (fun _ z_ => X118.daload hx (j := (0 : Int32)) (v := (.double (FP.ddiv (FP.i2d ((kk q1) * (hh q1))) (FP.i2d (hh q1))))) Ar_o126.1 (State.isArrayOf_alike hZ.alike Ar_o126.2.1) Ar_o126.2.2 hin_o126 hat_o126 (g := (mkF m 146 #[.val (.int p0), .val (.long q1), .second, .val (.long q2), .second, .val (.long q3), .second, .val (.int (3 : Int32)), .val (.ref b80), .val (.ref b82), .val (.ref b_119), .val (.int (1 : Int32))] [(.int (0 : Int32)), (.ref b_119)])) rfl rfl (hb hby at_146) _ z_) ?_
    show OWay p e below G T118 (mkF m 147 #[.val (.int p0), .val (.long q1), .second, .val (.long q2), .second, .val (.long q3), .second, .val (.int (3 : Int32)), .val (.ref b80), .val (.ref b82), .val (.ref b_119), .val (.int (1 : Int32))] [(.double (FP.ddiv (FP.i2d ((kk q1) * (hh q1))) (FP.i2d (hh q1))))])
    refine ogo (fun _ z_ => XS.lloadN X118.here hx rfl (hb hby at_147) rfl z_) ?_
    show OWay p e below G T118 (mkF m 148 #[.val (.int p0), .val (.long q1), .second, .val (.long q2), .second, .val (.long q3), .second, .val (.int (3 : Int32)), .val (.ref b80), .val (.ref b82), .val (.ref b_119), .val (.int (1 : Int32))] [(.long q1), (.double (FP.ddiv (FP.i2d ((kk q1) * (hh q1))) (FP.i2d (hh q1))))])
    obtain ⟨_, T127, L127, X127, hQ127, st127⟩ := wStatic X118 hx hZ (y := (⟨"com/example/stockwire/stockwire/SideBySideRatiosPinLaw", "k", "(J)I"⟩ : MethodName)) hown (hw _ (List.mem_of_getElem? (i := 5) rfl)) (hw _ (List.mem_of_getElem? (i := 6) rfl)) (hw _ (List.mem_of_getElem? (i := 7) rfl)) (hw _ (List.mem_of_getElem? (i := 8) rfl)) (by decide) (kk_b_c l Z az hw [] q1 T118.heap n0 (Nat.le_trans (Nat.le_trans (Nat.le_trans (Nat.le_trans (Nat.le_trans (Nat.le_trans (Nat.le_trans (Nat.le_trans (Nat.le_trans Z0 E80.1) E82.1) (Keep.of_wr W88).1) (Keep.of_wr W93).1) (Keep.of_wr W99).1) (Keep.of_wr W104).1) (Keep.of_wr W110).1) (Keep.of_wr W115).1) Kq118.1)) 2 (by decide) (by decide) (g := (mkF m 148 #[.val (.int p0), .val (.long q1), .second, .val (.long q2), .second, .val (.long q3), .second, .val (.int (3 : Int32)), .val (.ref b80), .val (.ref b82), .val (.ref b_119), .val (.int (1 : Int32))] [(.long q1), (.double (FP.ddiv (FP.i2d ((kk q1) * (hh q1))) (FP.i2d (hh q1))))])) rfl (by rw [hml]; rfl) (argsL := [(.long q1)]) (rest := [(.double (FP.ddiv (FP.i2d ((kk q1) * (hh q1))) (FP.i2d (hh q1))))]) (lenOf pd__J_I rfl) rfl (by show 2 * 0 + _ ≤ _; exact Nat.le_of_eq rfl) (hb hby at_148) rfl rfl (by decide) (by decide)
    obtain ⟨rfl, N127q, eq127⟩ := hQ127
    have N127 := Fr.app N118 N127q
    refine ogo st127 ?_
    show OWay p e below G T127 (mkF m 151 #[.val (.int p0), .val (.long q1), .second, .val (.long q2), .second, .val (.long q3), .second, .val (.int (3 : Int32)), .val (.ref b80), .val (.ref b82), .val (.ref b_119), .val (.int (1 : Int32))] [(.int (kk q1)), (.double (FP.ddiv (FP.i2d ((kk q1) * (hh q1))) (FP.i2d (hh q1))))])
    refine ogo (fun _ z_ => XS.i2dS X127.here hx rfl (hb hby at_151) rfl rfl z_) ?_
    show OWay p e below G T127 (mkF m 152 #[.val (.int p0), .val (.long q1), .second, .val (.long q2), .second, .val (.long q3), .second, .val (.int (3 : Int32)), .val (.ref b80), .val (.ref b82), .val (.ref b_119), .val (.int (1 : Int32))] [(.double (FP.i2d (kk q1))), (.double (FP.ddiv (FP.i2d ((kk q1) * (hh q1))) (FP.i2d (hh q1))))])
    refine ogo (fun _ z_ => XS.dcmpS X127.here hx rfl (hb hby at_152) rfl rfl z_) ?_
    show OWay p e below G T127 (mkF m 153 #[.val (.int p0), .val (.long q1), .second, .val (.long q2), .second, .val (.long q3), .second, .val (.int (3 : Int32)), .val (.ref b80), .val (.ref b82), .val (.ref b_119), .val (.int (1 : Int32))] [(.int (cmpValue (FP.dcmp (FP.ddiv (FP.i2d ((kk q1) * (hh q1))) (FP.i2d (hh q1))) (FP.i2d (kk q1))) .l))])
    refine ogo (fun _ z_ => XS.ifNo X127.here hx rfl (hb hby at_153) rfl ((if0 _ _).trans (teq (own_r q1)).2) z_) ?_
    show OWay p e below G T127 (mkF m 156 #[.val (.int p0), .val (.long q1), .second, .val (.long q2), .second, .val (.long q3), .second, .val (.int (3 : Int32)), .val (.ref b80), .val (.ref b82), .val (.ref b_119), .val (.int (1 : Int32))] [])
    refine ogo (fun _ z_ => XS.iconst X127.here hx rfl (hb hby at_156) z_) ?_
    show OWay p e below G T127 (mkF m 157 #[.val (.int p0), .val (.long q1), .second, .val (.long q2), .second, .val (.long q3), .second, .val (.int (3 : Int32)), .val (.ref b80), .val (.ref b82), .val (.ref b_119), .val (.int (1 : Int32))] [(.int (1 : Int32))])
    refine ogo (fun _ z_ => XS.goto X127.here hx rfl (pc0 := 157) (pc' := 161) rfl (hb hby at_157) (by decide) (by decide) z_) ?_
    show OWay p e below G T127 (mkF m 161 #[.val (.int p0), .val (.long q1), .second, .val (.long q2), .second, .val (.long q3), .second, .val (.int (3 : Int32)), .val (.ref b80), .val (.ref b82), .val (.ref b_119), .val (.int (1 : Int32))] [(.int (1 : Int32))])
    refine ogo (fun _ z_ => XS.istore X127.here hx rfl (hb hby at_161) rfl (l' := #[.val (.int p0), .val (.long q1), .second, .val (.long q2), .second, .val (.long q3), .second, .val (.int (3 : Int32)), .val (.ref b80), .val (.ref b82), .val (.ref b_119), .val (.int (1 : Int32))]) rfl z_) ?_
    show OWay p e below G T127 (mkF m 163 #[.val (.int p0), .val (.long q1), .second, .val (.long q2), .second, .val (.long q3), .second, .val (.int (3 : Int32)), .val (.ref b80), .val (.ref b82), .val (.ref b_119), .val (.int (1 : Int32))] [])
    refine ogo (fun _ z_ => XS.iload X127.here hx rfl (hb hby at_163) rfl z_) ?_
    show OWay p e below G T127 (mkF m 165 #[.val (.int p0), .val (.long q1), .second, .val (.long q2), .second, .val (.long q3), .second, .val (.int (3 : Int32)), .val (.ref b80), .val (.ref b82), .val (.ref b_119), .val (.int (1 : Int32))] [(.int (3 : Int32))])
    refine ogo (fun _ z_ => XS.iconst X127.here hx rfl (hb hby at_165) z_) ?_
    show OWay p e below G T127 (mkF m 166 #[.val (.int p0), .val (.long q1), .second, .val (.long q2), .second, .val (.long q3), .second, .val (.int (3 : Int32)), .val (.ref b80), .val (.ref b82), .val (.ref b_119), .val (.int (1 : Int32))] [(.int (1 : Int32)), (.int (3 : Int32))])
    refine ogo (fun _ z_ => XS.icmpNo X127.here hx rfl (hb hby at_166) rfl (tlt (by decide)).2.2.2 z_) ?_
    show OWay p e below G T127 (mkF m 169 #[.val (.int p0), .val (.long q1), .second, .val (.long q2), .second, .val (.long q3), .second, .val (.int (3 : Int32)), .val (.ref b80), .val (.ref b82), .val (.ref b_119), .val (.int (1 : Int32))] [])
    refine ogo (fun _ z_ => XS.iload X127.here hx rfl (hb hby at_169) rfl z_) ?_
    show OWay p e below G T127 (mkF m 171 #[.val (.int p0), .val (.long q1), .second, .val (.long q2), .second, .val (.long q3), .second, .val (.int (3 : Int32)), .val (.ref b80), .val (.ref b82), .val (.ref b_119), .val (.int (1 : Int32))] [(.int (1 : Int32))])
    refine ogo (fun _ z_ => XS.ifNo X127.here hx rfl (hb hby at_171) rfl ((if0 _ _).trans (feq (by decide)).1) z_) ?_
    show OWay p e below G T127 (mkF m 174 #[.val (.int p0), .val (.long q1), .second, .val (.long q2), .second, .val (.long q3), .second, .val (.int (3 : Int32)), .val (.ref b80), .val (.ref b82), .val (.ref b_119), .val (.int (1 : Int32))] [])
    refine ogo (fun _ z_ => XS.aload X127.here hx rfl (hb hby at_174) rfl rfl z_) ?_
    show OWay p e below G T127 (mkF m 176 #[.val (.int p0), .val (.long q1), .second, .val (.long q2), .second, .val (.long q3), .second, .val (.int (3 : Int32)), .val (.ref b80), .val (.ref b82), .val (.ref b_119), .val (.int (1 : Int32))] [(.ref b_119)])
    refine ogo (fun _ z_ => XS.iconst X127.here hx rfl (hb hby at_176) z_) ?_
    show OWay p e below G T127 (mkF m 177 #[.val (.int p0), .val (.long q1), .second, .val (.long q2), .second, .val (.long q3), .second, .val (.int (3 : Int32)), .val (.ref b80), .val (.ref b82), .val (.ref b_119), .val (.int (1 : Int32))] [(.int (1 : Int32)), (.ref b_119)])
    obtain ⟨cl_o128, Ar_o128, q_o128, S_o128, N_o128, H_o128, G_o128⟩ := id P123
    have hin_o128 : ¬ ((1 : Int32) < 0 ∨ cl_o128.slots.size ≤ ((1 : Int32)).toNatClampNeg) := inb_of S_o128 ⟨by decide, by decide⟩
    have hat_o128 : cl_o128.slots[((1 : Int32)).toNatClampNeg]? = some (.double (FP.ddiv (FP.i2d ((kk q2) * (hh q2))) (FP.i2d (hh q2)))) := H_o128.at hin_o128 rfl
    refine ogo (fun _ z_ => X127.daload hx (j := (1 : Int32)) (v := (.double (FP.ddiv (FP.i2d ((kk q2) * (hh q2))) (FP.i2d (hh q2))))) (by rw [eq127]; exact Ar_o128.1) (State.isArrayOf_alike hZ.alike Ar_o128.2.1) Ar_o128.2.2 hin_o128 hat_o128 (g := (mkF m 177 #[.val (.int p0), .val (.long q1), .second, .val (.long q2), .second, .val (.long q3), .second, .val (.int (3 : Int32)), .val (.ref b80), .val (.ref b82), .val (.ref b_119), .val (.int (1 : Int32))] [(.int (1 : Int32)), (.ref b_119)])) rfl rfl (hb hby at_177) _ z_) ?_
    show OWay p e below G T127 (mkF m 178 #[.val (.int p0), .val (.long q1), .second, .val (.long q2), .second, .val (.long q3), .second, .val (.int (3 : Int32)), .val (.ref b80), .val (.ref b82), .val (.ref b_119), .val (.int (1 : Int32))] [(.double (FP.ddiv (FP.i2d ((kk q2) * (hh q2))) (FP.i2d (hh q2))))])
    refine ogo (fun _ z_ => XS.lloadN X127.here hx rfl (hb hby at_178) rfl z_) ?_
    show OWay p e below G T127 (mkF m 179 #[.val (.int p0), .val (.long q1), .second, .val (.long q2), .second, .val (.long q3), .second, .val (.int (3 : Int32)), .val (.ref b80), .val (.ref b82), .val (.ref b_119), .val (.int (1 : Int32))] [(.long q2), (.double (FP.ddiv (FP.i2d ((kk q2) * (hh q2))) (FP.i2d (hh q2))))])
    obtain ⟨_, T129, L129, X129, hQ129, st129⟩ := wStatic X127 hx hZ (y := (⟨"com/example/stockwire/stockwire/SideBySideRatiosPinLaw", "k", "(J)I"⟩ : MethodName)) hown (hw _ (List.mem_of_getElem? (i := 5) rfl)) (hw _ (List.mem_of_getElem? (i := 6) rfl)) (hw _ (List.mem_of_getElem? (i := 7) rfl)) (hw _ (List.mem_of_getElem? (i := 8) rfl)) (by decide) (kk_b_c l Z az hw [] q2 T118.heap n0 (Nat.le_trans (Nat.le_trans (Nat.le_trans (Nat.le_trans (Nat.le_trans (Nat.le_trans (Nat.le_trans (Nat.le_trans (Nat.le_trans Z0 E80.1) E82.1) (Keep.of_wr W88).1) (Keep.of_wr W93).1) (Keep.of_wr W99).1) (Keep.of_wr W104).1) (Keep.of_wr W110).1) (Keep.of_wr W115).1) Kq118.1)) 2 (by decide) (by decide) (g := (mkF m 179 #[.val (.int p0), .val (.long q1), .second, .val (.long q2), .second, .val (.long q3), .second, .val (.int (3 : Int32)), .val (.ref b80), .val (.ref b82), .val (.ref b_119), .val (.int (1 : Int32))] [(.long q2), (.double (FP.ddiv (FP.i2d ((kk q2) * (hh q2))) (FP.i2d (hh q2))))])) rfl (by rw [hml]; rfl) (argsL := [(.long q2)]) (rest := [(.double (FP.ddiv (FP.i2d ((kk q2) * (hh q2))) (FP.i2d (hh q2))))]) (lenOf pd__J_I rfl) rfl (by show 2 * 0 + _ ≤ _; exact Nat.le_of_eq rfl) (hb hby at_179) rfl eq127 (by decide) (by decide)
    obtain ⟨rfl, N129q, eq129⟩ := hQ129
    have N129 := Fr.app N127 N129q
    refine ogo st129 ?_
    show OWay p e below G T129 (mkF m 182 #[.val (.int p0), .val (.long q1), .second, .val (.long q2), .second, .val (.long q3), .second, .val (.int (3 : Int32)), .val (.ref b80), .val (.ref b82), .val (.ref b_119), .val (.int (1 : Int32))] [(.int (kk q2)), (.double (FP.ddiv (FP.i2d ((kk q2) * (hh q2))) (FP.i2d (hh q2))))])
    refine ogo (fun _ z_ => XS.i2dS X129.here hx rfl (hb hby at_182) rfl rfl z_) ?_
    show OWay p e below G T129 (mkF m 183 #[.val (.int p0), .val (.long q1), .second, .val (.long q2), .second, .val (.long q3), .second, .val (.int (3 : Int32)), .val (.ref b80), .val (.ref b82), .val (.ref b_119), .val (.int (1 : Int32))] [(.double (FP.i2d (kk q2))), (.double (FP.ddiv (FP.i2d ((kk q2) * (hh q2))) (FP.i2d (hh q2))))])
    refine ogo (fun _ z_ => XS.dcmpS X129.here hx rfl (hb hby at_183) rfl rfl z_) ?_
    show OWay p e below G T129 (mkF m 184 #[.val (.int p0), .val (.long q1), .second, .val (.long q2), .second, .val (.long q3), .second, .val (.int (3 : Int32)), .val (.ref b80), .val (.ref b82), .val (.ref b_119), .val (.int (1 : Int32))] [(.int (cmpValue (FP.dcmp (FP.ddiv (FP.i2d ((kk q2) * (hh q2))) (FP.i2d (hh q2))) (FP.i2d (kk q2))) .l))])
    refine ogo (fun _ z_ => XS.ifNo X129.here hx rfl (hb hby at_184) rfl ((if0 _ _).trans (teq (own_r q2)).2) z_) ?_
    show OWay p e below G T129 (mkF m 187 #[.val (.int p0), .val (.long q1), .second, .val (.long q2), .second, .val (.long q3), .second, .val (.int (3 : Int32)), .val (.ref b80), .val (.ref b82), .val (.ref b_119), .val (.int (1 : Int32))] [])
    refine ogo (fun _ z_ => XS.iconst X129.here hx rfl (hb hby at_187) z_) ?_
    show OWay p e below G T129 (mkF m 188 #[.val (.int p0), .val (.long q1), .second, .val (.long q2), .second, .val (.long q3), .second, .val (.int (3 : Int32)), .val (.ref b80), .val (.ref b82), .val (.ref b_119), .val (.int (1 : Int32))] [(.int (1 : Int32))])
    refine ogo (fun _ z_ => XS.goto X129.here hx rfl (pc0 := 188) (pc' := 192) rfl (hb hby at_188) (by decide) (by decide) z_) ?_
    show OWay p e below G T129 (mkF m 192 #[.val (.int p0), .val (.long q1), .second, .val (.long q2), .second, .val (.long q3), .second, .val (.int (3 : Int32)), .val (.ref b80), .val (.ref b82), .val (.ref b_119), .val (.int (1 : Int32))] [(.int (1 : Int32))])
    refine ogo (fun _ z_ => XS.istore X129.here hx rfl (hb hby at_192) rfl (l' := #[.val (.int p0), .val (.long q1), .second, .val (.long q2), .second, .val (.long q3), .second, .val (.int (3 : Int32)), .val (.ref b80), .val (.ref b82), .val (.ref b_119), .val (.int (1 : Int32))]) rfl z_) ?_
    show OWay p e below G T129 (mkF m 194 #[.val (.int p0), .val (.long q1), .second, .val (.long q2), .second, .val (.long q3), .second, .val (.int (3 : Int32)), .val (.ref b80), .val (.ref b82), .val (.ref b_119), .val (.int (1 : Int32))] [])
    refine ogo (fun _ z_ => XS.iload X129.here hx rfl (hb hby at_194) rfl z_) ?_
    show OWay p e below G T129 (mkF m 196 #[.val (.int p0), .val (.long q1), .second, .val (.long q2), .second, .val (.long q3), .second, .val (.int (3 : Int32)), .val (.ref b80), .val (.ref b82), .val (.ref b_119), .val (.int (1 : Int32))] [(.int (3 : Int32))])
    refine ogo (fun _ z_ => XS.iconst X129.here hx rfl (hb hby at_196) z_) ?_
    show OWay p e below G T129 (mkF m 197 #[.val (.int p0), .val (.long q1), .second, .val (.long q2), .second, .val (.long q3), .second, .val (.int (3 : Int32)), .val (.ref b80), .val (.ref b82), .val (.ref b_119), .val (.int (1 : Int32))] [(.int (2 : Int32)), (.int (3 : Int32))])
    refine ogo (fun _ z_ => XS.icmpNo X129.here hx rfl (hb hby at_197) rfl (tlt (by decide)).2.2.2 z_) ?_
    show OWay p e below G T129 (mkF m 200 #[.val (.int p0), .val (.long q1), .second, .val (.long q2), .second, .val (.long q3), .second, .val (.int (3 : Int32)), .val (.ref b80), .val (.ref b82), .val (.ref b_119), .val (.int (1 : Int32))] [])
    refine ogo (fun _ z_ => XS.iload X129.here hx rfl (hb hby at_200) rfl z_) ?_
    show OWay p e below G T129 (mkF m 202 #[.val (.int p0), .val (.long q1), .second, .val (.long q2), .second, .val (.long q3), .second, .val (.int (3 : Int32)), .val (.ref b80), .val (.ref b82), .val (.ref b_119), .val (.int (1 : Int32))] [(.int (1 : Int32))])
    refine ogo (fun _ z_ => XS.ifNo X129.here hx rfl (hb hby at_202) rfl ((if0 _ _).trans (feq (by decide)).1) z_) ?_
    show OWay p e below G T129 (mkF m 205 #[.val (.int p0), .val (.long q1), .second, .val (.long q2), .second, .val (.long q3), .second, .val (.int (3 : Int32)), .val (.ref b80), .val (.ref b82), .val (.ref b_119), .val (.int (1 : Int32))] [])
    refine ogo (fun _ z_ => XS.aload X129.here hx rfl (hb hby at_205) rfl rfl z_) ?_
    show OWay p e below G T129 (mkF m 207 #[.val (.int p0), .val (.long q1), .second, .val (.long q2), .second, .val (.long q3), .second, .val (.int (3 : Int32)), .val (.ref b80), .val (.ref b82), .val (.ref b_119), .val (.int (1 : Int32))] [(.ref b_119)])
    refine ogo (fun _ z_ => XS.iconst X129.here hx rfl (hb hby at_207) z_) ?_
    show OWay p e below G T129 (mkF m 208 #[.val (.int p0), .val (.long q1), .second, .val (.long q2), .second, .val (.long q3), .second, .val (.int (3 : Int32)), .val (.ref b80), .val (.ref b82), .val (.ref b_119), .val (.int (1 : Int32))] [(.int (2 : Int32)), (.ref b_119)])
    obtain ⟨cl_o130, Ar_o130, q_o130, S_o130, N_o130, H_o130, G_o130⟩ := id P123
    have hin_o130 : ¬ ((2 : Int32) < 0 ∨ cl_o130.slots.size ≤ ((2 : Int32)).toNatClampNeg) := inb_of S_o130 ⟨by decide, by decide⟩
    have hat_o130 : cl_o130.slots[((2 : Int32)).toNatClampNeg]? = some (.double (FP.ddiv (FP.i2d ((kk q3) * (hh q3))) (FP.i2d (hh q3)))) := H_o130.at hin_o130 rfl
    refine ogo (fun _ z_ => X129.daload hx (j := (2 : Int32)) (v := (.double (FP.ddiv (FP.i2d ((kk q3) * (hh q3))) (FP.i2d (hh q3))))) (by rw [eq129]; exact Ar_o130.1) (State.isArrayOf_alike hZ.alike Ar_o130.2.1) Ar_o130.2.2 hin_o130 hat_o130 (g := (mkF m 208 #[.val (.int p0), .val (.long q1), .second, .val (.long q2), .second, .val (.long q3), .second, .val (.int (3 : Int32)), .val (.ref b80), .val (.ref b82), .val (.ref b_119), .val (.int (1 : Int32))] [(.int (2 : Int32)), (.ref b_119)])) rfl rfl (hb hby at_208) _ z_) ?_
    show OWay p e below G T129 (mkF m 209 #[.val (.int p0), .val (.long q1), .second, .val (.long q2), .second, .val (.long q3), .second, .val (.int (3 : Int32)), .val (.ref b80), .val (.ref b82), .val (.ref b_119), .val (.int (1 : Int32))] [(.double (FP.ddiv (FP.i2d ((kk q3) * (hh q3))) (FP.i2d (hh q3))))])
    refine ogo (fun _ z_ => XS.lload X129.here hx rfl (hb hby at_209) rfl z_) ?_
    show OWay p e below G T129 (mkF m 211 #[.val (.int p0), .val (.long q1), .second, .val (.long q2), .second, .val (.long q3), .second, .val (.int (3 : Int32)), .val (.ref b80), .val (.ref b82), .val (.ref b_119), .val (.int (1 : Int32))] [(.long q3), (.double (FP.ddiv (FP.i2d ((kk q3) * (hh q3))) (FP.i2d (hh q3))))])
    obtain ⟨_, T131, L131, X131, hQ131, st131⟩ := wStatic X129 hx hZ (y := (⟨"com/example/stockwire/stockwire/SideBySideRatiosPinLaw", "k", "(J)I"⟩ : MethodName)) hown (hw _ (List.mem_of_getElem? (i := 5) rfl)) (hw _ (List.mem_of_getElem? (i := 6) rfl)) (hw _ (List.mem_of_getElem? (i := 7) rfl)) (hw _ (List.mem_of_getElem? (i := 8) rfl)) (by decide) (kk_b_c l Z az hw [] q3 T118.heap n0 (Nat.le_trans (Nat.le_trans (Nat.le_trans (Nat.le_trans (Nat.le_trans (Nat.le_trans (Nat.le_trans (Nat.le_trans (Nat.le_trans Z0 E80.1) E82.1) (Keep.of_wr W88).1) (Keep.of_wr W93).1) (Keep.of_wr W99).1) (Keep.of_wr W104).1) (Keep.of_wr W110).1) (Keep.of_wr W115).1) Kq118.1)) 2 (by decide) (by decide) (g := (mkF m 211 #[.val (.int p0), .val (.long q1), .second, .val (.long q2), .second, .val (.long q3), .second, .val (.int (3 : Int32)), .val (.ref b80), .val (.ref b82), .val (.ref b_119), .val (.int (1 : Int32))] [(.long q3), (.double (FP.ddiv (FP.i2d ((kk q3) * (hh q3))) (FP.i2d (hh q3))))])) rfl (by rw [hml]; rfl) (argsL := [(.long q3)]) (rest := [(.double (FP.ddiv (FP.i2d ((kk q3) * (hh q3))) (FP.i2d (hh q3))))]) (lenOf pd__J_I rfl) rfl (by show 2 * 0 + _ ≤ _; exact Nat.le_of_eq rfl) (hb hby at_211) rfl eq129 (by decide) (by decide)
    obtain ⟨rfl, N131q, eq131⟩ := hQ131
    have N131 := Fr.app N129 N131q
    refine ogo st131 ?_
    show OWay p e below G T131 (mkF m 214 #[.val (.int p0), .val (.long q1), .second, .val (.long q2), .second, .val (.long q3), .second, .val (.int (3 : Int32)), .val (.ref b80), .val (.ref b82), .val (.ref b_119), .val (.int (1 : Int32))] [(.int (kk q3)), (.double (FP.ddiv (FP.i2d ((kk q3) * (hh q3))) (FP.i2d (hh q3))))])
    refine ogo (fun _ z_ => XS.i2dS X131.here hx rfl (hb hby at_214) rfl rfl z_) ?_
    show OWay p e below G T131 (mkF m 215 #[.val (.int p0), .val (.long q1), .second, .val (.long q2), .second, .val (.long q3), .second, .val (.int (3 : Int32)), .val (.ref b80), .val (.ref b82), .val (.ref b_119), .val (.int (1 : Int32))] [(.double (FP.i2d (kk q3))), (.double (FP.ddiv (FP.i2d ((kk q3) * (hh q3))) (FP.i2d (hh q3))))])
    refine ogo (fun _ z_ => XS.dcmpS X131.here hx rfl (hb hby at_215) rfl rfl z_) ?_
    show OWay p e below G T131 (mkF m 216 #[.val (.int p0), .val (.long q1), .second, .val (.long q2), .second, .val (.long q3), .second, .val (.int (3 : Int32)), .val (.ref b80), .val (.ref b82), .val (.ref b_119), .val (.int (1 : Int32))] [(.int (cmpValue (FP.dcmp (FP.ddiv (FP.i2d ((kk q3) * (hh q3))) (FP.i2d (hh q3))) (FP.i2d (kk q3))) .l))])
    refine ogo (fun _ z_ => XS.ifNo X131.here hx rfl (hb hby at_216) rfl ((if0 _ _).trans (teq (own_r q3)).2) z_) ?_
    show OWay p e below G T131 (mkF m 219 #[.val (.int p0), .val (.long q1), .second, .val (.long q2), .second, .val (.long q3), .second, .val (.int (3 : Int32)), .val (.ref b80), .val (.ref b82), .val (.ref b_119), .val (.int (1 : Int32))] [])
    refine ogo (fun _ z_ => XS.iconst X131.here hx rfl (hb hby at_219) z_) ?_
    show OWay p e below G T131 (mkF m 220 #[.val (.int p0), .val (.long q1), .second, .val (.long q2), .second, .val (.long q3), .second, .val (.int (3 : Int32)), .val (.ref b80), .val (.ref b82), .val (.ref b_119), .val (.int (1 : Int32))] [(.int (1 : Int32))])
    refine ogo (fun _ z_ => XS.goto X131.here hx rfl (pc0 := 220) (pc' := 224) rfl (hb hby at_220) (by decide) (by decide) z_) ?_
    show OWay p e below G T131 (mkF m 224 #[.val (.int p0), .val (.long q1), .second, .val (.long q2), .second, .val (.long q3), .second, .val (.int (3 : Int32)), .val (.ref b80), .val (.ref b82), .val (.ref b_119), .val (.int (1 : Int32))] [(.int (1 : Int32))])
    refine ogo (fun _ z_ => XS.istore X131.here hx rfl (hb hby at_224) rfl (l' := #[.val (.int p0), .val (.long q1), .second, .val (.long q2), .second, .val (.long q3), .second, .val (.int (3 : Int32)), .val (.ref b80), .val (.ref b82), .val (.ref b_119), .val (.int (1 : Int32))]) rfl z_) ?_
    show OWay p e below G T131 (mkF m 226 #[.val (.int p0), .val (.long q1), .second, .val (.long q2), .second, .val (.long q3), .second, .val (.int (3 : Int32)), .val (.ref b80), .val (.ref b82), .val (.ref b_119), .val (.int (1 : Int32))] [])
    refine ogo (fun _ z_ => XS.iload X131.here hx rfl (hb hby at_226) rfl z_) ?_
    show OWay p e below G T131 (mkF m 228 #[.val (.int p0), .val (.long q1), .second, .val (.long q2), .second, .val (.long q3), .second, .val (.int (3 : Int32)), .val (.ref b80), .val (.ref b82), .val (.ref b_119), .val (.int (1 : Int32))] [(.int (1 : Int32))])
    subst hG
    refine wRetN X131 hx (t := .boolean) hret hlk (by simp) (hb hby at_228) (by decide) (by decide) eq131 ?_
    exact ⟨rfl, N131⟩
set_option maxRecDepth 65536 in
set_option maxHeartbeats 40000000 in
theorem comes_1 {Post : Tables → Env → Array Value → State → Outcome → State → Prop} (hpost : ∀ tb e args s v u, (limb_1_1.after args s (.returned v) u = true ∧ limb_1_2.after args s (.returned v) u = true ∧ True) → FrameEnd s (.returned v) u (Jvm.fieldLocs frame_1_writes args s ++ Jvm.arrayLocs frame_1_arrays args s ++ Jvm.staticLocs frame_1_statics s) 16 128 → Post tb e args s (.returned v) u) :
    ArmFor flags0 classFile x code maxLocals ret World_1 tables_1 room_1 Calls_1 rest_1 Pre_1 Post := by
  intro l hfl _ _ p e ha hc hk s m args below hf hA hF happ hP
  obtain ⟨hcalls, hrest, hpre⟩ := hP
  obtain ⟨-, -, -, hnamed, -, -, -, hat⟩ := (Spec.applies_iff hf).mp happ
  obtain ⟨hg, hn⟩ := and_e (Cond.before_iff.mp (show (Jvm.Cond.and given_1 narrow_1).before args s = true from hpre))
  obtain ⟨g1, g2⟩ := and_e hg
  obtain ⟨g3, g4⟩ := and_e g2
  obtain ⟨g5, g6⟩ := and_e g4
  obtain ⟨g7, g8⟩ := and_e g6
  obtain ⟨w0, w1, w2, w3, rfl⟩ : ∃ w0 w1 w2 w3 : Value, args = #[w0, w1, w2, w3] := by
    have hs : args.size = 4 := by simpa [Cond.value, given_1] using g1
    obtain ⟨L⟩ := args
    match L, hs with
    | [w0, w1, w2, w3], _ => exact ⟨w0, w1, w2, w3, rfl⟩
  have hw := fun d (hd : d ∈ tables_1) => atoms_spec (ws := Jvm.Cond.code x code maxLocals ret :: tables_1) hat d (List.mem_cons_of_mem _ hd)
  have hfit : Fit s := fun {y c} hc i hi => by
    obtain ⟨ha, rfl⟩ := Array.getElem?_eq_some_iff.mp hc
    have q := List.all_eq_true.mp ((Array.all_eq_true_iff_forall_mem.mp hF) _ (Array.getElem_mem ha)) i (List.mem_range.mpr hi)
    simpa [Array.getElem?_eq_getElem hi] using q
  obtain ⟨i0, ei0⟩ := is_v g3
  obtain rfl : w0 = (.int i0) := Option.some.inj ei0
  obtain ⟨i1, ei1⟩ := isL_v g5
  obtain rfl : w1 = (.long i1) := Option.some.inj ei1
  obtain ⟨i2, ei2⟩ := isL_v g7
  obtain rfl : w2 = (.long i2) := Option.some.inj ei2
  obtain ⟨i3, ei3⟩ := isL_v g8
  obtain rfl : w3 = (.long i3) := Option.some.inj ei3
  obtain ⟨n, o, h1, h2, h3, _, L, rfl, ⟨rfl, N⟩, hq⟩ := law_c l s _ hw tables_1 i0 i1 i2 i3 s.heap s.heap.size (Nat.le_refl _) p e ha hc hk s m _ below hf ((Spec.applies_iff_loose hf).mp happ).1 ⟨rfl, State.Warmed39.refl s, rfl⟩ trivial
  refine ⟨n, _, h1, h2, h3, hpost _ _ _ _ _ _ ⟨Cond.after_iff.mpr rfl, Cond.after_iff.mpr (eq_i res_at (Term.int_eval (1)) rfl), trivial⟩ ⟨hq.1, hq.2.1, (hq.2.2.sift fun y hy => Or.inr (N y hy)).mono (by decide) (by decide)⟩⟩
theorem main_1_1 : Claimed_1_1 := comes_1 fun _ _ _ _ _ _ h hF => ⟨h.1, hF⟩
theorem main_1_2 : Claimed_1_2 := comes_1 fun _ _ _ _ _ _ h hF => ⟨h.2.1, hF⟩
end Jvm.Pilot.@@N@@
namespace Jvm.Pilot.@@N@@
open Jvm Jvm.ClassFile Sem Op Lib Jvm.Free Jvm.Stand Jvm.Pilot.@@N@@.Jvm.D
/-! MADE BY PROGRAM (witnessworld.py) out of the Statement's table words and the real class files: 11 classes; the members and pool entries that the words name. The judged class is class 1, her method 3. -/
namespace start1
open Jvm.ClassFile
def u (s : String) : CpInfo := .utf8 (stringToUtf16 s)
/-- a pool by its gaps: so many unusable entries, then the entry; so many at the end -/
def gap : Nat → List CpInfo → List CpInfo
  | 0, r => r
  | n + 1, r => .unusable :: gap n r
def poolList (es : List (Nat × CpInfo)) (last : Nat) : List CpInfo := es.foldr (fun e r => gap e.1 (e.2 :: r)) (gap last [])
def pool (es : List (Nat × CpInfo)) (last : Nat) : Array CpInfo := ⟨poolList es last⟩
def fileOf (pool : Array CpInfo) (this : Nat) (attrs : Array Attribute := #[]) (ms : Array MethodInfo := #[]) (fl : Nat := 33) (sup : Nat := 0) (ifs : Array Nat := #[]) (fds : Array FieldInfo := #[]) : ClassFile where
  minorVersion := 0
  majorVersion := 65
  constantPool := pool
  accessFlags := fl
  thisClass := this
  superClass := sup
  interfaces := ifs
  fields := fds
  methods := ms
  attributes := attrs
def plain (name : String) (sup : Option ClassId) : Class where
  name := name
  kind := .ordinary
  loader := none
  accessFlags := 33
  super := sup
  interfaces := #[]
  cf := none
  fields := #[]
  methods := #[]
  instanceTypes := #[]
  staticTypes := #[]
  resolved := #[]
  callSites := []
  init := .initialized
  statics := none
  mirror := none

def pool0 : Array CpInfo := pool [(5, u "<init>"), (0, u "()V"), (1, .class_ 10), (1, u "java/lang/Object")] 113

def k0m0 : Method := { name := "<init>", desc := "()V", sig := { parameters := [], returnType := none }, accessFlags := 1, code := none }
/-- java/lang/Object -/
def k0 : Class := { plain "java/lang/Object" none with
  accessFlags := 33
  interfaces := #[]
  cf := some (fileOf pool0 8 #[] #[{ accessFlags := 1, nameIndex := 5, descriptorIndex := 6, attributes := #[] }] 33 0 #[] #[])
  fields := #[]
  methods := #[k0m0]
  instanceTypes := #[]
  staticTypes := #[]
  resolved := Array.replicate 124 none
  statics := none }

def pool1 : Array CpInfo := pool [(2, .class_ 4), (1, u "java/lang/Object"), (0, u "<init>"), (0, u "()V"), (0, .integer 65535), (0, .methodref 9 10), (0, .class_ 11), (0, .nameAndType 12 13), (0, u "com/example/stockwire/stockwire/SideBySideRatiosPinLaw"), (0, u "k"), (0, u "(J)I"), (0, .methodref 9 15), (0, .nameAndType 16 13), (0, u "h"), (0, .methodref 18 19), (0, .class_ 20), (0, .nameAndType 21 22), (0, u "com/example/stockwire/stockwire/SideBySide"), (0, u "ratios"), (0, u "([D[D)[D"), (2, u "law"), (0, u "(IJJJ)Z")] 5

def k1m0 : Method := { name := "<init>", desc := "()V", sig := { parameters := [], returnType := none }, accessFlags := 2, code := none }
def k1c1 : Code := { maxStack := 3, maxLocals := 2, code := method_2_code, exceptionTable := #[], attributes := #[] }
def k1m1 : Method := { name := "k", desc := "(J)I", sig := { parameters := [.long], returnType := some .int }, accessFlags := 10, code := some k1c1 }
def k1c2 : Code := { maxStack := 2, maxLocals := 2, code := method_3_code, exceptionTable := #[], attributes := #[] }
def k1m2 : Method := { name := "h", desc := "(J)I", sig := { parameters := [.long], returnType := some .int }, accessFlags := 10, code := some k1c2 }
def k1c3 : Code := { maxStack := 5, maxLocals := 12, code := code, exceptionTable := #[], attributes := #[] }
def k1m3 : Method := { name := "law", desc := "(IJJJ)Z", sig := { parameters := [.int, .long, .long, .long], returnType := some .boolean }, accessFlags := 9, code := some k1c3 }
/-- com/example/stockwire/stockwire/SideBySideRatiosPinLaw -/
def k1 : Class := { plain "com/example/stockwire/stockwire/SideBySideRatiosPinLaw" (some 0) with
  accessFlags := 49
  interfaces := #[]
  cf := some (fileOf pool1 9 #[] #[{ accessFlags := 2, nameIndex := 5, descriptorIndex := 6, attributes := #[] }, { accessFlags := 10, nameIndex := 12, descriptorIndex := 13, attributes := #[] }, { accessFlags := 10, nameIndex := 16, descriptorIndex := 13, attributes := #[] }, { accessFlags := 9, nameIndex := 25, descriptorIndex := 26, attributes := #[] }] 49 2 #[] #[])
  fields := #[]
  methods := #[k1m0, k1m1, k1m2, k1m3]
  instanceTypes := #[]
  staticTypes := #[]
  resolved := Array.replicate 32 none
  statics := none }

def pool2 : Array CpInfo := pool [(2, .class_ 4), (1, u "java/lang/Object"), (0, u "<init>"), (0, u "()V"), (15, .class_ 24), (1, u "com/example/stockwire/stockwire/SideBySide"), (0, u "ratios"), (0, u "([D[D)[D")] 55

def k2m0 : Method := { name := "<init>", desc := "()V", sig := { parameters := [], returnType := none }, accessFlags := 2, code := none }
def k2c1 : Code := { maxStack := 6, maxLocals := 4, code := prog_9_method_2_code, exceptionTable := #[], attributes := #[] }
def k2m1 : Method := { name := "ratios", desc := "([D[D)[D", sig := { parameters := [(.array .double), (.array .double)], returnType := some (.array .double) }, accessFlags := 9, code := some k2c1 }
/-- com/example/stockwire/stockwire/SideBySide -/
def k2 : Class := { plain "com/example/stockwire/stockwire/SideBySide" (some 0) with
  accessFlags := 49
  interfaces := #[]
  cf := some (fileOf pool2 22 #[] #[{ accessFlags := 2, nameIndex := 5, descriptorIndex := 6, attributes := #[] }, { accessFlags := 9, nameIndex := 25, descriptorIndex := 26, attributes := #[] }] 49 2 #[] #[])
  fields := #[]
  methods := #[k2m0, k2m1]
  instanceTypes := #[]
  staticTypes := #[]
  resolved := Array.replicate 82 none
  statics := none }

def pool3 : Array CpInfo := pool [(1, u "java/lang/Cloneable"), (0, .class_ 1), (0, u "java/lang/Object"), (0, .class_ 3)] 3

/-- java/lang/Cloneable -/
def k3 : Class := { plain "java/lang/Cloneable" (some 0) with
  accessFlags := 1537
  interfaces := #[]
  cf := some (fileOf pool3 2 #[] #[] 1537 4 #[] #[])
  fields := #[]
  methods := #[]
  instanceTypes := #[]
  staticTypes := #[]
  resolved := Array.replicate 8 none
  statics := none }

def pool4 : Array CpInfo := pool [(1, u "java/io/Serializable"), (0, .class_ 1), (0, u "java/lang/Object"), (0, .class_ 3)] 3

/-- java/io/Serializable -/
def k4 : Class := { plain "java/io/Serializable" (some 0) with
  accessFlags := 1537
  interfaces := #[]
  cf := some (fileOf pool4 2 #[] #[] 1537 4 #[] #[])
  fields := #[]
  methods := #[]
  instanceTypes := #[]
  staticTypes := #[]
  resolved := Array.replicate 8 none
  statics := none }

/-- the primitive byte -/
def k5 : Class := { plain "byte" none with kind := .primitive 'B', accessFlags := 0x411 }
/-- [B -/
def k6 : Class := { plain "[B" (some 0) with kind := .array 5 .byte, interfaces := #[3, 4], accessFlags := 1041 }

/-- the primitive double -/
def k7 : Class := { plain "double" none with kind := .primitive 'D', accessFlags := 0x411 }
/-- [D -/
def k8 : Class := { plain "[D" (some 0) with kind := .array 7 .double, interfaces := #[3, 4], accessFlags := 1041 }

/-- the primitive int -/
def k9 : Class := { plain "int" none with kind := .primitive 'I', accessFlags := 0x411 }
/-- [I -/
def k10 : Class := { plain "[I" (some 0) with kind := .array 9 .int, interfaces := #[3, 4], accessFlags := 1041 }

def heap : Heap := #[]
def classes : Array Class := #[k0, k1, k2, k3, k4, k5, k6, k7, k8, k9, k10]
def interned : List (Array UInt16 × Addr) := []
def slotsUsed : Nat := 0
def theMethod : MethodId := ⟨1, 3⟩
def args0 : Array Value := #[.int 2, .long 5, .long 6, .long 7]
def aboutOver (below : List Frame) : State where
  vm := { classes := classes, interned := interned.toArray }
  heap := heap
  slotsUsed := slotsUsed
  threads := #[{ frames := .invoking theMethod args0 :: below }]
def below0 : List Frame := [.native { method := ⟨0, 0⟩, args := #[] }]
def about1 : State := aboutOver below0
def p0 : Program := .bare "" "" ""
def e0 : Env := launch0.env 0 0 0
theorem w_frames : about1.frames = Frame.invoking theMethod args0 :: below0 := rfl
set_option maxRecDepth 65536 in
theorem w_args : argsFit about1.vm theMethod args0 = true := by decide +kernel
set_option maxRecDepth 65536 in
theorem w_heap : heapFits about1 = true := by decide +kernel
set_option maxRecDepth 65536 in
theorem w_runnable : about1.curStatus? = some .runnable := by decide +kernel
set_option maxRecDepth 65536 in
theorem w_alone : about1.alone = true := by decide +kernel
set_option maxRecDepth 65536 in
theorem w_named : about1.methodNamed? x = some theMethod := by decide +kernel
set_option maxRecDepth 65536 in
theorem w_hears : about1.hears theMethod below0 = true := by decide +kernel
set_option maxRecDepth 65536 in
theorem w_ripe : about1.ripe theMethod args0 below0 = true := by decide +kernel
theorem w_running : about1.status = .running := rfl
set_option maxRecDepth 65536 in
theorem w_room : about1.hasRoom e0.platform room_1 = true :=
  launch0.hasRoom_least _ room_1 (by decide +kernel) (by decide +kernel) (by decide +kernel) (by decide +kernel) (by decide +kernel) (by decide +kernel)
theorem allAtoms_all (ts : List Jvm.Cond) (a : Array Jvm.Value) (st : Jvm.State) : (allAtoms ts).before a st = ts.all (fun c => c.before a st) := by
  induction ts with
  | nil => rfl
  | cons c t ih =>
    show (Jvm.Cond.and c (allAtoms t)).before a st = _
    rw [Jvm.Cond.before_and, ih, List.all_cons]
def words1 : List Jvm.Cond := Jvm.Cond.code x code maxLocals ret :: tables_1
/-- a 'code' word, met by the world's own term for the bytes: nothing is compared byte by byte -/
theorem code_word {y : MethodName} {bytes : ByteArray} {mx : Nat} {rt : Option FieldType} {a : Array Value} {s : State} {m : MethodId} {meth : Method} {c : Code} (h1 : s.methodNamed? y = some m) (h2 : s.vm.method? m = some meth) (h3 : meth.code = some c) (h4 : c.code = bytes)
    (h5 : (c.maxLocals == mx && c.exceptionTable.isEmpty && decide (c.maxStack ≤ mostOperands) && decide (meth.sig.returnType = rt) && !meth.locks && decide (parseMethodDescriptor y.desc = some meth.sig)) = true) : (Jvm.Cond.code y bytes mx rt).before a s = true := by
  simp only [Bool.and_eq_true, beq_iff_eq, Bool.not_eq_true', decide_eq_true_eq] at h5
  obtain ⟨⟨⟨⟨⟨g1, g2⟩, g3⟩, g4⟩, g5⟩, g6⟩ := h5
  simp [Cond.before, Cond.holds, Cond.value, h1, h2, h3, h4, g1, g2, g3, g4, g5, g6]
def isCode : Jvm.Cond → Bool
  | .code _ _ _ _ => true
  | _ => false
theorem all_split {L : List Jvm.Cond} {P : Jvm.Cond → Bool} (h1 : L.all (fun c => isCode c || P c) = true) (h2 : ∀ c ∈ L.filter isCode, P c = true) : L.all P = true := by
  refine List.all_eq_true.mpr fun c hc => ?_
  have h := List.all_eq_true.mp h1 c hc
  rcases Bool.eq_false_or_eq_true (isCode c) with hi | hi
  · exact h2 c (List.mem_filter.mpr ⟨hc, hi⟩)
  · simpa [hi] using h
set_option maxRecDepth 65536 in
theorem w_c0 : (Jvm.Cond.code x code maxLocals ret).before args0 about1 = true := code_word (m := ⟨1, 3⟩) (meth := k1m3) (c := k1c3) (by decide +kernel) rfl rfl rfl (by decide +kernel)
set_option maxRecDepth 65536 in
theorem w_c1 : (Jvm.Cond.code ({ cls := "com/example/stockwire/stockwire/SideBySide", name := "ratios", desc := "([D[D)[D" } : Jvm.MethodName) prog_9_method_2_code (4 : Nat) (Option.some (Jvm.ClassFile.FieldType.array Jvm.ClassFile.FieldType.double))).before args0 about1 = true := code_word (m := ⟨2, 1⟩) (meth := k2m1) (c := k2c1) (by decide +kernel) rfl rfl rfl (by decide +kernel)
set_option maxRecDepth 65536 in
theorem w_c2 : (Jvm.Cond.code ({ cls := "com/example/stockwire/stockwire/SideBySideRatiosPinLaw", name := "k", desc := "(J)I" } : Jvm.MethodName) method_2_code (2 : Nat) (Option.some Jvm.ClassFile.FieldType.int)).before args0 about1 = true := code_word (m := ⟨1, 1⟩) (meth := k1m1) (c := k1c1) (by decide +kernel) rfl rfl rfl (by decide +kernel)
set_option maxRecDepth 65536 in
theorem w_c3 : (Jvm.Cond.code ({ cls := "com/example/stockwire/stockwire/SideBySideRatiosPinLaw", name := "h", desc := "(J)I" } : Jvm.MethodName) method_3_code (2 : Nat) (Option.some Jvm.ClassFile.FieldType.int)).before args0 about1 = true := code_word (m := ⟨1, 2⟩) (meth := k1m2) (c := k1c2) (by decide +kernel) rfl rfl rfl (by decide +kernel)
def codes1 : List Jvm.Cond := [Jvm.Cond.code x code maxLocals ret, Jvm.Cond.code ({ cls := "com/example/stockwire/stockwire/SideBySide", name := "ratios", desc := "([D[D)[D" } : Jvm.MethodName) prog_9_method_2_code (4 : Nat) (Option.some (Jvm.ClassFile.FieldType.array Jvm.ClassFile.FieldType.double)), Jvm.Cond.code ({ cls := "com/example/stockwire/stockwire/SideBySideRatiosPinLaw", name := "k", desc := "(J)I" } : Jvm.MethodName) method_2_code (2 : Nat) (Option.some Jvm.ClassFile.FieldType.int), Jvm.Cond.code ({ cls := "com/example/stockwire/stockwire/SideBySideRatiosPinLaw", name := "h", desc := "(J)I" } : Jvm.MethodName) method_3_code (2 : Nat) (Option.some Jvm.ClassFile.FieldType.int)]
set_option maxRecDepth 65536 in
theorem codes_eq : words1.filter isCode = codes1 := rfl
theorem w_codes : ∀ c ∈ words1.filter isCode, c.before args0 about1 = true := by
  rw [codes_eq]
  intro c hc
  simp only [codes1, List.mem_cons, List.not_mem_nil, or_false] at hc
  rcases hc with rfl | rfl | rfl | rfl
  · exact w_c0
  · exact w_c1
  · exact w_c2
  · exact w_c3
set_option maxRecDepth 65536 in
theorem w_t1 : words1.all (fun c => isCode c || c.before args0 about1) = true := by decide +kernel
theorem w_tables : (allAtoms (Jvm.Cond.code x code maxLocals ret :: tables_1)).before args0 about1 = true := by
  rw [allAtoms_all]
  show words1.all (fun c => c.before args0 about1) = true
  refine all_split ?_ w_codes
  rw [w_t1]
set_option maxRecDepth 65536 in
theorem w_case : (Jvm.Cond.and given_1 narrow_1).before args0 about1 = true := by decide +kernel
theorem w_applies : (headSpec (Jvm.Cond.code x code maxLocals ret :: tables_1) room_1).applies x e0.platform about1 = true :=
  (Spec.applies_iff w_frames).mpr ⟨w_running, w_runnable, w_alone, w_named, w_hears, w_ripe, w_room, w_tables⟩
theorem atStart : AtStart classFile x code maxLocals ret World_1 tables_1 room_1 Calls_1 rest_1 Pre_1 launch0 p0 e0 about1 theMethod args0 below0 :=
  ⟨lists_1, trivial, launch0.admits_env _ _ _, launch0.least_env, fairChoices_fair.cas, fairChoices_fair.clock, w_frames, w_args, w_heap, w_applies, trivial, trivial, w_case⟩
end start1
theorem witness_1 : WitnessClaimed_1 := ⟨start1.p0, start1.e0, start1.about1, start1.theMethod, start1.args0, start1.below0, start1.atStart⟩
end Jvm.Pilot.@@N@@
