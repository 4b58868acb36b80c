/- Plain facts on the float64 of a whole number from 1 to 2^40. No conditions. -/
import Derived.Laws.FloatArith
namespace Go.Proofs.YtgaaehpmbkjhlaaGreatDoor.Fl
open Go

/-- The bits of 'float64(n)'. -/
def fb (n : Nat) : Nat := floatOfInt .f64 (n : Int)

theorem log2_le {n : Nat} (h0 : 1 ≤ n) (h : n ≤ 1099511627776) : n.log2 ≤ 40 := by
  have : n.log2 < 41 := (Nat.log2_lt (by omega)).2 (by omega)
  omega

theorem sig_lo {n : Nat} (h0 : 1 ≤ n) (hk : n.log2 ≤ 40) : 4503599627370496 ≤ n <<< (52 - n.log2) ∧ n <<< (52 - n.log2) < 9007199254740992 := by
  have h1 : 2 ^ n.log2 ≤ n := Nat.log2_self_le (by omega)
  have h2 : n < 2 ^ (n.log2 + 1) := Nat.lt_log2_self
  have p2 : (2 : Nat) ^ 52 = 4503599627370496 := by decide
  have p3 : (2 : Nat) ^ 53 = 9007199254740992 := by decide
  rw [Nat.shiftLeft_eq, ← p2, ← p3]
  constructor
  · calc 2 ^ 52 = 2 ^ n.log2 * 2 ^ (52 - n.log2) := by rw [← Nat.pow_add]; congr 1; omega
      _ ≤ n * 2 ^ (52 - n.log2) := Nat.mul_le_mul_right _ h1
  · calc n * 2 ^ (52 - n.log2) < 2 ^ (n.log2 + 1) * 2 ^ (52 - n.log2) := Nat.mul_lt_mul_of_pos_right h2 (Nat.two_pow_pos _)
      _ = 2 ^ 53 := by rw [← Nat.pow_add]; congr 1; omega

theorem least : Ieee.double.leastPlace = -1074 := by decide
theorem binade : Ieee.double.binade = 4503599627370496 := by decide
theorem infRung : Ieee.double.infRung = 9218868437227405312 := by decide
theorem signW : Ieee.double.signWeight = 9223372036854775808 := by decide

theorem cut_zero (neg : Bool) (n : Nat) : Ieee.Toward.even.cut neg n 0 = n := by
  simp [Ieee.Toward.cut, Nat.mod_one]

/-- The bits of a whole number written out. -/
theorem write_eq {n : Nat} (h0 : 1 ≤ n) (h : n ≤ 1099511627776) :
    Ieee.double.write (.number false n 0) = (n.log2 + 1022) * 4503599627370496 + n <<< (52 - n.log2) := by
  have hk := log2_le h0 h
  obtain ⟨hl, hu⟩ := sig_lo h0 hk
  have hn : n ≠ 0 := by omega
  have hfb : Ieee.double.fractionBits = 52 := rfl
  simp only [Ieee.Format.write, Ieee.Format.nearest, if_neg hn, least, binade, infRung, hfb]
  have hlast : max ((0 : Int) + (n.log2 : Int) - ((52 : Nat) : Int)) (-1074) = (n.log2 : Int) - 52 := by omega
  rw [hlast]
  have e1 : ((n.log2 : Int) - 52 - 0).toNat = 0 := by omega
  have e2 : ((0 : Int) - ((n.log2 : Int) - 52)).toNat = 52 - n.log2 := by omega
  have e3 : ((n.log2 : Int) - 52 - -1074).toNat = n.log2 + 1022 := by omega
  rw [e1, e2, e3, cut_zero]
  simp only [Ieee.Format.word]
  rw [if_neg (by decide)]
  exact Nat.min_eq_left (by omega)

theorem read_eq {n : Nat} (h0 : 1 ≤ n) (h : n ≤ 1099511627776) :
    Ieee.double.read (Ieee.double.write (.number false n 0)) = .number false (n <<< (52 - n.log2)) ((n.log2 : Int) - 52) := by
  have hk := log2_le h0 h
  obtain ⟨hl, hu⟩ := sig_lo h0 hk
  rw [write_eq h0 h]
  generalize n <<< (52 - n.log2) = N at hl hu
  generalize n.log2 = k at hk
  have w1 : (k + 1022) * 4503599627370496 + N < 9223372036854775808 := by omega
  have e1 : ((k + 1022) * 4503599627370496 + N) / 9223372036854775808 = 0 := by omega
  have e2 : ((k + 1022) * 4503599627370496 + N) % 9223372036854775808 = (k + 1022) * 4503599627370496 + N := by omega
  have e3 : ((k + 1022) * 4503599627370496 + N) / 4503599627370496 = k + 1023 := by omega
  have e4 : ((k + 1022) * 4503599627370496 + N) % 4503599627370496 = N - 4503599627370496 := by omega
  have hn1 : ¬ (k + 1022) * 4503599627370496 + N < 4503599627370496 := by omega
  have hn2 : (k + 1022) * 4503599627370496 + N < 9218868437227405312 := by omega
  obtain ⟨R, hR⟩ : ∃ R, R = (k + 1022) * 4503599627370496 + N := ⟨_, rfl⟩
  rw [← hR] at e1 e2 e3 e4 hn1 hn2 ⊢
  unfold Ieee.Format.read
  simp only [least, binade, infRung, signW, e1, e2, e3, e4]
  rw [if_neg hn1, if_pos hn2]
  have a1 : 4503599627370496 + (N - 4503599627370496) = N := by omega
  have a2 : (-1074 : Int) + ((k + 1023 - 1 : Nat) : Int) = (k : Int) - 52 := by omega
  rw [a1, a2]; rfl

theorem fb_def (n : Nat) : fb n = Ieee.double.write (.number false n 0) := by
  unfold fb floatOfInt FloatKind.nearest FloatKind.encode
  have : decide (((n : Nat) : Int) < 0) = false := by simp
  rw [this]; rfl

theorem fb_lt {n : Nat} (h0 : 1 ≤ n) (h : n ≤ 1099511627776) : fb n < 9223372036854775808 ∧ 0 < fb n := by
  have hk := log2_le h0 h
  obtain ⟨hl, hu⟩ := sig_lo h0 hk
  rw [fb_def, write_eq h0 h]
  omega

theorem decode_fb {n : Nat} (h0 : 1 ≤ n) (h : n ≤ 1099511627776) :
    FloatKind.f64.decode (fb n) = .number false (n <<< (52 - n.log2)) ((n.log2 : Int) - 52) := by
  rw [fb_def]; exact read_eq h0 h

theorem zcut {n : Nat} (h0 : 1 ≤ n) (h : n ≤ 1099511627776) : Ieee.Toward.zero.cut false (n <<< (52 - n.log2)) (52 - n.log2) = n := by
  have hk := log2_le h0 h
  have h2 : n <<< (52 - n.log2) ≠ 0 := by
    have := (sig_lo h0 hk).1
    omega
  have hlog : 52 ≤ (n <<< (52 - n.log2)).log2 := by
    have p2 : (2 : Nat) ^ 52 = 4503599627370496 := by decide
    rw [Nat.le_log2 h2, p2]; exact (sig_lo h0 hk).1
  simp only [Ieee.Toward.cut]
  rw [Nat.min_eq_left (by omega)]
  simp only [Bool.toNat_false, Nat.add_zero, Nat.shiftLeft_eq, Nat.one_mul]
  exact Nat.mul_div_cancel _ (Nat.two_pow_pos _)

theorem integral_fb {n : Nat} (h0 : 1 ≤ n) (h : n ≤ 1099511627776) : (FloatKind.f64.decode (fb n)).integral .zero = .number false n 0 := by
  have hk := log2_le h0 h
  rw [decode_fb h0 h]
  simp only [Ieee.Datum.integral]
  have e1 : ((n.log2 : Int) - 52).toNat = 0 := by omega
  have e2 : (-((n.log2 : Int) - 52)).toNat = 52 - n.log2 := by omega
  rw [e1, e2, Nat.shiftLeft_zero, zcut h0 h]

/-- Trunc(float64(n)) is float64(n). -/
theorem trunc_fb {n : Nat} (h0 : 1 ≤ n) (h : n ≤ 1099511627776) :
    FloatKind.f64.encode ((FloatKind.f64.decode (fb n)).integral .zero) = fb n := by
  rw [integral_fb h0 h, fb_def]; rfl

/-- int64(float64(n)) is n. -/
theorem toInt_fb {n : Nat} (h0 : 1 ≤ n) (h : n ≤ 1099511627776) : floatToIntVal .f64 (fb n) .i64 = some (n : Int) := by
  unfold floatToIntVal Ieee.Datum.toInt
  rw [integral_fb h0 h]
  have es : Ieee.signed false n 0 = (n : Int) := rfl
  simp only [es]
  have : IntKind.i64.min ≤ (n : Int) ∧ (n : Int) ≤ IntKind.i64.max := by
    have a : IntKind.i64.min = -9223372036854775808 := by decide
    have b : IntKind.i64.max = 9223372036854775807 := by decide
    rw [a, b]; omega
  rw [if_pos this]

/-- f - f is +0. -/
theorem sub_fb {n : Nat} (h0 : 1 ≤ n) (h : n ≤ 1099511627776) : floatBits .sub .f64 (fb n) (fb n) = some 0 := by
  have hd := decode_fb h0 h
  unfold FloatKind.decode at hd
  unfold floatBits Ieee.Format.sub
  have ht : ∀ X k : Nat, Ieee.signed false X k + Ieee.signed (!false) X k = 0 := by intro X k; simp [Ieee.signed]; omega
  simp only [hd, Ieee.Datum.opposite, Ieee.Datum.sum, ht]
  rfl

/-- The comparison with nought. -/
theorem order_fb {n : Nat} (h0 : 1 ≤ n) (h : n ≤ 1099511627776) : (FloatKind.f64.format.order (fb n) 0 == some .eq) = false := by
  have hd := decode_fb h0 h
  have hk := log2_le h0 h
  have hs := (sig_lo h0 hk).1
  unfold FloatKind.decode at hd
  have hz : FloatKind.f64.format.read 0 = .number false 0 (-1074) := by decide
  unfold Ieee.Format.order
  rw [hd, hz]
  simp only [Ieee.Datum.order, Ieee.signed]
  have e1 : ((n.log2 : Int) - 52 - min ((n.log2 : Int) - 52) (-1074)).toNat = n.log2 + 1022 := by omega
  rw [e1]
  have hpos : 0 < n <<< (52 - n.log2) <<< (n.log2 + 1022) := by
    rw [Nat.shiftLeft_eq _ (n.log2 + 1022)]
    exact Nat.mul_pos (by omega) (Nat.two_pow_pos _)
  generalize n <<< (52 - n.log2) <<< (n.log2 + 1022) = X at hpos
  rw [Nat.zero_shiftLeft]
  have : ∀ c : Ordering, c ≠ .eq → (some c == some Ordering.eq) = false := by intro c hc; cases c <;> first | rfl | exact absurd rfl hc
  refine this _ ?_
  intro hc
  simp [compare, compareOfLessAndEq] at hc
  have hx : ¬ ((X : Int) < 0) := by omega
  simp [hx] at hc
  omega

/-- 0 * 1e9 is +0, and int64 of it 0. -/
theorem mul_zero {m : Nat} {e : Int} (b : Nat) (h : FloatKind.f64.decode b = .number false m e) : floatBits .mul .f64 0 b = some 0 := by
  unfold FloatKind.decode at h
  have hz : FloatKind.f64.format.read 0 = .number false 0 (-1074) := by decide
  unfold floatBits Ieee.Format.mul
  simp only [h, hz, Ieee.Datum.product]
  simp [Ieee.Format.write, Ieee.Format.nearest]
  rfl
theorem toInt_zero : floatToIntVal .f64 0 .i64 = some 0 := by decide
end Go.Proofs.YtgaaehpmbkjhlaaGreatDoor.Fl
