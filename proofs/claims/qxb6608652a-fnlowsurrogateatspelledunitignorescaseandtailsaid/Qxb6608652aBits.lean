import Derived.Laws.BitsAllLaws
import Derived.Laws.Entries
namespace Go.Proofs.Qxb6608652a.BitsP
open Go

theorem wrap_i32_small (n : Nat) (h : n < 2147483648) : IntKind.i32.wrap (n : Int) = (n : Int) := by
  simp [IntKind.wrap, IntKind.bits, IntKind.signed]; omega

theorem i32_or_nat (a b : Nat) (ha : a < 2147483648) (hb : b < 2147483648) : bits .or .i32 (a : Int) (b : Int) = ((a ||| b : Nat) : Int) := by
  have hx : a ||| b < 2 ^ 31 := Nat.or_lt_two_pow (by omega) (by omega)
  show IntKind.i32.wrap ((BitVec.ofInt 32 (a : Int) ||| BitVec.ofInt 32 (b : Int)).toNat : Int) = _
  rw [BitVec.toNat_or, ofInt_u32 a (by omega), ofInt_u32 b (by omega)]
  exact wrap_i32_small _ (by omega)

theorem i32_andNot_nat (a b : Nat) (ha : a < 2147483648) (hb : b < 2147483648) : bits .andNot .i32 (a : Int) (b : Int) = ((a &&& (4294967295 - b) : Nat) : Int) := by
  have hx : a &&& (4294967295 - b) ≤ a := Nat.and_le_left
  show IntKind.i32.wrap ((BitVec.ofInt 32 (a : Int) &&& ~~~BitVec.ofInt 32 (b : Int)).toNat : Int) = _
  rw [BitVec.toNat_and, BitVec.toNat_not, ofInt_u32 a (by omega), ofInt_u32 b (by omega)]
  have e : 2 ^ 32 - 1 - b = 4294967295 - b := by omega
  rw [e]
  exact wrap_i32_small _ (by omega)

/-- 'u<<4 | d' -/
theorem or_join (u d : Int) (h0 : 0 ≤ u) (h1 : u < 4096) (h2 : 0 ≤ d) (h3 : d < 16) : bits .or .i32 (u * 16) d = u * 16 + d := by
  obtain ⟨U, rfl⟩ := Int.eq_ofNat_of_zero_le h0
  obtain ⟨D, rfl⟩ := Int.eq_ofNat_of_zero_le h2
  have e : ((U : Int) * 16) = ((U * 16 : Nat) : Int) := by simp
  rw [e, i32_or_nat _ _ (by omega) (by omega), nat_join 4 (U * 16) D (by omega) (by omega)]
  omega

/-- 'x &^ (15 << s)' -/
theorem nat_clear (x s : Nat) (hs : s ≤ 12) (hx : x < 65536) : x &&& (4294967295 - 15 * 2 ^ s) = x / 2 ^ (s + 4) * 2 ^ (s + 4) + x % 2 ^ s := by
  have hd : 2 ^ s ∣ x / 2 ^ (s + 4) * 2 ^ (s + 4) := ⟨x / 2 ^ (s + 4) * 2 ^ 4, by rw [Nat.pow_add, Nat.mul_comm (2 ^ s) (_ * _), Nat.mul_assoc, Nat.mul_comm (2 ^ 4)]⟩
  have hp : 0 < 2 ^ s := Nat.two_pow_pos s
  have hj := nat_join s (x / 2 ^ (s + 4) * 2 ^ (s + 4)) (x % 2 ^ s) (Nat.mod_eq_zero_of_dvd hd) (Nat.mod_lt _ hp)
  rw [← hj]
  apply Nat.eq_of_testBit_eq
  intro i
  have hm : (4294967295 - 15 * 2 ^ s).testBit i = (decide (i < 32) && !((15 * 2 ^ s).testBit i)) := by
    have h15 : 15 * 2 ^ s < 2 ^ 32 := by
      have : 2 ^ s ≤ 2 ^ 12 := Nat.pow_le_pow_right (by omega) hs
      omega
    have := Nat.testBit_two_pow_sub_succ h15 i
    rw [show 2 ^ 32 - (15 * 2 ^ s + 1) = 4294967295 - 15 * 2 ^ s from by omega] at this
    exact this
  have h15 : (15 * 2 ^ s).testBit i = (decide (s ≤ i) && decide (i < s + 4)) := by
    rw [Nat.testBit_mul_two_pow, show (15 : Nat) = 2 ^ 4 - 1 from rfl, Nat.testBit_two_pow_sub_one]
    by_cases h1 : s ≤ i <;> by_cases h2 : i < s + 4 <;> simp [h1, h2] <;> omega
  rw [Nat.testBit_and, Nat.testBit_or, hm, h15, Nat.testBit_mul_two_pow, Nat.testBit_div_two_pow, Nat.testBit_mod_two_pow]
  by_cases h0 : i < 32
  · by_cases h1 : s ≤ i
    · by_cases h2 : s + 4 ≤ i
      · simp [h0, h1, h2, show ¬ i < s + 4 from by omega, show ¬ i < s from by omega]
      · simp [h0, h1, h2, show i < s + 4 from by omega, show ¬ i < s from by omega]
    · simp [h0, h1, show i < s from by omega, show ¬ s + 4 ≤ i from by omega]
  · have hb : x.testBit i = false := Nat.testBit_lt_two_pow (Nat.lt_of_lt_of_le hx (by
      have : 2 ^ 16 ≤ 2 ^ i := Nat.pow_le_pow_right (by omega) (by omega)
      omega))
    simp [show s + 4 ≤ i from by omega, hb, show i - (s + 4) + (s + 4) = i from by omega]

/-- '(x &^ (15 << s)) | (v << s)' -/
theorem put_digit (x v s : Nat) (hs : s ≤ 12) (hx : x < 65536) (hv : v < 16) :
    bits .or .i32 (bits .andNot .i32 (x : Int) ((15 * 2 ^ s : Nat) : Int)) ((v * 2 ^ s : Nat) : Int) = ((x / 2 ^ (s + 4) * 2 ^ (s + 4) + v * 2 ^ s + x % 2 ^ s : Nat) : Int) := by
  have hp : 0 < 2 ^ s := Nat.two_pow_pos s
  have hs2 : 2 ^ s ≤ 2 ^ 12 := Nat.pow_le_pow_right (by omega) hs
  have e4 : 2 ^ (s + 4) = 2 ^ s * 16 := by rw [Nat.pow_add]
  have hvs : v * 2 ^ s < 16 * 2 ^ s := Nat.mul_lt_mul_of_pos_right hv hp
  have hml := Nat.mod_lt x hp
  have hdm := Nat.div_mul_le_self x (2 ^ (s + 4))
  rw [i32_andNot_nat _ _ (by omega) (by omega), nat_clear x s hs hx, i32_or_nat _ _ (by omega) (by omega)]
  have a1 := nat_join (s + 4) (x / 2 ^ (s + 4) * 2 ^ (s + 4)) (x % 2 ^ s) (Nat.mul_mod_left _ _) (by omega)
  have a2 := nat_join s (v * 2 ^ s) (x % 2 ^ s) (Nat.mul_mod_left _ _) hml
  have a3 := nat_join (s + 4) (x / 2 ^ (s + 4) * 2 ^ (s + 4)) (v * 2 ^ s + x % 2 ^ s) (Nat.mul_mod_left _ _) (by
    have : v * 2 ^ s ≤ 15 * 2 ^ s := Nat.mul_le_mul_right _ (by omega)
    omega)
  rw [← a1, Nat.or_assoc, Nat.or_comm (x % 2 ^ s), a2, a3]
  congr 1
  omega
/-- the same over integers, at a known shift -/
theorem want (u v a m : Int) (s : Nat) (hs : s ≤ 12) (hu : 0 ≤ u ∧ u < 65536) (hv : 0 ≤ v ∧ v ≤ 15) (ha : a = ((15 * 2 ^ s : Nat) : Int)) (hm : m = ((v.toNat * 2 ^ s : Nat) : Int)) :
    ((u.toNat / 2 ^ (s + 4) * 2 ^ (s + 4) + v.toNat * 2 ^ s + u.toNat % 2 ^ s : Nat) : Int) = bits .or .i32 (bits .andNot .i32 u a) m := by
  obtain ⟨U, rfl⟩ := Int.eq_ofNat_of_zero_le hu.1
  obtain ⟨V, rfl⟩ := Int.eq_ofNat_of_zero_le hv.1
  rw [ha, hm]
  simp only [Int.toNat_natCast]
  rw [put_digit U V s hs (by omega) (by omega)]
end Go.Proofs.Qxb6608652a.BitsP
