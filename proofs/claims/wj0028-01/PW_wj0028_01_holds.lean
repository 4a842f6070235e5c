import PyProof.Rows.All
import Wide.All
import OpenK.AllK
import Wide.FinOn
import Lean
import PySem.Challenge.RW_wj0028_01

section
set_option Elab.async false
set_option linter.all false
set_option maxRecDepth 100000
namespace Mine
theorem zq1 {a b c d : Nat} (h1 : a ≤ b) (h2 : c + 16 * b < d) : c + 16 * a < d := by lia
theorem zq2 {a b c d : Nat} (h1 : a ≤ b) (h2 : c + 2 * b < d) : c + 2 * a < d := by lia
theorem zq3 {a b c : Nat} (h1 : a + 16 * (b + 1) < c) : a + 1 + 16 * b < c := by lia
theorem zq4 {a b c : Nat} (h1 : a + 2 * (b + 1) < c) : a + 2 * b < c := by lia
theorem zq5 {a b c : Nat} (h1 : a + 16 * (b + 1) < c) : a + 3 + 16 * b < c := by lia
theorem zq6 {a b c : Nat} (h1 : a + 2 * (b + 1) < c) : a + 1 + 2 * b < c := by lia
theorem zq7 {a : Nat} {b : Int} (h1 : a = Int.toNat b) : a = Int.toNat (b - 0) := by simp +arith [*] at *; done
theorem zq8 {a : Nat} : (↑a : Int) - (↑a : Int) ≤ 0 := by simp +arith [*] at *; done
theorem zq9 {a b : Nat} : (↑a : Int) - ((↑b : Int) + 1) = (↑a : Int) - (↑b : Int) - 1 := by simp +arith [*] at *; done
theorem zq10 {a : Int} {b : Nat} : a + ((↑b : Int) + 1) = a + (↑b : Int) + 1 := by simp +arith [*] at *; done
theorem zq11 {a b : Nat} (h1 : a < b) : 0 < (↑b : Int) - (↑a : Int) := by simp +arith [*] at *; done
theorem zq12 {a b : Nat} (h1 : a ≤ b) (h2 : ¬a < b) : a = b := by lia
theorem zq13 {a b : Nat} (h1 : a < b) : b + 1 - (a + 1) < b + 1 - a := by lia
theorem zq14 {a b c : Nat} (h1 : a + 2 * (b + 1) < c) : a < c := by lia
theorem zq15 {a : Int} (h1 : a ≤ 2 ^ 20) : a ≤ 16777216 := Int.le_trans h1 (by decide)
theorem zq16 {a : Int} (h1 : a ≤ 2 ^ 20) : a ≤ 1152921504606846975 := Int.le_trans h1 (by decide)
theorem zq17 {a : Int} (h1 : 0 ≤ a) (h2 : a ≤ 2 ^ 20) : -9223372036854775808 ≤ a ∧ a < 9223372036854775808 := by lia
theorem zq18 {a b : Nat} (h1 : a < 2 ^ 62) (h2 : b = a) : b < 2 ^ 62 := by subst_vars; first | rfl | assumption | simp +arith
theorem zq19 {a : Int} {b c : Nat} (h1 : a < (↑b : Int)) (h2 : c = b) : a < (↑c : Int) := by subst_vars; first | rfl | assumption | simp +arith
theorem zq20 {a : Int} {b : Nat} (h1 : 0 ≤ a) (h2 : a < (↑b : Int)) : Int.toNat a < b := by simp_all; done
theorem zq21 {a : Int} (h1 : 0 ≤ a) : ¬a < 0 := by simp_all; done
theorem zq22 {a : Int} {b : Nat} (h1 : a < (↑b : Int)) (h2 : b < 2 ^ 62) : a < 2 ^ 63 := by lia
theorem zq23 {a : Int} (h1 : 0 ≤ a) : -2 ^ 63 ≤ a := by lia
theorem zq24 {a : Nat} : Int.toNat (-1 + (↑a : Int)) = a - 1 := by lia
theorem zq25 {a b : Nat} (h1 : a = b) (h2 : 0 < b) : 0 ≤ -1 + (↑a : Int) ∧ -1 + (↑a : Int) < (↑a : Int) := by subst_vars; lia
theorem zq28 {a b : Nat} (h1 : a = b) (h2 : 0 < b) : 0 < a := by subst_vars; first | rfl | assumption | simp +arith
theorem zq29 {a : Int} (h1 : a < 2 ^ 62) : a < 2 ^ 63 := Int.lt_of_lt_of_le h1 (by decide)
theorem zq30 {a : Nat} (h1 : a < 2 ^ 62) : (↑a : Int) < 2 ^ 63 := by lia
theorem zq31 {a : Int} (h1 : 0 < a) (h2 : a < 2 ^ 20) : Int.natAbs a < 1073741824 := by omega
theorem zq32 {a : Int} (h1 : 0 < a) : 0 ≤ a := Int.le_of_lt h1
theorem zq33 {a : Int} (h1 : 0 < a) : ¬a = 0 := by lia
theorem zq34 {a b : Nat} (h1 : a < b) : Int.toNat (↑a : Int) < b := by simp +arith [*] at *; done
theorem zq35 {a b c : Nat} (h1 : a ≤ b) (h2 : c < a) : Int.toNat (↑c : Int) < b := Nat.lt_of_lt_of_le h2 h1
theorem zq36 {a b : Nat} (h1 : a ≤ b) (h2 : b < 2 ^ 20) : a < 2 ^ 62 := Nat.lt_of_le_of_lt h1 (Nat.lt_of_lt_of_le h2 (by decide))
theorem zq37 {a b : Nat} (h1 : a < b) : (↑a : Int) < (↑b : Int) := Int.ofNat_lt.mpr h1
theorem zq38 {a : Nat} : 0 ≤ (↑a : Int) := Int.natCast_nonneg _
theorem zq39 {a : Nat} (h1 : a < 2 ^ 20) : a < 2 ^ 62 := Nat.lt_of_lt_of_le h1 (by decide)
theorem zq40 {a b c : Nat} (h1 : a ≤ b) (h2 : c < a) : (↑c : Int) < (↑b : Int) := by lia
theorem zq41 {a b : Nat} (h1 : a ≤ b) (h2 : b < 2 ^ 20) : -2 ^ 62 ≤ (↑a : Int) ∧ (↑a : Int) < 2 ^ 62 := by lia
theorem zq42 {a b : Nat} (h1 : a < 4) (h2 : b = a) : b ≤ 16777216 := by subst_vars; lia
theorem zq43 {a : Nat} (h1 : ¬0 < (↑a : Int)) : ¬0 < a := by simp_all; done
theorem zq44 {a : Nat} (h1 : ¬0 < (↑a : Int)) : a ≤ 16777216 := by simp_all; done
theorem zq45 {a : Nat} (h1 : (↑a : Int) - 1 = (↑(a - 1) : Int)) : 0 < a := by omega
theorem zq46 {a : Nat} (h1 : a < 4) : a ≤ 16777216 := Nat.le_of_lt (Nat.lt_of_lt_of_le h1 (by decide))
theorem zq47 {a : Nat} (h1 : a = 4) : a < 2 ^ 62 := by simp +arith [*] at *; done
theorem zq48 {a b : Nat} (h1 : a < 4) (h2 : b = 4) : (↑(a - 1) : Int) < (↑b : Int) := by subst_vars; omega
theorem zq49 {a : Nat} : 0 ≤ (↑(a - 1) : Int) := Int.natCast_nonneg _
theorem zq50 {a : Nat} (h1 : 0 < (↑a : Int)) : (↑a : Int) - 1 = (↑(a - 1) : Int) := by lia
theorem zq51 {a b : Nat} (h1 : a = 5) (h2 : b < 4) : Int.toNat (↑b : Int) < a := by subst_vars; lia
theorem zq52 {a b : Nat} (h1 : a = 5) : Int.toNat ((↑(3 - b) : Int) + 1) < a := by simp +arith [*] at *; done
theorem zq53 {a : Nat} (h1 : a = 5) : a < 2 ^ 62 := by simp +arith [*] at *; done
theorem zq54 {a b : Nat} (h1 : a = 5) (h2 : b < 4) : (↑b : Int) < (↑a : Int) := by subst_vars; lia
theorem zq55 {a b : Nat} (h1 : a = 5) : (↑(3 - b) : Int) + 1 < (↑a : Int) := by subst_vars; omega
theorem zq56 {a : Nat} : 0 ≤ (↑(3 - a) : Int) + 1 := Int.natCast_nonneg _
theorem zq58 {a b : Nat} (h1 : a < 1000) (h2 : b < 1000) : a + b - 1 < 2 ^ 62 := by omega
theorem zq59 {a b c d e : Nat} (h1 : a < b) (h2 : c = d + e - 1) (h3 : (↑c : Int) - (↑b : Int) + (↑a : Int) = (↑(d + e - 1 - b + a) : Int)) : (↑(d + e - 1 - b + a) : Int) < (↑(d + e - 1) : Int) := by subst_vars; omega
theorem zq60 {a b c d : Nat} : 0 ≤ (↑(a + b - 1 - c + d) : Int) := Int.natCast_nonneg _
theorem zq61 {a b c : Nat} (h1 : a < 1000) (h2 : b < 1000) (h3 : c + 1 ≤ a + b) : c < 2 ^ 62 := by lia
theorem zq62 {a b c d : Nat} (h1 : a + 1 ≤ b + c) : (↑(b + c - 1) : Int) - (↑a : Int) + (↑d : Int) = (↑(b + c - 1 - a + d) : Int) := by lia
theorem zq63 {a b c : Nat} (h1 : a < 1000) (h2 : b < 1000) (h3 : c + 1 ≤ a + b) : -2 ^ 62 ≤ (↑c : Int) ∧ (↑c : Int) < 2 ^ 62 := by lia
theorem zq64 {a b c d : Nat} (h1 : a < b) (h2 : c < d) : (↑a : Int) + (↑c : Int) < (↑(b + d - 1) : Int) := by lia
theorem zq65 {a b : Nat} : 0 ≤ (↑a : Int) + (↑b : Int) := Int.natCast_nonneg _
theorem zq66 {a : Nat} (h1 : a < 1000) : a < 2 ^ 62 := Nat.lt_of_lt_of_le h1 (by decide)
theorem zq67 {a : Nat} (h1 : a < 1000) : -2 ^ 62 ≤ (↑a : Int) ∧ (↑a : Int) < 2 ^ 62 := by lia
theorem zq68 {a b : Nat} : Int.toNat ((↑a : Int) + (↑b : Int) - 1) = a + b - 1 := by omega
theorem zq69 {a b : Nat} (h1 : a < 1000) (h2 : b < 1000) : (↑a : Int) + (↑b : Int) - 1 ≤ 2 ^ 20 := by lia
theorem zq70 {a b : Nat} (h1 : 1 ≤ a) : 0 ≤ (↑b : Int) + (↑a : Int) - 1 := by lia
theorem zq71 {a : Int} {b : Nat} (h1 : a < 1000) (h2 : b < Int.toNat a) : b ≤ 16777215 := by lia
theorem zq72 {a : Int} (h1 : 0 ≤ a) (h2 : a < 1000) : -2 ^ 62 ≤ a ∧ a < 2 ^ 62 := by lia
theorem zq73 {a : Int} : a % 4 < 4 := by lia
theorem zq74 {a : Int} : 0 ≤ a % 4 := by lia
theorem zq75 {a b : Nat} (h1 : a < b) : ¬b ≤ a := Nat.not_le_of_lt h1
theorem zq76 {a b c : Nat} (h1 : a ≤ b) : min c a ≤ b := by lia
theorem zq77 {a b c : Nat} (h1 : a + (b + 1) = c) : a + 1 + b = c := by subst_vars; first | rfl | assumption | simp +arith
theorem zq78 {a b c : Nat} (h1 : a + (b + 1) = c) : a < c := by subst_vars; first | rfl | assumption | simp +arith
theorem zq79 {a b c : Nat} (h1 : a ≤ b) : a ≤ b + c := Nat.le_add_right_of_le h1
theorem zq80 {a b : Nat} (h1 : a ≤ b) (h2 : b - a = b) : a = 0 := by lia
theorem zq81 {a b c d : Nat} (h1 : a ≤ b) : min (c - d) (a - d) ≤ b := by lia
theorem zq82 {a b : Nat} (h1 : min (a - 0) (b - 0) = b) : b ≤ a - 0 := by lia
theorem zq83 {a b c : Nat} (h1 : min (a - b) (c - b) = c) (h2 : 0 < c) : b = 0 := by lia
theorem zq84 {a b c : Nat} : min a b - min c b = min (a - c) (b - c) := by
  by_cases h : b ≤ c
  · rw [Nat.min_eq_right h, Nat.sub_eq_zero_of_le (Nat.min_le_right a b), Nat.sub_eq_zero_of_le h, Nat.min_zero]
  · rw [Nat.min_eq_left (Nat.le_of_not_le h), Nat.sub_min_sub_right]
theorem zq85 {a b : Nat} : min a b ≤ b := by lia
theorem zq86 {a b c : Nat} (h1 : a ≤ b) : min a c ≤ min b c := by lia
theorem zq87 {a b c : Nat} (h1 : a ≤ b) : a ≤ b - c + c := by omega
theorem zq88 {a : Nat} : max 0 (min (↑a : Int) (↑a : Int)) = (↑a : Int) := by simp +arith [*] at *; done
theorem zq89 {a : Nat} : ¬(↑a : Int) < 0 := by simp_all; done
theorem zq90 {a b : Nat} : max 0 (min (↑a : Int) (↑b : Int)) = max 0 (min (↑(min a b) : Int) (↑b : Int)) := by lia
theorem zq91 {a b : Nat} : ¬(↑(min a b) : Int) < 0 := by simp_all; done
theorem zq92 {a : Int} {b : Nat} (h1 : Int.toNat a < b) : a < (↑b : Int) := by lia
theorem zq93 {a : Int} (h1 : a < 2 ^ 62) : ¬2 ^ 63 ≤ a := by lia
theorem zq94 {a : Int} (h1 : 0 ≤ a) : ¬a < -2 ^ 63 := by lia
theorem zq95 {a : Nat} (h1 : a ≤ 1000000) : 1 + a ≤ 16777216 := by lia
theorem zq96 {a : Nat} (h1 : 65 ≤ a ∧ a ≤ 80) : a < 128 := by lia
theorem zq97 {a b : Nat} (h1 : a ≤ 1000000) (h2 : b = a) : b ≤ 16777216 := by subst_vars; lia
theorem zq98 {a : Nat} : 65 + a % 16 < 256 := by lia
theorem zq99 {a : Nat} (h1 : ¬a = 0) : a / 16 < a := Nat.div_lt_self (Nat.pos_of_ne_zero h1) (by decide)
theorem zq100 {a b c : Nat} (h1 : a ≤ 1000000) (h2 : b + (0 + 1) + c = a) : 1 + c ≤ 16777216 := by subst_vars; lia
theorem zq101 {a : Nat} : (↑(a % 16) : Int) + 1 = (↑(a % 16 + 1) : Int) := by subst_vars; first | rfl | assumption | simp +arith
theorem zq102 {a : Nat} : (↑a : Int) % 16 = (↑(a % 16) : Int) := by subst_vars; first | rfl | assumption | simp +arith
theorem zq103 {a : Nat} : (↑a : Int) / 16 = (↑(a / 16) : Int) := by subst_vars; first | rfl | assumption | simp +arith
theorem zq104 {a : Nat} : 16 * (↑(a / 16) : Int) + (↑(65 + a % 16) : Int) - 65 = (↑a : Int) := by lia
theorem zq105 {a b : Nat} (h1 : a = 65 + b % 16) : 65 ≤ a ∧ a ≤ 80 := by subst_vars; lia
theorem zq106 {a b : Nat} (h1 : a < 2 ^ b * 2) : a / 16 < 2 ^ b := by lia
theorem zq107 {a : Int} (h1 : ¬a < 0) : 0 + (↑(Int.natAbs a) : Int) = a := by lia
theorem zq108 {a : Int} (h1 : a < 0) : 0 - (↑(Int.natAbs a) : Int) = a := by omega
theorem zq109 {a : Nat} (h1 : a ≤ 1000000 + 1) : a ≤ 16777216 := Nat.le_trans h1 (by decide)
theorem zq110 {a b : Nat} (h1 : a + 1 ≤ b) : a ≤ b := Nat.le_of_lt h1
theorem zq111 {a b c d : Nat} (h1 : a < 1000) (h2 : b ≤ a) (h3 : c = d) (h4 : d ≤ b - 1) : c < 2 ^ 62 := by subst_vars; omega
theorem zq112 {a b c d e : Nat} (h1 : a < 1000) (h2 : b ≤ a) (h3 : c < b - 1) (h4 : d = e) (h5 : e ≤ c) : d ≤ 16777216 := by subst_vars; omega
theorem zq113 {a b : Nat} (h1 : a < b - 1) : a + 1 < b := by omega
theorem zq114 {a b c : Nat} (h1 : a < 1000) (h2 : b ≤ a) (h3 : c < b - 1) : 1 + (↑c : Int) < 2 ^ 62 := by omega
theorem zq115 {a : Nat} : 0 ≤ 1 + (↑a : Int) := Int.natCast_nonneg _
theorem zq116 {a b : Nat} (h1 : a < b - 1) : a < b := by omega
theorem zq117 {a b c : Nat} (h1 : a < 1000) (h2 : b ≤ a) (h3 : c < b - 1) : 1 + (↑c : Int) - 1 < 2 ^ 62 := by omega
theorem zq118 {a : Nat} : 0 ≤ 1 + (↑a : Int) - 1 := by simp +arith [*] at *; done
theorem zq119 {a : Nat} : Int.toNat (1 + (↑a : Int)) = a + 1 := Nat.add_comm _ _
theorem zq120 {a : Nat} : Int.toNat (1 + (↑a : Int) - 1) = a := by simp +arith [*] at *; done
theorem zq121 {a : Nat} : a - 1 = Int.toNat ((↑a : Int) - 1) := by simp_all; done
theorem zq122 {a b : Nat} (h1 : a < 1000) (h2 : b ≤ a) : -2 ^ 62 ≤ (↑b : Int) ∧ (↑b : Int) < 2 ^ 62 := by lia
theorem zq123 {a b : Nat} (h1 : a < 1000) (h2 : b ≤ a) : b < 2 ^ 62 := Nat.lt_of_le_of_lt h2 (Nat.lt_of_lt_of_le h1 (by decide))
theorem zq124 {a : Int} : 256 + a < 256 ↔ a < 0 := by simp +arith [*] at *; done
theorem zq125 {a b c : Nat} (h1 : a < 1000) (h2 : b < a) (h3 : c ≤ b) : c ≤ 16777216 := by lia
theorem zq126 {a : Int} (h1 : ¬256 + a < 256) (h2 : ¬256 - a < 256) : a = 0 := by lia
theorem zq127 {a : Int} (h1 : 256 - a < 256) : ¬a = 0 := by lia
theorem zq128 {a : Int} (h1 : 256 + a < 256) : ¬a = 0 := by lia
theorem zq129 {a b : Nat} (h1 : a ≤ b) : a + 1 ≤ b + 1 := Nat.lt_succ_of_le h1
theorem zq130 {a b : Nat} (h1 : a ≤ b) : a + 0 ≤ b + 1 := Nat.le_succ_of_le h1
theorem zq131 {a b : Nat} (h1 : a ≤ b) : a ≤ b + 1 := Nat.le_succ_of_le h1
theorem zq132 {a b : Nat} (h1 : a ≤ b) : a ≤ b := by omega
theorem zq133 {a b c d : Nat} (h1 : a ≤ b * 20003) (h2 : b < 100) (h3 : c ≤ 10000) (h4 : d ≤ 2 * c + 2) : a + d + (0 + 1) ≤ 16777216 := by lia
theorem zq134 {a b : Nat} : ((↑a : Int) / 3 + (↑b : Int)) % 4 < 2 ^ 62 := by lia
theorem zq135 {a b : Nat} : 0 ≤ ((↑a : Int) / 3 + (↑b : Int)) % 4 := Int.natCast_nonneg _
theorem zq136 {a b : Nat} : (a / 3 + b) % 4 < 4 := by lia
theorem zq137 {a b : Nat} : Int.toNat (((↑a : Int) / 3 + (↑b : Int)) % 4) = (a / 3 + b) % 4 := Int.toNat_natCast _
theorem zq138 {a b c d : Nat} (h1 : a ≤ b * 20003) (h2 : b < 100) (h3 : c ≤ 10000) (h4 : d ≤ 2 * c + 2) : a + d ≤ 16777216 := by lia
theorem zq139 {a : Nat} (h1 : a ≤ 10000) : a * 2 ≤ 16777216 := by lia
theorem zq140 {a b : Nat} (h1 : a ≤ 10000) : min b a ≤ 16777216 := by lia
theorem zq141 {a : Nat} (h1 : a < 100) : (↑a : Int) < 2 ^ 62 := by lia
theorem zq142 {a : Nat} (h1 : ¬a = 1) : ¬(↑a : Int) = 1 := by lia
theorem zq143 {a b c : Nat} (h1 : a ≤ b * 20003) (h2 : b < 100) (h3 : c ≤ 10000) : a + (0 + 1 + c + (0 + 1)) ≤ 16777216 := by lia
theorem zq144 {a : Nat} (h1 : a ≤ 10000) : 0 + 1 + a + (0 + 1) ≤ 16777216 := by lia
theorem zq145 {a : Nat} (h1 : a ≤ 10000) : 1 + a ≤ 16777216 := by lia
theorem zq146 {a b c : Nat} (h1 : a ≤ b * 20003) (h2 : b < 100) (h3 : c ≤ 10000) : a + c ≤ 16777216 := by lia
theorem zq147 {a b : Nat} : ((↑a : Int) + (↑b : Int)) % 3 = (↑((a + b) % 3) : Int) := by subst_vars; first | rfl | assumption | simp +arith
theorem zq148 {a b : Nat} (h1 : a ≤ 100) (h2 : b < a) : b < 100 := Nat.lt_of_lt_of_le h2 h1
theorem zq149 {a b : Nat} (h1 : a = b) : b = Int.toNat (↑a : Int) := h1.symm
theorem zq150 {a b : Nat} (h1 : a ≤ 100) (h2 : b = a) : -2 ^ 62 ≤ (↑b : Int) ∧ (↑b : Int) < 2 ^ 62 := by subst_vars; lia
theorem zq151 {a b : Nat} (h1 : a ≤ 100) (h2 : b = a) : b < 2 ^ 62 := by subst_vars; lia
theorem zq152 {a b : Nat} (h1 : a * b ≤ 16777216) : a * b + a * 0 ≤ 16777216 := by omega
theorem zq153 {a b c d : Nat} (h1 : a ≤ b * 20003) (h2 : c ≤ 2 * d + 2) (h3 : d ≤ 10000) : a + c + 1 ≤ (b + 1) * 20003 := by lia
theorem zq154 {a b : Nat} (h1 : ¬a < b) : b ≤ a := Nat.le_of_not_lt h1
theorem zq155 {a b : Nat} (h1 : a = 2 * b) : a ≤ 2 * b + 2 := by subst_vars; first | rfl | assumption | simp +arith
theorem zq156 {a : Nat} : 2 + 2 * a = 2 * (a + 1) := Nat.add_comm _ _
theorem zq157 {a : Nat} : a ≤ 2 * a := by simp +arith [*] at *; done
theorem zq158 {a : Nat} : a ≤ 2 * a + 2 := by simp +arith [*] at *; done
theorem zq160 {a : Nat} (h1 : a ≤ 1) : a < 2 ^ 62 := Nat.lt_of_le_of_lt h1 (by decide)
theorem zq161 {a : Nat} (h1 : a ≤ 1000000) : a ≤ 16777216 := Nat.le_trans h1 (by decide)
theorem zq162 {a : Nat} : a ≤ a + 1 := Nat.le_succ _
theorem zq163 {a b : Nat} : min 1 (a - b) ≤ 1 := by lia
theorem zq164 {a : Nat} (h1 : a < 1000) : a ≤ 16777215 := Nat.le_of_lt (Nat.lt_of_lt_of_le h1 (by decide))
theorem zq165 {a : Nat} (h1 : a < 2 ^ 62) : ¬2 ^ 63 ≤ (↑a : Int) := by lia
theorem zq166 {a : Nat} : 1 + ((↑a : Int) + 1) = 1 + (↑a : Int) + 1 := by subst_vars; first | rfl | assumption | simp +arith
theorem zq167 {a : Nat} (h1 : a < 1000) : a + 1 < 4611686018427387904 := Nat.lt_of_le_of_lt h1 (by decide)
theorem zq168 {a : Nat} (h1 : a < 1000) : a ≤ 16777216 := Nat.le_of_lt (Nat.lt_of_lt_of_le h1 (by decide))
theorem zq169 {a b : Nat} (h1 : a + (b + 1) ≤ 10000) : a ≤ 16777215 := by lia
theorem zq170 {a b c : Nat} (h1 : a + 1 ≤ 10000) (h2 : a + 1 = b + (c + 1)) : b + (c + 1) ≤ 10000 := h2 ▸ h1
theorem zq171 {a b : Nat} (h1 : a + b ≤ 10000) : a ≤ 16777215 := by lia
theorem zq172 {a b : Nat} (h1 : a ≤ b) : ¬b < a := Nat.not_lt_of_le h1
theorem zq173 {a b c : Nat} (h1 : a = b) (h2 : c < b) : c < a := by subst_vars; first | rfl | assumption | simp +arith
theorem zq174 {a : Nat} : 1400 * (a + 1) + 1300 + 3 ≤ 1400 * (a + 1 + 1) := by simp +arith [*] at *; done
theorem zq175 {a b : Nat} (h1 : a + 1 ≤ 4) (h2 : b ≤ a + 1) : b ≤ 7 := by lia
theorem zq176 {a : Nat} (h1 : a + 1 ≤ 4) : a ≤ 4 := Nat.le_of_lt h1
theorem zq177 {a : Nat} (h1 : a + 1 ≤ 4) : a < 4 := by subst_vars; first | rfl | assumption | simp +arith
theorem zq178 {a b : Nat} : min (a + 1) (b + 1) ≤ b + 1 := by lia
theorem zq179 {a b c : Nat} (h1 : ¬a - b < c) : c ≤ a - b := Nat.le_of_not_lt h1
theorem zq180 {a b : Nat} (h1 : a ≤ 4) (h2 : b < a) : 200 + 210 * (b + 1) + 3 ≤ 1300 := by lia
theorem zq181 {a : Nat} (h1 : a < 4) : a ≤ 7 := Nat.le_of_lt (Nat.lt_of_lt_of_le h1 (by decide))
theorem zq182 {a : Nat} : a ≤ a := Nat.le_refl _
theorem zq183 {a : Nat} (h1 : a < 4) : a ≤ 4 := Nat.le_of_lt h1
theorem zq184 {a : Nat} : 200 + 210 * (a + 1) + 3 ≤ 210 * (a + 1 + 1) := by simp +arith [*] at *; done
theorem zq185 {a b : Nat} (h1 : a < 4) (h2 : b < a) : b < 4 := Nat.lt_trans h2 h1
theorem zq187 {a b : Nat} : 2 ^ (a + b) * 2 ^ 3 = 8 * 2 ^ (a + b) := by simp +arith [*] at *; done
theorem zq188 {a : Int} {b c d : Nat} {e f : Int} (h1 : Int.natAbs a ≤ b * 2 ^ (c + d)) (h2 : Int.natAbs (e * f) ≤ 2 ^ (c + d)) : Int.natAbs (a + e * f) ≤ b * 2 ^ (c + d) + 2 ^ (c + d) := Nat.le_trans (Int.natAbs_add_le _ _) (Nat.add_le_add h1 h2)
theorem zq189 {a b : Nat} (h1 : a + 1 ≤ b) : a < b := by subst_vars; first | rfl | assumption | simp +arith
theorem zq190 {a : Int} {b : Nat} (h1 : Int.natAbs a < 2 ^ b) : Int.natAbs (-a) < 2 ^ b := by simp_all; done
theorem zq191 {a b c : Nat} (h1 : ¬a < b - c) : b ≤ c + a := by simp_all +arith; done
theorem zq192 {a b c : Nat} (h1 : ¬a < b - c) : b - c ≤ a := Nat.le_of_not_lt h1
theorem zq193 {a b c : Nat} (h1 : a < b - c) : c + a < b := by omega
theorem zq194 {a b c d : Nat} (h1 : a = b) (h2 : a < c) (h3 : c ≤ b ∧ b < c + (d - c)) : False := by subst_vars; lia
theorem zq195 {a b c : Nat} (h1 : a ≤ b ∧ b < a + (c - a)) : b < c := by omega
theorem zq196 {a b c : Nat} (h1 : a ≤ b) (h2 : c < a) : c < b := Nat.lt_of_lt_of_le h2 h1
theorem zq197 {a : Int} {b : Nat} : Int.toNat (max 0 (min a (↑b : Int))) ≤ b := by lia
theorem zq198 {a : Int} {b : Nat} : min (Int.toNat (max 0 (min a (↑b : Int)))) b = Int.toNat (max 0 (min a (↑b : Int))) := by lia
theorem zq199 {a : Nat} : a + 1 + 1 ≤ a + 2 := Nat.lt_succ_self _
theorem zq200 {a b : Nat} (h1 : a < b + 2) : a < b + 1 + 1 := by omega
theorem zq201 {a b c : Nat} (h1 : a < 4) (h2 : b = min c (a + 1 + 1)) : b ≤ 16777216 := by subst_vars; lia
theorem zq202 {a : Nat} (h1 : a < 4) : 1400 * (a + 1) ≤ 60000000 := by lia
theorem zq203 {a b c : Nat} (h1 : a < 4) (h2 : b ≤ c + 1 ∧ b ≤ a + 1) : b < 2 ^ 20 := by lia
theorem zq204 {a b c d e : Nat} (h1 : a < 4) (h2 : b ≤ c + 1 ∧ b ≤ a + 1) (h3 : d = min e b) : d ≤ 16777216 := by subst_vars; lia
theorem zq205 {a b : Nat} : Int.toNat (0 + (↑a : Int) - (0 + (↑b : Int))) = a - b := by simp_all; done
theorem zq206 {a : Nat} (h1 : a < 4) : a + 2 < 2 ^ 62 := by lia
theorem zq207 {a b c : Nat} (h1 : a < b + 2) : 0 + (↑a : Int) - (0 + (↑c : Int)) < (↑(b + 2) : Int) := by lia
theorem zq208 {a b c d : Nat} (h1 : a ≤ b + 1 ∧ a ≤ c + 1) (h2 : d < a) : 0 ≤ 0 + (↑b : Int) - (0 + (↑d : Int)) := by lia
theorem zq209 {a : Nat} : a = Int.toNat ((↑a : Int) - 0) := by subst_vars; first | rfl | assumption | simp +arith
theorem zq210 {a b c : Nat} (h1 : a < 4) (h2 : b ≤ c + 1 ∧ b ≤ a + 1) : -2 ^ 62 ≤ (↑b : Int) ∧ (↑b : Int) < 2 ^ 62 := by lia
theorem zq211 {a b c : Nat} (h1 : a < 4) (h2 : b ≤ c + 1 ∧ b ≤ a + 1) : b < 2 ^ 62 := by lia
theorem zq212 {a b : Nat} (h1 : a < 4) (h2 : b < a + 2) : 0 + (↑b : Int) < 2 ^ 62 := by lia
theorem zq213 {a : Nat} : 0 ≤ 0 + (↑a : Int) := Int.natCast_nonneg _
theorem zq214 {a : Nat} : Int.toNat (0 + (↑a : Int)) = a := Nat.add_comm _ _
theorem zq215 {a b : Nat} : min (a + 1) (b + 1) ≤ a + 1 ∧ min (a + 1) (b + 1) ≤ b + 1 := by lia
theorem zq216 {a b : Nat} (h1 : a < b + 2) : a < b + 2 := by omega
theorem zq217 {a b c : Nat} (h1 : a = b + 2) (h2 : c < b + 2) : c < a := by subst_vars; first | rfl | assumption | simp +arith
theorem zq218 {a : Nat} : a + 2 = Int.toNat ((↑a : Int) + 2 - 0) := Int.toNat_natCast _
theorem zq219 {a : Nat} (h1 : a < 4) : -2 ^ 62 ≤ (↑a : Int) + 2 ∧ (↑a : Int) + 2 < 2 ^ 62 := by lia
theorem zq220 {a b c : Nat} (h1 : a < 4) (h2 : b < a + 2) (h3 : c = b) : c ≤ 16777216 := by subst_vars; lia
theorem zq221 {a b : Nat} (h1 : a < 4) (h2 : b = a + 1) : b ≤ 1000000 := by subst_vars; lia
theorem zq222 {a : Nat} : 0 + (↑a : Int) + 1 = (↑(a + 1) : Int) := by simp +arith [*] at *; done
theorem zq223 {a b : Nat} (h1 : ¬(↑a : Int) + 1 < (↑b : Int)) : ¬a + 1 < b := by lia
theorem zq224 {a b : Nat} (h1 : (↑a : Int) + 1 < (↑b : Int)) : a + 1 < b := Int.ofNat_lt.mp h1
theorem zq225 {a b c : Nat} (h1 : a < 4) (h2 : b < a) (h3 : c = b) : c < 1000 := by subst_vars; lia
theorem zq226 {a b : Nat} (h1 : a < 4) (h2 : (↑b : Int) + 1 < (↑a : Int)) : 200 + 210 * (b + 1) + 3 ≤ 1000000 := by lia
theorem zq227 {a b : Nat} (h1 : a < 4) (h2 : (↑b : Int) + 1 < (↑a : Int)) : 210 * (b + 1) ≤ 60000000 := by lia
theorem zq228 {a b c : Nat} (h1 : a = 4) (h2 : b < 4) (h3 : c < b) : c < a := by subst_vars; lia
theorem zq229 {a b : Nat} (h1 : a < 4) (h2 : b < a) : (↑b : Int) < 2 ^ 62 := by lia
theorem zq230 {a : Nat} : a = Int.toNat (↑a : Int) := by subst_vars; first | rfl | assumption | simp +arith
theorem zq231 {a : Nat} (h1 : a < 4) : -2 ^ 62 ≤ (↑a : Int) ∧ (↑a : Int) < 2 ^ 62 := by lia
theorem zq232 {a b : Nat} (h1 : a < 4) (h2 : b < a) : b + 2 ≤ 16777216 := Nat.lt_of_le_of_lt h2 (Nat.lt_of_lt_of_le h1 (by decide))
theorem zq233 {a b : Nat} (h1 : a < 4) (h2 : b < a) : 210 * (b + 1) ≤ 60000000 := by lia
theorem zq234 {a b : Nat} (h1 : a = 4) (h2 : b < 4) : b < a := by subst_vars; first | rfl | assumption | simp +arith
theorem zq235 {a : Nat} (h1 : a < 4) : (↑a : Int) < 2 ^ 62 := by lia
theorem zq236 {a b : Nat} (h1 : a = b) : a ≤ b := Nat.le_of_eq h1
theorem zq237 {a b c d : Nat} (h1 : a < 4) (h2 : b < a) (h3 : c = min b d) : c ≤ 16777216 := by subst_vars; lia
theorem zq238 {a b c d : Nat} (h1 : a < 4) (h2 : b = a) (h3 : c = b - (d + 1)) : c < 1000 := by subst_vars; omega
theorem zq239 {a b : Nat} (h1 : a < 4) (h2 : b < a) : 210 * (b + 1) ≤ 1000000 := by lia
theorem zq241 {a : Nat} (h1 : a < 4) : (↑a : Int) < (↑4 : Int) := Int.ofNat_lt.mpr h1
theorem zq242 {a b c : Nat} (h1 : a + 16 * (b + 6) < c) : a + 64 < c := by lia
theorem zq243 {a b : Int} (h1 : ¬a < b) : min b a = b := by lia
theorem zq244 {a b : Int} (h1 : a < b) : min b a = a := by lia
theorem zq245 {a : Nat} : 0 + (↑a : Int) = (↑a : Int) + 0 := Int.zero_add _
theorem zq246 {a : Nat} : 1 + (↑a : Int) = (↑a : Int) + 1 := by simp +arith [*] at *; done
theorem zq247 {a : Nat} : 4 * 10000 ^ a ≤ 10000 * (4 * 10000 ^ a) := by simp +arith [*] at *; done
theorem zq248 {a : Nat} : 2 * 100 ^ a ≤ 100 * (2 * 100 ^ a) := by simp +arith [*] at *; done
theorem zq249 {a : Nat} (h1 : 1 ≤ a ∧ a ≤ 5) (h2 : ¬a < 5) : a = 5 := by lia
theorem zq250 {a : Int} {b c : Nat} {d : Int} (h1 : a ≤ (↑b : Int) - 1) (h2 : c = Int.toNat d + b) : d + a ≤ (↑c : Int) - 1 := by subst_vars; lia
theorem zq251 {a b : Int} {c : Nat} (h1 : Int.natAbs a * Int.natAbs b ≤ 100 * (4 * 10000 ^ c)) : Int.natAbs a * Int.natAbs b ≤ 10000 * (4 * 10000 ^ c) := by lia
theorem zq252 {a : Int} {b c d : Nat} (h1 : 1 ≤ a ∧ a ≤ 3 ∧ a + (↑b : Int) ≤ 5) (h2 : c = Int.toNat a + b) (h3 : b = 5 ∨ d + 1 ≤ b) : c = 5 ∨ d + 1 + 1 ≤ c := by subst_vars; lia
theorem zq253 {a : Int} {b c : Nat} (h1 : 1 ≤ a ∧ a ≤ 3 ∧ a + (↑b : Int) ≤ 5) (h2 : c = Int.toNat a + b) : b < c := by subst_vars; omega
theorem zq254 {a : Int} {b c : Nat} (h1 : 1 ≤ a ∧ a ≤ 3 ∧ a + (↑b : Int) ≤ 5) (h2 : c = Int.toNat a + b) : 1 ≤ c ∧ c ≤ 5 := by subst_vars; omega
theorem zq255 {a : Int} {b c d : Nat} (h1 : (Int.toNat a + 1) * (b * (2 * c)) ≤ 4 * (5 * (2 * c))) (h2 : d * c ≤ 5 * c) : 0 + (Int.toNat a + 1) * (b * (2 * c)) + d * c ≤ 100 * c := by lia
theorem zq256 {a b : Nat} (h1 : a < b) (h2 : b < 5) : a ≤ 5 := Nat.le_of_lt (Nat.lt_trans h1 h2)
theorem zq257 {a : Nat} (h1 : a < 5) : a ≤ 5 := Nat.le_of_lt h1
theorem zq258 {a : Int} {b : Nat} (h1 : 1 ≤ a ∧ a ≤ 3 ∧ a + (↑b : Int) ≤ 5) : Int.toNat a + 1 ≤ 4 := by simp +arith [*] at *; done
theorem zq259 {a : Int} {b : Nat} : Int.toNat a + 1 + b - 1 = Int.toNat a + b := by simp_all; done
theorem zq260 {a : Nat} {b c : Int} (h1 : a < 5) (h2 : min (1 + b % 3) (5 - (↑a : Int)) = c) : 1 ≤ c ∧ c ≤ 3 ∧ c + (↑a : Int) ≤ 5 := by subst_vars; lia
theorem zq261 {a : Nat} : 4 * (10000 ^ a * 10000) = 10000 * (4 * 10000 ^ a) := by simp +arith [*] at *; done
theorem zq262 {a : Nat} : 2 * (100 ^ a * 100) = 100 * (2 * 100 ^ a) := by simp +arith [*] at *; done
theorem zq263 {a : Nat} {b : Int} (h1 : a = Int.toNat (b % 3) + 1) : 0 ≤ (↑a : Int) - 1 := by subst_vars; lia
theorem zq264 {a : Nat} {b : Int} (h1 : a = Int.toNat (b % 3) + 1) : a = 5 ∨ 0 + 1 ≤ a := by subst_vars; first | rfl | assumption | simp +arith
theorem zq265 {a : Nat} {b : Int} {c : Nat} (h1 : a = Int.toNat (b % 3) + 1) : a < 5 ∨ 1 ≤ c := by subst_vars; lia
theorem zq266 {a : Nat} {b : Int} {c : Nat} (h1 : a = Int.toNat (b % 3) + 1) (h2 : c = 0) : c < a := by simp +arith [*] at *; done
theorem zq267 {a : Nat} {b : Int} (h1 : a = Int.toNat (b % 3) + 1) : 1 ≤ a ∧ a ≤ 5 := by subst_vars; lia
theorem zq268 {a : Int} {b c d : Nat} {e : Int} (h1 : Int.natAbs a ≤ b + c * d) (h2 : Int.natAbs e ≤ d) : Int.natAbs (a - e) ≤ b + (c * d + d) := Nat.le_trans (Int.natAbs_sub_le _ _) (Nat.le_trans (Nat.add_le_add h1 h2) (Nat.le_of_eq (Nat.add_assoc _ _ _)))
theorem zq269 {a b c : Nat} : a + b * c ≤ a + (b * c + c) := by simp +arith [*] at *; done
theorem zq270 {a b : Nat} : a ≤ a + 0 * b := Nat.le_add_right _ _
theorem zq271 {a b c d e : Nat} : a + b * (c * (d * e)) + c * (d * e) ≤ a + (b * (c * (d * e)) + c * (d * e)) := by simp +arith [*] at *; done
theorem zq272 {a b c d : Nat} : a ≤ a + 0 * (b * (c * d)) := Nat.le_add_right _ _
theorem zq273 {a : Int} {b c d e : Nat} {f g : Int} (h1 : Int.natAbs a ≤ b + c * (d * e)) (h2 : Int.natAbs f * Int.natAbs g ≤ d * e) (h3 : Int.natAbs (a + f * g) ≤ Int.natAbs a + Int.natAbs f * Int.natAbs g) : Int.natAbs (a + f * g) ≤ b + (c * (d * e) + d * e) := by lia
theorem zq274 {a b c d : Nat} : a + b * (c * d) ≤ a + (b * (c * d) + c * d) := by simp +arith [*] at *; done
theorem zq275 {a b c : Nat} : a ≤ a + 0 * (b * c) := Nat.le_add_right _ _
theorem zq276 {a : Nat} {b : Int} (h1 : a + 1 + 1 + 1 + 1 < 4) : Int.natAbs b ≤ 2 := by simp +arith [*] at *; done
theorem zq277 {a : Int} {b : Nat} (h1 : Int.toNat (a % 4) = b) : b < 4 := by subst_vars; lia
theorem zq278 {a : Int} : Int.natAbs (a % 3 - 1) ≤ 1 := by omega
theorem zq279 {a b c : Int} (h1 : a = b + c % 1000000) (h2 : 0 ≤ b) : 0 ≤ a := by subst_vars; lia
theorem zq280 {a : Nat} : a % 5 < 5 := by lia
theorem zq281 {a b : Int} (h1 : 0 ≤ a) : b ≤ b + a := by lia
theorem zq282 {a : Nat} {b : Int} (h1 : a + 1 + 1 + 1 + 1 < 4) : Int.natAbs b ≤ 1 := by simp +arith [*] at *; done
theorem zq283 {a b : Nat} (h1 : a = 5) (h2 : b < a) : a + (4 - b) + b = 9 := by simp_all +arith; done
theorem zq284 {a : Int} {b : Nat} {c d : Int} {e : Nat} {f g : Int} (h1 : Int.natAbs a ≤ b) (h2 : Int.natAbs (c * d) ≤ e) (h3 : Int.natAbs (f * g) ≤ e) : Int.natAbs (c * d - f * g + a) ≤ b + 2 * e := Nat.le_trans (Int.natAbs_add_le _ _) (Nat.le_trans (Nat.add_le_add (Nat.le_trans (Int.natAbs_sub_le _ _) (Nat.add_le_add h2 h3)) h1) (Nat.le_of_eq (by rw [Nat.two_mul, Nat.add_comm])))
theorem zq285 {a b : Int} {c : Nat} {d e : Int} {f : Nat} (h1 : Int.natAbs (a * b) ≤ c) (h2 : Int.natAbs (d * e) ≤ c) : Int.natAbs (a * b - d * e) ≤ f + 2 * c := Nat.le_trans (Int.natAbs_sub_le _ _) (Nat.le_trans (Nat.add_le_add h1 h2) (Nat.two_mul c ▸ Nat.le_add_left _ _))
theorem zq286 {a : Nat} (h1 : 65 ≤ a ∧ a ≤ 80) (h2 : a = 10 ∨ a = 9 ∨ a = 13 ∨ a = 32) : False := by lia
theorem zq287 {a : Nat} (h1 : 65 ≤ a ∧ a ≤ 80) : ¬a = 92 := by lia
theorem zq288 {a : Nat} (h1 : 65 ≤ a ∧ a ≤ 80) : ¬a = 34 := by lia
theorem zq289 {a b : Nat} (h1 : a + 1 ≤ b) : b - a = b - (a + 1) + 1 := by lia
theorem zq290 {a : Nat} : (↑(a % 5) : Int) < (↑5 : Int) := by lia
theorem zq291 {a : Nat} : 0 ≤ (↑(a % 5) : Int) := Int.natCast_nonneg _
theorem zq292 {a : Nat} (h1 : a ≤ 100000) : a < 2 ^ 62 := Nat.lt_of_le_of_lt h1 (by decide)
theorem zq293 {a b : Nat} (h1 : a < min 20 b) : (↑a : Int) < (↑b : Int) := by lia
theorem zq294 {a : Nat} : (↑a : Int) % 5 = (↑(a % 5) : Int) := by subst_vars; first | rfl | assumption | simp +arith
theorem zq295 {a : Nat} : min 20 a = Int.toNat (↑(min 20 a) : Int) := Int.toNat_natCast _
theorem zq296 {a : Nat} : -2 ^ 62 ≤ (↑(min 20 a) : Int) ∧ (↑(min 20 a) : Int) < 2 ^ 62 := by lia
theorem zq297 {a : Nat} : min 20 a < 2 ^ 62 := by lia
theorem zq298 {a : Nat} (h1 : a ≤ 100000) : a ≤ 1000000 := Nat.le_trans h1 (by decide)
theorem zq299 {a : Nat} (h1 : ¬(↑a : Int) < 5) : ¬a < 5 := by omega
theorem zq300 {a b c : Nat} (h1 : a < 4) (h2 : b ≤ a) (h3 : c = b) : c ≤ 16777216 := by subst_vars; lia
theorem zq301 {a : Nat} (h1 : (↑a : Int) < 5) : a < 2 ^ 62 := by lia
theorem zq302 {a : Nat} (h1 : 1 ≤ a ∧ a ≤ 5) : 0 < (↑a : Int) := by simp +arith [*] at *; done
theorem zq303 {a : Nat} (h1 : 1 ≤ a ∧ a ≤ 9) : a < 2 ^ 62 := by lia
theorem zq304 {a : Nat} (h1 : 1 ≤ a ∧ a ≤ 9) : 0 < (↑a : Int) := by simp +arith [*] at *; done
theorem zq305 {a b : Nat} {c : Int} (h1 : a < b) : a + 1 ≤ Int.toNat c + 1 + b := by lia
theorem zq306 {a : Nat} (h1 : (↑a : Int) < 5) : a < 1000 := by lia
theorem zq307 {a : Int} (h1 : 1 ≤ a ∧ a ≤ 3) : Int.toNat a + 1 < 1000 := by lia
theorem zq308 {a : Int} : 1 ≤ Int.toNat a + 1 := Nat.succ_pos _
theorem zq309 {a : Nat} (h1 : a < 4) : a + 1 ≤ 4 := by subst_vars; first | rfl | assumption | simp +arith
theorem zq310 {a : Int} (h1 : 1 ≤ a ∧ a ≤ 3) : a < 1000 := by lia
theorem zq311 {a : Int} (h1 : 1 ≤ a ∧ a ≤ 3) : 0 ≤ a := by lia
theorem zq312 {a : Nat} {b c : Int} (h1 : (↑a : Int) < 5) (h2 : min (1 + b % 3) (5 - (↑a : Int)) = c) : 1 ≤ c ∧ c ≤ 3 := by subst_vars; lia
theorem zq313 {a : Nat} {b : Int} (h1 : (↑a : Int) < 5) : 1 ≤ Int.toNat (min (1 + b % 3) (5 - (↑a : Int))) + 1 + a - 1 ∧ Int.toNat (min (1 + b % 3) (5 - (↑a : Int))) + 1 + a - 1 ≤ 9 := by lia
theorem zq314 {a : Nat} (h1 : (↑a : Int) < 5) : a < 5 := Int.ofNat_lt.mp h1
theorem zq315 {a : Nat} (h1 : 1 ≤ a ∧ a ≤ 5) : a < 2 ^ 62 := by lia
theorem zq316 {a b c : Nat} (h1 : a < 9) (h2 : b = min a c) : b ≤ 16777216 := by subst_vars; lia
theorem zq317 {a b : Nat} (h1 : 1 ≤ a ∧ a ≤ 5) (h2 : b < a) : a + (4 - b) + b ≤ 16777216 := by omega
theorem zq318 {a b : Nat} (h1 : 1 ≤ a ∧ a ≤ 5) : a + (4 - b) ≤ 16777216 := by omega
theorem zq319 {a : Nat} : Int.toNat (4 - (↑a : Int)) = 4 - a := by simp_all; done
theorem zq320 {a : Nat} : 4 - (↑a : Int) ≤ 2 ^ 20 := by lia
theorem zq321 {a b : Nat} (h1 : 1 ≤ a ∧ a ≤ 5) (h2 : b < a) : 0 ≤ 4 - (↑b : Int) := by lia
theorem zq322 {a b : Nat} (h1 : 1 ≤ a ∧ a ≤ 5) (h2 : b < a) : b < 2 ^ 62 := by lia
theorem zq323 {a : Nat} : 9 - (a + 1) = 8 - a := by simp +arith [*] at *; done
theorem zq324 {a b c : Nat} (h1 : a = min b c) (h2 : 9 - (8 - b + 1) = b) : a ≤ 16777216 := by subst_vars; omega
theorem zq325 {a : Nat} (h1 : a < 9) : 9 - (8 - a + 1) = a := by omega
theorem zq326 {a : Nat} (h1 : a < 9) : 9 - a = 8 - a + 1 := by lia
theorem zq327 {a b c : Int} (h1 : a ≤ 4) (h2 : a = b + c) : b + c - 1 < (↑4 : Int) := by simp_all +arith; done
theorem zq328 {a : Nat} {b : Int} (h1 : a + 1 + 1 + 1 + 1 < 4) : Int.natAbs b < 2 ^ 2 := by simp +arith [*] at *; done
theorem zq329 {a : Int} (h1 : 1 ≤ a) : 0 ≤ a := Int.le_of_lt h1
theorem zq330 {a b : Nat} (h1 : a < b) : a ≤ b := Nat.le_of_lt h1
theorem zq331 {a : Nat} (h1 : a ≤ 70) : (↑a : Int) ≤ 70 := Int.ofNat_le.mpr h1
theorem zq332 {a b : Nat} (h1 : a ≤ b) (h2 : b ≤ a) : a = b := Nat.le_antisymm h1 h2
theorem zq333 {a b c : Nat} (h1 : a < 5) (h2 : b = min a c) : b ≤ 16777216 := by subst_vars; lia
theorem zq334 {a : Nat} (h1 : a < 5) : 0 + (↑a : Int) < (↑5 : Int) := by lia
theorem zq335 {a : Nat} (h1 : ¬a % 2 = 0) : ¬(0 + (↑a : Int)) % 2 = 0 := by lia
theorem zq336 {a : Nat} (h1 : a % 2 = 0) : (0 + (↑a : Int)) % 2 = 0 := by lia
theorem zq337 {a b c : Nat} (h1 : a < 4) (h2 : b = min a c) : b ≤ 16777216 := by subst_vars; lia
theorem zq338 {a : Nat} (h1 : a < 4) : 1400 * (a + 1 + 1) ≤ 7000 := by lia
theorem zq339 {a : Nat} : Int.toNat (0 + (↑a : Int) + 1) = a + 1 := by simp +arith [*] at *; done
theorem zq340 {a : Nat} (h1 : a < 4) : 0 ≤ 0 + (↑a : Int) + 1 ∧ 0 + (↑a : Int) + 1 ≤ 1000 := by lia
theorem zq341 {a : Nat} (h1 : a < 4) : 0 + (↑a : Int) < 2 ^ 62 := by lia
theorem zq342 {a b c : Int} : a - b + (b - a + c) = c := by simp +arith [*] at *; done
theorem zq343 {a b : Int} (h1 : a + b = 0) : -a = b := by lia
theorem zq344 {a : Int} {b : Nat} (h1 : Int.natAbs a + Int.natAbs a < b) : Int.natAbs a < b := by lia
theorem zq345 {a : Int} {b : Nat} (h1 : Int.natAbs a < b) : Int.natAbs a + Int.natAbs a < 2 * b := by lia
theorem zq346 {a : Int} {b c d : Nat} (h1 : Int.natAbs a < b) (h2 : c = b + 1) (h3 : (↑d : Int) = a + (↑b : Int)) : d < (1 + 1) * c := by subst_vars; omega
theorem zq347 {a b c : Nat} {d : Int} (h1 : a = b + 1) (h2 : (↑c : Int) = d + (↑b : Int)) (h3 : ¬d < 0) (h4 : ¬d = 0) : 1 * a ≤ c := by subst_vars; lia
theorem zq348 {a b c : Nat} {d : Int} (h1 : a = b + 1) (h2 : (↑c : Int) = d + (↑b : Int)) (h3 : d = 0) : c < a := by subst_vars; lia
theorem zq349 {a : Int} {b c : Nat} (h1 : Int.natAbs a < b) (h2 : (↑c : Int) = a + (↑b : Int)) : c < (1 + 1) * b := by omega
theorem zq350 {a : Nat} {b : Int} {c : Nat} (h1 : (↑a : Int) = b + (↑c : Int)) (h2 : ¬b < 0) : 1 * c ≤ a := by lia
theorem zq351 {a b c : Nat} {d : Int} (h1 : a = b + 1) (h2 : (↑c : Int) = d + (↑b : Int)) (h3 : d < 0) : c < a := by subst_vars; lia
theorem zq352 {a : Nat} {b : Int} {c : Nat} (h1 : (↑a : Int) = b + (↑c : Int)) (h2 : b < 0) : a < c := by lia
theorem zq353 {a : Int} {b c : Nat} (h1 : Int.natAbs a < b) (h2 : 2 * b = c) : a + (↑b : Int) < (↑c : Int) := by subst_vars; omega
theorem zq354 {a : Int} {b : Nat} (h1 : Int.natAbs a < b) : 0 ≤ a + (↑b : Int) := by omega
theorem zq355 {a b : Int} (h1 : Int.natAbs (a - b) = 0) : a = b := by simp_all +arith; done
theorem zq356 {a b : Nat} (h1 : a + 1 = b) : (↑a : Int) = (↑b : Int) - 1 := by subst_vars; first | rfl | assumption | simp +arith
theorem zq357 {a : Nat} (h1 : ¬a < 4) : 4 ≤ a := Nat.le_of_not_lt h1
theorem zq358 {a : Nat} {b : Int} (h1 : a + 1 + 1 + 1 + 1 < 4) : b = 0 := by simp +arith [*] at *; done
theorem zq359 {a : Nat} {b : Int} (h1 : ¬a < Int.toNat b) : Int.toNat b + (a - Int.toNat b) = a := by simp_all; done
theorem zq360 {a b : Nat} : 1 + (↑a : Int) + (↑b : Int) = 1 + ((↑a : Int) + (↑b : Int)) := by simp +arith [*] at *; done
theorem zq361 {a b : Nat} : (↑a : Int) + (1 + (↑b : Int)) = 1 + ((↑a : Int) + (↑b : Int)) := by simp +arith [*] at *; done
theorem zq362 {a b : Nat} : 1 + (↑a : Int) + (1 + (↑b : Int)) = 2 + ((↑a : Int) + (↑b : Int)) := by simp +arith [*] at *; done
theorem zq363 {a b : Nat} : 2 + (↑a : Int) + (1 + (↑b : Int)) = 3 + ((↑a : Int) + (↑b : Int)) := by simp +arith [*] at *; done
theorem zq364 {a b : Nat} : 1 + (↑a : Int) + (2 + (↑b : Int)) = 3 + ((↑a : Int) + (↑b : Int)) := by simp +arith [*] at *; done
theorem zq365 {a : Int} {b : Nat} {c : Int} : a + 1 + (↑b : Int) = a + (1 + (↑b : Int)) ∧ c + 1 + (↑b : Int) = c + (1 + (↑b : Int)) := by simp +arith [*] at *; done
theorem zq366 {a : Int} {b c : Nat} {d : Int} : a + 1 + (↑b : Int) + (↑c : Int) = a + (↑b : Int) + (1 + (↑c : Int)) ∧ d + -1 + (↑b : Int) - (↑c : Int) = d + (↑b : Int) - (1 + (↑c : Int)) := by simp +arith [*] at *; done
theorem zq367 {a : Int} {b c : Nat} {d : Int} : a + 2 + (↑b : Int) + (↑c : Int) = a + (1 + (↑b : Int)) + (1 + (↑c : Int)) ∧ d + (↑b : Int) - (↑c : Int) = d + (1 + (↑b : Int)) - (1 + (↑c : Int)) := by simp +arith [*] at *; done
theorem zq368 {a : Int} {b c : Nat} {d : Int} : a + 3 + (↑b : Int) + (↑c : Int) = a + (2 + (↑b : Int)) + (1 + (↑c : Int)) ∧ d + 1 + (↑b : Int) - (↑c : Int) = d + (2 + (↑b : Int)) - (1 + (↑c : Int)) := by simp +arith [*] at *; done
theorem zq369 {a : Int} {b c : Nat} {d : Int} : a + 3 + (↑b : Int) + (↑c : Int) = a + (1 + (↑b : Int)) + (2 + (↑c : Int)) ∧ d + -1 + (↑b : Int) - (↑c : Int) = d + (1 + (↑b : Int)) - (2 + (↑c : Int)) := by simp +arith [*] at *; done
theorem zq370 {a b : Int} : a = a + (↑0 : Int) + (↑0 : Int) ∧ b = b + (↑0 : Int) - (↑0 : Int) := by simp +arith [*] at *; done
theorem zq371 {a b c : Nat} : a + 1 - (b + c) = a + 1 - b - c := by lia
theorem zq372 {a b c : Nat} (h1 : ¬a < b) (h2 : ¬a + 1 - b < c) (h3 : ¬a = b + c - 1) : ¬a < b + c := by lia
theorem zq373 {a : Int} (h1 : 1 ≤ a ∧ a ≤ 3) : 0 < Int.toNat a := by lia
theorem zq374 {a b : Nat} (h1 : ¬a < b) : ¬a + 1 - b = 0 := by omega
theorem zq375 {a b c : Nat} (h1 : a + 1 - b < c) : ¬a = b + c - 1 := by omega
theorem zq376 {a b c : Nat} (h1 : a + 1 - b < c) : a < b + c := by omega
theorem zq377 {a b c : Nat} (h1 : a < b) : a < b + c := Nat.le_add_right_of_le h1
theorem zq378 {a b : Nat} (h1 : a = 4) (h2 : ¬b < 4) : a ≤ b := by simp_all; done
theorem zq379 {a b c : Nat} (h1 : a + b ≤ c) : a ≤ c := by lia
theorem zq380 {a b : Nat} : (↑a : Int) + (↑b : Int) = (↑(a + b) : Int) := by subst_vars; first | rfl | assumption | simp +arith
theorem zq381 {a b c : Nat} (h1 : a = 4) (h2 : b + c - 1 < 4) : b + c - 1 < a := by subst_vars; first | rfl | assumption | simp +arith
theorem zq382 {a : Nat} (h1 : 1 ≤ (↑a : Int) ∧ (↑a : Int) ≤ 3) : 1 ≤ a ∧ a ≤ 3 := by lia
theorem zq383 {a b : Nat} {c : Int} (h1 : a = b) (h2 : (↑(Int.toNat (min (1 + c % 3) (5 - (↑a : Int)))) : Int) = min (1 + c % 3) (5 - (↑a : Int))) : Int.toNat (min (1 + c % 3) (5 - (↑a : Int))) + b ≤ 5 := by subst_vars; omega
theorem zq384 {a : Int} {b : Nat} : Int.toNat (min (1 + a % 3) (5 - (↑b : Int))) ≤ 3 := by lia
theorem zq385 {a b : Nat} {c : Int} (h1 : a = b) (h2 : b < 5) : 1 ≤ Int.toNat (min (1 + c % 3) (5 - (↑a : Int))) := by subst_vars; lia
theorem zq386 {a b : Nat} {c : Int} (h1 : a = b) (h2 : b < 5) : (↑(Int.toNat (min (1 + c % 3) (5 - (↑a : Int)))) : Int) = min (1 + c % 3) (5 - (↑a : Int)) := by subst_vars; lia
theorem zq387 {a b : Nat} (h1 : a = b) (h2 : b < 5) : a < 5 := by subst_vars; first | rfl | assumption | simp +arith
theorem zq388 {a b : Nat} (h1 : a = b) (h2 : b < 5) : ¬a = 5 := by subst_vars; lia
theorem zq389 {a : Int} : a % 3 - 1 = -1 ∨ a % 3 - 1 = 0 ∨ a % 3 - 1 = 1 := by lia
theorem zq390 {a : Nat} (h1 : a = 5) : ¬a < 5 := by subst_vars; first | rfl | assumption | simp +arith
theorem zq391 {a b c d e : Nat} (h1 : 5 * a + b = c) (h2 : 5 * d + e = c) (h3 : (↑(a + b) : Int) ≤ 4) (h4 : e ≤ 5 - 1) : (↑d : Int) - (↑e : Int) = 0 + (↑a : Int) - (↑b : Int) := by lia
theorem zq392 {a b c d e : Nat} (h1 : 5 * a + b = c) (h2 : 5 * d + e = c) (h3 : (↑(a + b) : Int) ≤ 4) (h4 : e ≤ 5 - 1) : (↑d : Int) + (↑e : Int) = 0 + (↑a : Int) + (↑b : Int) := by lia
theorem zq393 {a b : Nat} : 0 + (↑a : Int) - (↑b : Int) = (↑a : Int) - (↑b : Int) := by simp +arith [*] at *; done
theorem zq394 {a b : Nat} : 0 + (↑a : Int) + (↑b : Int) = (↑a : Int) + (↑b : Int) := by simp +arith [*] at *; done
theorem zq395 {a : Nat} (h1 : a ≤ 4) : 60 * a < 702 := by lia
theorem zq396 {a : Nat} : 35 * (a * (a + 1)) + 2 + 66 * (a + 1) + 3 ≤ 35 * (a * (a + 1) + 2 * (a + 1)) + 2 := by simp +arith [*] at *; done
theorem zq397 {a : Nat} : a * (a + 1) + 1 * (a + 1) + 1 * (a + 1) = a * (a + 1) + 2 * (a + 1) := by simp +arith [*] at *; done
theorem zq398 {a b : Nat} (h1 : a < b) : 60 + 63 * (a + 1) + 3 ≤ 66 * (b + 1) := by lia
theorem zq399 {a : Nat} : 60 ≤ 66 * (a + 1) := Nat.le_add_left _ _
theorem zq400 {a : Nat} : 1 ≤ 66 * (a + 1) := Nat.succ_pos _
theorem zq401 {a : Nat} : 60 + 63 * (a + 1) + 3 ≤ 63 * (a + 1 + 1) := by simp +arith [*] at *; done
theorem zq403 {a : Int} (h1 : ¬a < 0) (h2 : ¬a = 0) : -a < 0 := by lia
theorem zq404 {a : Int} (h1 : a = 0) : -a = 0 := by subst_vars; first | rfl | assumption | simp +arith
theorem zq405 {a : Int} (h1 : a = 0) : ¬-a < 0 := by subst_vars; first | rfl | assumption | simp +arith
theorem zq406 {a : Int} (h1 : a < 0) : ¬-a = 0 := by lia
theorem zq407 {a : Int} (h1 : a < 0) : ¬-a < 0 := by lia
theorem zq411 {a : Nat} (h1 : 1 ≤ a) (h2 : a ≤ 3) : a = 1 ∨ a = 2 ∨ a = 3 := by lia
theorem zq412 {a b c : Int} : a * b + -c = -c + a * b := by simp +arith [*] at *; done
theorem zq413 {a b c d : Int} : a * b + c * d = a * b + c * d := by subst_vars; first | rfl | assumption | simp +arith
theorem zq414 {a b c d e : Int} : a * b + c * d = a * b + c * d + e * 0 := by simp +arith [*] at *; done
theorem zq415 {a b c d e : Int} : a * b + c * d + -e = a * b + -e + c * d := by simp +arith [*] at *; done
theorem zq416 {a b c d e f : Int} : a * b + c * d + e * f = a * b + c * d + e * f := by subst_vars; first | rfl | assumption | simp +arith
theorem zq417 {a : Nat} (h1 : 1 ≤ a) (h2 : a + 3 ≤ 5) : a = 1 ∨ a = 2 := by lia
theorem zq418 {a : Nat} (h1 : 1 ≤ a) (h2 : a + 4 ≤ 5) : a = 1 := by lia
theorem zq419 {a b : Nat} : 5 * (2 + a) + (1 + b) = 5 * a + b + 11 := by simp +arith [*] at *; done
theorem zq420 {a b : Nat} : 5 * (1 + a) + (2 + b) = 5 * a + b + 7 := by simp +arith [*] at *; done
theorem zq421 {a b : Nat} : 5 * (1 + a) + (1 + b) = 5 * a + b + 6 := by simp +arith [*] at *; done
theorem zq422 {a b : Nat} : 5 * (1 + a) + (0 + b) = 5 * a + b + 5 := by simp +arith [*] at *; done
theorem zq423 {a b : Nat} : 5 * (0 + a) + (1 + b) = 5 * a + b + 1 := by simp +arith [*] at *; done
theorem zq424 {a b : Int} (h1 : 0 < a * (b * b)) (h2 : 0 ≤ -(a * (b * b))) : 0 < a := by omega
theorem zq425 {a : Int} (h1 : 0 < a * a) : -(a * a) ≤ 0 := by lia
theorem zq426 {a : Int} (h1 : ¬0 < a) : a ≤ 0 := by simp_all; done
theorem zq427 {a : Int} (h1 : 1 ≤ a) : 0 < Int.toNat a := by lia
theorem zq428 {a b c d e : Int} : a * b + c * (b * d) + -(e * d + c * (b * d)) = a * b + -(e * d) := by simp +arith [*] at *; done
theorem zq429 {a b : Nat} (h1 : a + 2 = b) : (↑a : Int) = -2 + (↑b : Int) * 1 := by subst_vars; first | rfl | assumption | simp +arith
theorem zq430 {a b : Nat} (h1 : a + 1 = b) : (↑a : Int) = -1 + (↑b : Int) * 1 := by subst_vars; first | rfl | assumption | simp +arith
theorem zq431 {a : Int} (h1 : a = 1 ∨ a = -1 ∨ a = 2 ∨ a = -2) : ¬a = 0 := by lia
theorem zq432 {a : Int} {b : Nat} (h1 : Int.toNat (a % 3) = b) : b < 3 := by subst_vars; lia
end Mine

end

section
open PySem PySem.Spec PySem.Calls PyProof.Rows PySem.W
set_option Elab.async false
set_option linter.all false
set_option maxRecDepth 100000
namespace Mine

/-- the locals of a frame: names in order, values in order -/
noncomputable def loc : List Str → List (Option Value) → Str → Option Value
  | n :: ns, v :: vs, x => if x = n then v else loc ns vs x
  | _, _, _ => none

theorem loc_get : ∀ {ns : List Str} {vs : List (Option Value)} {i : Nat} {x : Str} {v : Option Value}, ns.Nodup → ns[i]? = some x → vs[i]? = some v → loc ns vs x = v
  | [], _, _, _, _, _, h, _ => by simp at h
  | n :: ns, [], _, _, _, _, _, h => by simp at h
  | n :: ns, v :: vs, 0, x, _, _, h1, h2 => by
    simp at h1 h2; subst h1; subst h2; simp [loc]
  | n :: ns, v :: vs, i + 1, x, w, hn, h1, h2 => by
    have hx : x ∈ ns := List.mem_of_getElem? (by simpa using h1)
    have : x ≠ n := fun e => (List.nodup_cons.mp hn).1 (e ▸ hx)
    simp only [loc, if_neg this]
    exact loc_get (List.nodup_cons.mp hn).2 (by simpa using h1) (by simpa using h2)

theorem loc_set : ∀ {ns : List Str} {vs : List (Option Value)} {i : Nat} {x : Str} {v : Option Value}, ns.Nodup → ns[i]? = some x → i < vs.length →
    (fun y => if y = x then v else loc ns vs y) = loc ns (vs.set i v)
  | [], _, _, _, _, _, h, _ => by simp at h
  | n :: ns, [], _, _, _, _, _, h => by simp at h
  | n :: ns, w :: vs, 0, x, v, _, h1, _ => by
    simp at h1; subst h1
    funext y
    simp only [List.set, loc]
    split <;> rfl
  | n :: ns, w :: vs, i + 1, x, v, hn, h1, h2 => by
    have hx : x ∈ ns := List.mem_of_getElem? (by simpa using h1)
    have hne : x ≠ n := fun e => (List.nodup_cons.mp hn).1 (e ▸ hx)
    have ih := loc_set (vs := vs) (v := v) (List.nodup_cons.mp hn).2 (by simpa using h1) (by simpa using h2)
    funext y
    have ihy := congrFun ih y
    simp only [List.set, loc]
    by_cases e1 : y = n
    · subst e1; rw [if_neg (fun e => hne e.symm), if_pos rfl, if_pos rfl]
    · rw [if_neg e1, if_neg e1]; exact ihy

theorem lookup_none_of {x : Str} : ∀ {l : List (Str × Value)}, (∀ p ∈ l, p.1 ≠ x) → l.lookup x = none
  | [], _ => rfl
  | (n, v) :: l, h => by
    rw [List.lookup_cons]
    have : (x == n) = false := beq_eq_false_iff_ne.mpr fun e => h (n, v) (.head _) e.symm
    rw [this]
    exact lookup_none_of fun p hp => h p (.tail _ hp)

/-- a frame's first binds: parameters, then nothing -/
theorem loc_binds : ∀ (ns : List Str) (as : List Value) (rest : List Str), (ns ++ rest).Nodup → ns.length = as.length →
    (fun x => (ns.zip as).reverse.lookup x) = loc (ns ++ rest) (as.map some ++ List.replicate rest.length none)
  | [], [], rest, _, _ => by
    funext x
    simp only [List.zip_nil_left, List.reverse_nil, List.lookup_nil, List.nil_append, List.map_nil]
    induction rest with
    | nil => rfl
    | cons n r ih => simp only [List.length_cons, List.replicate_succ, loc]; split <;> first | rfl | (rename_i h; exact ih (by rename_i hn; exact (List.nodup_cons.mp hn).2))
  | n :: ns, a :: as, rest, hn, hl => by
    funext x
    have ih := congrFun (loc_binds ns as rest (List.nodup_cons.mp hn).2 (by simpa using hl)) x
    simp only [List.zip_cons_cons, List.reverse_cons, List.lookup_append, List.cons_append, List.map_cons, loc]
    by_cases e : x = n
    · subst e
      rw [if_pos rfl, lookup_none_of (x := x)]
      · simp
      · intro p hp e
        have := List.of_mem_zip (List.mem_reverse.mp hp)
        exact (List.nodup_cons.mp hn).1 (List.mem_append_left _ (e ▸ this.1))
    · rw [if_neg e, ← ih]
      have : (x == n) = false := beq_eq_false_iff_ne.mpr e
      simp [List.lookup_cons, this]

/-- what an object that the call made is -/
inductive D where
  | obj (o : Obj)
  | list (vs : List Value)
  | ints (ns : List Int)
  | cell (v : Option Value)
  | fact (P : Obj → Prop)

noncomputable def D.At (h : Heap) (a : Addr) : D → Prop
  | .obj o => h.get? a = some o
  | .list vs => ∃ n, h.get? a = some (listOf vs.toArray n)
  | .ints ns => ∃ (vs : List Value) (n : Nat), h.get? a = some (listOf vs.toArray n) ∧ IntsAre vs ns
  | .cell v => ∃ o, h.get? a = some o ∧ o.data = .cell v
  | .fact P => ∃ o, h.get? a = some o ∧ P o

theorem D.At.same {h h' : Heap} {a : Addr} (e : h'.get? a = h.get? a) : ∀ {d : D}, D.At h a d → D.At h' a d
  | .obj _, x => e.trans x
  | .list _, ⟨n, ho⟩ => ⟨n, e.trans ho⟩
  | .ints _, ⟨vs, n, ho, i⟩ => ⟨vs, n, e.trans ho, i⟩
  | .cell _, ⟨o, ho, r⟩ => ⟨o, e.trans ho, r⟩
  | .fact _, ⟨o, ho, r⟩ => ⟨o, e.trans ho, r⟩
theorem D.At.some {h : Heap} {a : Addr} : ∀ {d : D}, D.At h a d → ∃ o, h.get? a = some o
  | .obj o, x => ⟨o, x⟩
  | .list _, ⟨_, ho⟩ => ⟨_, ho⟩
  | .ints _, ⟨_, _, ho, _⟩ => ⟨_, ho⟩
  | .cell _, ⟨o, ho, _⟩ => ⟨o, ho⟩
  | .fact _, ⟨o, ho, _⟩ => ⟨o, ho⟩
theorem D.At.keeps {h h' : Heap} {a : Addr} (k : h.StaysIn h') {d : D} (x : D.At h a d) : D.At h' a d := by
  obtain ⟨o, ho⟩ := x.some
  exact x.same ((k a o ho).trans ho.symm)

set_option autoImplicit false
noncomputable def Same (s s' : Shared) : Prop := s'.gens = s.gens ∧ s'.os = s.os ∧ s'.drawn = s.drawn
theorem Same.rfl {s : Shared} : Same s s := ⟨Eq.refl _, Eq.refl _, Eq.refl _⟩
theorem Same.trans {s s' s'' : Shared} (a : Same s s') (b : Same s' s'') : Same s s'' := ⟨b.1.trans a.1, b.2.1.trans a.2.1, b.2.2.trans a.2.2⟩

/-- the fixed part of a frame: the ground it was entered on, its environment, its names, the values of the global names that it reads -/
structure Fx where
  G : Heap
  env : Env
  names : List Str
  gl : List (Str × Value)
  s0 : Shared
  cl : List (Str × Addr × Bool)

structure FxOk (c : Fx) : Prop where
  kind : c.env.scope.kind = .function
  nd : c.names.Nodup
  loc : ∀ x ∈ c.names, c.env.kindOf x = some .local ∧ (x == ("__debug__" : Str)) = false
  glk : ∀ p ∈ c.gl, c.env.kindOf p.1 = some .globalImplicit ∧ (p.1 == ("__debug__" : Str)) = false
  cell : ∀ p ∈ c.cl, (c.env.kindOf p.1 = some .cell ∨ (c.env.kindOf p.1 = some .free ∧ (p.1 == ("__classdict__" : Str)) = false)) ∧ (p.1 == ("__debug__" : Str)) = false ∧ c.env.cells.lookup p.1 = some p.2.1 ∧ (p.2.2 = true → c.env.kindOf p.1 = some .cell)
  glv : ∃ mg mb, c.G.Ns c.env.globals mg ∧ c.G.Ns c.env.builtins mb ∧ ∀ p ∈ c.gl, mg p.1 = some p.2 ∨ (mg p.1 = none ∧ mb p.1 = some p.2)

/-- the state of a frame: locals, the objects that it owns, what else stays (F) -/
structure Sg (c : Fx) (F : Heap) (vals : List (Option Value)) (own : List (Addr × D)) (s : Shared) : Prop where
  ok : FxOk c
  ns : s.heap.Ns c.env.locals (loc c.names vals)
  sub : c.G.StaysIn F
  keep : F.StaysIn s.heap
  hl : F.get? c.env.locals = none
  mine : ∀ p ∈ own, D.At s.heap p.1 p.2 ∧ p.1 ≠ c.env.locals ∧ F.get? p.1 = none
  nd : (own.map (·.1)).Nodup
  same : Same c.s0 s

section
variable {c : Fx} {F : Heap} {vals : List (Option Value)} {own : List (Addr × D)} {s s' : Shared}

theorem Sg.toks (H : Sg c F vals own s) {t : Nat} : Sg c F vals own { s with toks := t } := ⟨H.ok, H.ns, H.sub, H.keep, H.hl, H.mine, H.nd, H.same⟩
/-- every step that only makes new objects -/
theorem Sg.grow (H : Sg c F vals own s) (k : s.heap.StaysIn s'.heap) (e : Same s s') : Sg c F vals own s' :=
  ⟨H.ok, H.ns.keeps k, H.sub, fun b o h => k b o (H.keep b o h), H.hl, fun p hp => ⟨(H.mine p hp).1.keeps k, (H.mine p hp).2⟩, H.nd, H.same.trans e⟩
theorem Sg.heap (H : Sg c F vals own s) {h : Heap} {t : Nat} (k : s.heap.StaysIn h) : Sg c F vals own { s with heap := h, toks := t } := H.grow k Same.rfl
theorem Sg.at (H : Sg c F vals own s) {i : Nat} {a : Addr} {d : D} (e : own[i]? = some (a, d)) : D.At s.heap a d := (H.mine _ (List.mem_of_getElem? e)).1
theorem Sg.gr (H : Sg c F vals own s) {a : Addr} {d : D} (e : D.At c.G a d) : D.At s.heap a d := e.keeps fun b o h => H.keep b o (H.sub b o h)
theorem Sg.ground (H : Sg c F vals own s) : c.G.StaysIn s.heap := fun b o h => H.keep b o (H.sub b o h)
/-- a new object is owned -/
theorem Sg.add (H : Sg c F vals own s) (H' : Sg c F vals own s') {a : Addr} {d : D} (fr : s.heap.get? a = none) (hd : D.At s'.heap a d) : Sg c F vals (own ++ [(a, d)]) s' := by
  refine ⟨H'.ok, H'.ns, H'.sub, H'.keep, H'.hl, fun p hp => ?_, ?_, H'.same⟩
  · rcases List.mem_append.mp hp with hp | hp
    · exact H'.mine p hp
    · rw [List.mem_singleton] at hp; subst hp
      refine ⟨hd, fun e => ?_, ?_⟩
      · obtain ⟨o, _, _, ho, _⟩ := H.ns
        rw [← e, fr] at ho; cases ho
      · cases q : F.get? a with
        | none => rfl
        | some o => have := H.keep a o q; rw [fr] at this; cases this
  · rw [List.map_append]
    refine List.nodup_append.mpr ⟨H'.nd, by simp, fun x hx y hy e => ?_⟩
    rw [List.map_singleton, List.mem_singleton] at hy
    obtain ⟨p, hp, rfl⟩ := List.mem_map.mp hx
    obtain ⟨o, ho⟩ := (H.mine p hp).1.some
    rw [e, hy, fr] at ho; cases ho
/-- an owned object is changed -/
theorem Sg.upd (H : Sg c F vals own s) {i : Nat} {a : Addr} {d d' : D} (e : own[i]? = some (a, d)) (hs : Heap.SameBut a s.heap s'.heap) (hd : D.At s'.heap a d') (es : Same s s') : Sg c F vals (own.set i (a, d')) s' := by
  have hm := H.mine _ (List.mem_of_getElem? e)
  have hlt : i < own.length := by
    rcases Nat.lt_or_ge i own.length with h | h
    · exact h
    · rw [List.getElem?_eq_none h] at e; cases e
  refine ⟨H.ok, H.ns.sameBut hs (Ne.symm hm.2.1), H.sub, fun b o h => ?_, H.hl, fun p hp => ?_, ?_, H.same.trans es⟩
  · refine (hs.2 b fun q => ?_).trans (H.keep b o h)
    subst q; rw [hm.2.2] at h; cases h
  · obtain ⟨j, hj⟩ := List.getElem?_of_mem hp
    by_cases hij : i = j
    · subst hij
      rw [List.getElem?_set_self hlt] at hj; cases hj
      exact ⟨hd, hm.2⟩
    · rw [List.getElem?_set_ne hij] at hj
      have hpo := H.mine p (List.mem_of_getElem? hj)
      refine ⟨hpo.1.same (hs.2 p.1 fun q => ?_), hpo.2⟩
      have h1 : (own.map (·.1))[i]? = some a := by rw [List.getElem?_map, e]; rfl
      have h2 : (own.map (·.1))[j]? = some a := by rw [List.getElem?_map, hj, ← q]; rfl
      exact hij ((List.getElem?_inj (by simpa using hlt) H.nd).mp (h1.trans h2.symm))
  · have : (own.set i (a, d')).map (·.1) = own.map (·.1) := by
      rw [List.map_set]
      apply List.ext_getElem?
      intro j
      by_cases hij : i = j
      · subst hij
        rw [List.getElem?_set_self (by simpa using hlt), List.getElem?_map, e]; rfl
      · rw [List.getElem?_set_ne hij]
    rw [this]; exact H.nd
/-- a name is bound -/
theorem Sg.bind (H : Sg c F vals own s) {i : Nat} {x : Str} {v : Option Value} {h : Heap} {t : Nat} (e : c.names[i]? = some x) (hi : i < vals.length)
    (hn : h.Ns c.env.locals (fun y => if y = x then v else loc c.names vals y)) (hs : Heap.SameBut c.env.locals s.heap h) : Sg c F (vals.set i v) own { s with heap := h, toks := t } := by
  refine ⟨H.ok, by rw [← loc_set H.ok.nd e hi]; exact hn, H.sub, fun b o q => (hs.2 b fun e' => ?_).trans (H.keep b o q), H.hl, fun p hp => ⟨(H.mine p hp).1.same (hs.2 _ (H.mine p hp).2.1), (H.mine p hp).2⟩, H.nd, H.same⟩
  subst e'; rw [H.hl] at q; cases q
end

/-- room for frames and C units, nothing being handled -/
structure Room (A : Around) (n : Nat) : Prop where
  handled : A.handled = none
  depth : A.depth + 2 * n < recursionLimit
  units : A.units + 16 * n < cLine

theorem Room.deeper {A : Around} {n : Nat} (r : Room A (n + 1)) (env : Env) : Room (A.deeper env) n := by
  obtain ⟨h, d, u⟩ := r
  refine ⟨h, ?_, ?_⟩
  · show A.depth + 1 + 2 * n < _; exact zq6 d
  · show A.units + 3 + 16 * n < _; exact zq5 u
theorem Room.in1 {A : Around} {n : Nat} (r : Room A (n + 1)) : Room A.in1 n := by
  obtain ⟨h, d, u⟩ := r
  refine ⟨h, ?_, ?_⟩
  · show A.depth + 2 * n < _; exact zq4 d
  · show A.units + 1 + 16 * n < _; exact zq3 u
theorem Room.le {A : Around} {n m : Nat} (r : Room A n) (h : m ≤ n) : Room A m := ⟨r.handled, by have := r.depth; exact zq2 h this, by have := r.units; exact zq1 h this⟩


/-- the logic's one word: from s the tree ends in Q, nothing is raised -/
structure W (prog : Program) (w : World) (A : Around) {α : Type} (t : Sem α) (Q : α → Shared → Prop) (s : Shared) : Prop where
  out : wpAny (model prog w) A t Q (fun _ _ => False) s

section
variable {prog : Program} {w : World} {A : Around} {c : Fx} {F : Heap} {vals : List (Option Value)} {own : List (Addr × D)} {s : Shared}

theorem W.mono {α : Type} {t : Sem α} {Q Q' : α → Shared → Prop} (h : W prog w A t Q s) (k : ∀ a s, Q a s → Q' a s) : W prog w A t Q' s := ⟨wpAny_mono h.out k fun _ _ x => x⟩
theorem W.any {α : Type} {t : Sem α} {Q Q' : α → Shared → Prop} {E : Value → Shared → Prop} (h : W prog w A t Q s) (k : ∀ a s, Q a s → Q' a s) : wpAny (model prog w) A t Q' E s := wpAny_mono h.out k fun _ _ x => x.elim
theorem W.pure {α : Type} {a : α} {Q : α → Shared → Prop} (h : Q a s) : W prog w A (Pure.pure a : Sem α) Q s := ⟨wpAny_pure h⟩
theorem W.bind {α β : Type} {m : Sem α} {f : α → Sem β} {Q : β → Shared → Prop} (h : W prog w A m (fun a s' => W prog w A (f a) Q s') s) : W prog w A (m >>= f) Q s :=
  ⟨wpAny_bind (wpAny_mono h.out (fun _ _ q => q.out) fun _ _ x => x)⟩
theorem W.eq {α : Type} {t t' : Sem α} {Q : α → Shared → Prop} (e : t = t') (h : W prog w A t' Q s) : W prog w A t Q s := e ▸ h

variable {Q : Value → Shared → Prop}
theorem nL (H : Sg c F vals own s) {i : Nat} {x : Str} {v : Value} {pos : Pos} (e : c.names[i]? = some x) (hv : vals[i]? = some (some v)) (h : Q v s) : W prog w A (eval (.Name x pos) c.env) Q s :=
  have k := H.ok.loc x (List.mem_of_getElem? e)
  ⟨wpAny_Name (wpAny_loadName_local H.ok.kind k.1 H.ns (loc_get H.ok.nd e hv) h) k.2⟩
theorem nG (H : Sg c F vals own s) {j : Nat} {x : Str} {v : Value} {pos : Pos} (e : c.gl[j]? = some (x, v)) (h : Q v s) : W prog w A (eval (.Name x pos) c.env) Q s := by
  have k := H.ok.glk _ (List.mem_of_getElem? e)
  obtain ⟨mg, mb, g1, g2, g3⟩ := H.ok.glv
  refine ⟨Name_function_global H.ok.kind k.1 ?_ k.2⟩
  rcases g3 _ (List.mem_of_getElem? e) with q | ⟨q1, q2⟩
  · exact loadGlobal_global (g1.keeps H.ground) q h
  · exact loadGlobal_builtin (g1.keeps H.ground) q1 (g2.keeps H.ground) q2 h
theorem kI {i : Int} {k : Nat} {pos : Pos} (H : Sg c F vals own s) (h : ∀ t s', Sg c F vals own s' → Q (.int i t) s') : W prog w A (eval (.Constant (.int i) k pos) c.env) Q s :=
  ⟨wpAny_Constant_int (h _ _ H.toks)⟩
theorem kS {x : Str} {k : Nat} {pos : Pos} (H : Sg c F vals own s) (h : ∀ t s', Sg c F vals own s' → Q (.str x t) s') : W prog w A (eval (.Constant (.str x) k pos) c.env) Q s :=
  ⟨Constant_str (h _ _ H.toks)⟩
theorem kY {x : List UInt8} {k : Nat} {pos : Pos} (H : Sg c F vals own s) (h : ∀ t s', Sg c F vals own s' → Q (.bytes x.toArray t) s') : W prog w A (eval (.Constant (.bytes x) k pos) c.env) Q s :=
  ⟨fun _ _ _ => h _ _ H.toks⟩
theorem kB {b : Bool} {k : Nat} {pos : Pos} (h : Q (.bool b) s) : W prog w A (eval (.Constant (.bool b) k pos) c.env) Q s := ⟨fun _ _ _ => h⟩
theorem ldN {Q : Value → Shared → Prop} (H : Sg c F vals own s) {i : Nat} {x : Str} {v : Value} (e : c.names[i]? = some x) (hv : vals[i]? = some (some v)) (h : Q v s) : W prog w A (loadName c.env x) Q s :=
  have k := H.ok.loc x (List.mem_of_getElem? e)
  ⟨wpAny_loadName_local H.ok.kind k.1 H.ns (loc_get H.ok.nd e hv) h⟩
theorem stL {Q : Unit → Shared → Prop} (H : Sg c F vals own s) {i : Nat} {x : Str} {v : Value} (e : c.names[i]? = some x) (hi : (vals[i]?).isSome = true) (h : ∀ s', Sg c F (vals.set i (some v)) own s' → Q () s') :
    W prog w A (storeName c.env x v) Q s :=
  have k := H.ok.loc x (List.mem_of_getElem? e)
  ⟨wpAny_storeName_local k.1 H.ns (fun _ hn hs => h _ (H.bind e (by obtain ⟨v', hv⟩ := Option.isSome_iff_exists.mp hi; exact (List.getElem?_eq_some_iff.mp hv).1) hn hs)) (by rw [H.ok.kind]; rfl)⟩
end

section
variable {prog : Program} {w : World} {A : Around} {c : Fx} {F : Heap} {vals : List (Option Value)} {own : List (Addr × D)} {s : Shared}
theorem ldC {Q : Value → Shared → Prop} (H : Sg c F vals own s) {j : Nat} {x : Str} {a : Addr} {b : Bool} {v : Value} (e : c.cl[j]? = some (x, a, b)) (hv : D.At s.heap a (.cell (some v))) (h : Q v s) : W prog w A (loadName c.env x) Q s := by
  obtain ⟨k, _, hc, _⟩ := H.ok.cell _ (List.mem_of_getElem? e)
  rcases k with k | ⟨k, kd⟩
  · exact ⟨wpAny_loadName_cell H.ok.kind k hc hv h⟩
  · exact ⟨wpAny_loadName_free H.ok.kind k hc hv h kd⟩
theorem nC {Q : Value → Shared → Prop} (H : Sg c F vals own s) {j : Nat} {x : Str} {a : Addr} {b : Bool} {v : Value} {pos : Pos} (e : c.cl[j]? = some (x, a, b)) (hv : D.At s.heap a (.cell (some v))) (h : Q v s) : W prog w A (eval (.Name x pos) c.env) Q s :=
  ⟨wpAny_Name (ldC H e hv h).out (H.ok.cell _ (List.mem_of_getElem? e)).2.1⟩
theorem stC {Q : Unit → Shared → Prop} (H : Sg c F vals own s) {i j : Nat} {x : Str} {a : Addr} {v : Value} {v₀ : Option Value} (e : c.cl[j]? = some (x, a, true)) (ho : own[i]? = some (a, .cell v₀))
    (h : ∀ s', Sg c F vals (own.set i (a, .cell (some v))) s' → Q () s') : W prog w A (storeName c.env x v) Q s := by
  obtain ⟨_, _, hc, k⟩ := H.ok.cell _ (List.mem_of_getElem? e)
  exact ⟨wpAny_storeName_cell H.ok.kind (k rfl) hc (H.at ho) fun h' hn hs => h _ (H.upd ho hs hn Same.rfl)⟩
end

/-! the syntax's rules -/
section
variable {prog : Program} {w : World} {A : Around} {s : Shared} {env : Env} {Q : Value → Shared → Prop}

theorem eBin {l : Expr} {op : Operator} {r : Expr} {pos : Pos} (h : W prog w A (eval l env) (fun a s₁ => W prog w A (eval r env) (fun b s₂ => W prog w A (binaryOp op a b) Q s₂) s₁) s) : W prog w A (eval (.BinOp l op r pos) env) Q s :=
  ⟨wpAny_BinOp (h.any fun _ _ h => h.any fun _ _ h => h.out)⟩
theorem eCmp {l : Expr} {op : CmpOp} {r : Expr} {pos : Pos} (h : W prog w A (eval l env) (fun a s₁ => W prog w A (eval r env) (fun b s₂ => W prog w A (compareOp op a b) Q s₂) s₁) s)
    (hm : behindInMarks op r = false := by rfl) : W prog w A (eval (.Compare l [op] [r] pos) env) Q s :=
  ⟨wpAny_Compare1 (h.any fun _ _ h => h.any fun _ _ h => h.out) hm⟩
theorem eUn {op : UnaryOp} {x : Expr} {pos : Pos} (h : W prog w A (eval x env) (fun v s₁ => W prog w A (unaryOp op v) Q s₁) s) : W prog w A (eval (.UnaryOp op x pos) env) Q s :=
  ⟨wpAny_UnaryOp (h.any fun _ _ h => h.out)⟩
theorem eIf {test body orelse : Expr} {pos : Pos} (h : W prog w A (PySem.isTrue test env (eval test env)) (fun b s₂ => if b then W prog w A (eval body env) Q s₂ else W prog w A (eval orelse env) Q s₂) s) : W prog w A (eval (.IfExp test body orelse pos) env) Q s :=
  ⟨IfExp_ (h.any fun b _ h => by cases b <;> exact h.out)⟩
theorem eSub {value slice : Expr} {pos : Pos} (h : W prog w A (eval value env) (fun o s₁ => W prog w A (eval slice env) (fun i s₂ => W prog w A (subscriptTail value slice o i) Q s₂) s₁) s) : W prog w A (eval (.Subscript value slice pos) env) Q s :=
  ⟨Subscript_ (h.any fun _ _ h => h.any fun _ _ h => h.out)⟩
theorem eCall {func : Expr} {args : List Expr} {pos : Pos} (h : W prog w A (eval func env) (fun f s₁ => W prog w A (callWith pos f [] (backTo pos (starEach args env)) []) Q s₁) s)
    (he : eval (.Call func args [] pos) env = (do callWith pos (← eval func env) [] (backTo pos (starEach args env)) (backToKw pos (keywordEach [] env))) := by rfl) : W prog w A (eval (.Call func args [] pos) env) Q s :=
  ⟨Call_ (h.any fun _ _ h => h.out) he⟩
theorem eMeth {o : Expr} {name : Str} {apos pos : Pos} {args : List Expr} {pl : Sem Bool}
    (h : W prog w A (eval o env) (fun ov s₁ => W prog w A (getMethod ov name pl) (fun fx s₂ => W prog w A (callWith pos fx.1 fx.2 (backTo pos (starEach args env)) []) Q s₂) s₁) s)
    (he : eval (.Call (.Attribute o name apos) args [] pos) env = (do
      let ov ← eval o env
      standAt apos.atName
      let (f, first) ← holding [ov] (getMethod ov name pl)
      callWith pos f first (backTo pos (starEach args env)) []) := by rfl) : W prog w A (eval (.Call (.Attribute o name apos) args [] pos) env) Q s :=
  ⟨MethodCall_ (h.any fun _ _ h => h.any fun _ _ h => h.out) he⟩
theorem eList {elts : List Expr} {pos : Pos} (h : W prog w A (spliced (backTo pos (starEach elts env))) (fun vs s₁ => W prog w A (newList vs) Q s₁) s) : W prog w A (eval (.List elts pos) env) Q s := ⟨List_ (h.any fun _ _ h => h.out)⟩
theorem eTup {elts : List Expr} {k : Nat} {pos : Pos} (h : W prog w A (spliced (backTo pos (starEach elts env))) (fun vs s₁ => W prog w A (newTuple vs) Q s₁) s) : W prog w A (eval (.Tuple elts k pos) env) Q s := ⟨Tuple_ (h.any fun _ _ h => h.out)⟩
theorem sp0 {pos : Pos} {Q : List Value → Shared → Prop} (h : Q [] s) : W prog w A (spliced (backTo pos (starEach [] env))) Q s := ⟨spliced_none h⟩
theorem sp1 {e : Expr} {rest : List Expr} {pos : Pos} {Q : List Value → Shared → Prop} (h : W prog w A (eval e env) (fun v s₁ => W prog w A (spliced (backTo pos (starEach rest env))) (fun vs s₂ => Q (v :: vs) s₂) s₁) s)
    (he : starEach (e :: rest) env = (false, eval e env) :: starEach rest env := by rfl) : W prog w A (spliced (backTo pos (starEach (e :: rest) env))) Q s :=
  ⟨spliced_more (h.any fun _ _ h => h.out) he⟩
/-- a built-in called with one argument or more -/
theorem cwB {pos : Pos} {id : String} {first : List Value} {e : Expr} {rest : List Expr} (h : W prog w A (spliced (backTo pos (starEach (e :: rest) env))) (fun vs s₁ => W prog w A (call (.builtin id) (first ++ vs)) Q s₁) s)
    (he : starEach (e :: rest) env = (false, eval e env) :: starEach rest env := by rfl) (hplain : (backTo pos (starEach rest env)).any (·.1) = false := by rfl) :
    W prog w A (callWith pos (.builtin id) first (backTo pos (starEach (e :: rest) env)) []) Q s := ⟨callWith_method1 (h.any fun _ _ h => h.out) he hplain⟩
theorem cwB0 {pos : Pos} {id : String} {first : List Value} (h : W prog w A (call (.builtin id) first) Q s) : W prog w A (callWith pos (.builtin id) first (backTo pos (starEach [] env)) []) Q s := ⟨callWith_method0 h.out⟩
theorem cwT {pos : Pos} {T : String} {e : Expr} {rest : List Expr} (h : W prog w A (spliced (backTo pos (starEach (e :: rest) env))) (fun vs s₁ => W prog w A (call (.type T) vs) Q s₁) s)
    (he : starEach (e :: rest) env = (false, eval e env) :: starEach rest env := by rfl) (hplain : (backTo pos (starEach rest env)).any (·.1) = false := by rfl) :
    W prog w A (callWith pos (.type T) [] (backTo pos (starEach (e :: rest) env)) []) Q s := ⟨PyProof.Rows.callWith_type1 (h.any fun _ _ h => h.out) he hplain⟩
/-- an object that is a def -/
noncomputable def FnObj (h : Heap) (f : Addr) : Prop := ∃ o fd, h.get? f = some o ∧ o.data = .func fd
theorem FnObj.keeps {h h' : Heap} {f : Addr} (k : h.StaysIn h') (x : FnObj h f) : FnObj h' f := let ⟨o, fd, a, b⟩ := x; ⟨o, fd, k _ _ a, b⟩
theorem cwFn {pos : Pos} {f : Addr} {first : List Value} {args : List (Bool × Sem Value)} (h : W prog w A (evalArgs (.ref f) true args []) (fun x s₁ => FnObj s₁.heap f ∧ W prog w A (call (.ref f) (first ++ x.pos) x.kw) Q s₁) s) :
    W prog w A (callWith pos (.ref f) first args []) Q s := by
  refine ⟨?_⟩
  unfold callWith
  refine wpAny_bind (wpAny_holding (h.any fun x s₁ h₁ => wpAny_bind (wpAny_standAt ?_)))
  obtain ⟨⟨o, fd, ho, hd⟩, h₁⟩ := h₁
  have tail : ∀ {t : Sem Value}, wpAny (model prog w) A t Q (fun _ _ => False) s₁ → wpAny (model prog w) A (t >>= fun r => holding [r] point >>= fun _ => pure r) Q (fun _ _ => False) s₁ :=
    fun ht => wpAny_bind (wpAny_mono ht (fun r s₂ hr => wpAny_bind (wpAny_holding (wpAny_point (wpAny_pure hr)))) fun _ _ x => x)
  cases hs : args.any (·.1) <;> simp only [List.any_nil, Bool.or_false] <;>
    refine wpAny_bind (m := keeperOf (.ref f)) ?_ <;> unfold keeperOf <;>
    refine wpAny_bind (wpAny_load ho ?_) <;> rw [hd] <;> refine wpAny_pure ?_
  · first
      | refine wpAny_ite ?_
      | skip
    split <;> first
      | exact tail h₁.out
      | exact tail (by unfold callMarked; exact wpAny_keep h₁.out)
  · first
      | exact tail (by unfold callMarked; exact wpAny_keep h₁.out)
      | exact tail h₁.out
/-- a def called: its object is there when the arguments are -/
theorem cwF {pos : Pos} {f : Addr} {first : List Value} {e : Expr} {rest : List Expr} (h : W prog w A (spliced (backTo pos (starEach (e :: rest) env))) (fun vs s₁ => FnObj s₁.heap f ∧ W prog w A (call (.ref f) (first ++ vs)) Q s₁) s)
    (he : starEach (e :: rest) env = (false, eval e env) :: starEach rest env := by rfl) : W prog w A (callWith pos (.ref f) first (backTo pos (starEach (e :: rest) env)) []) Q s := by
  rw [he] at h ⊢
  exact cwFn ⟨evalArgs_plain h.out⟩
theorem cwF0 {pos : Pos} {f : Addr} {first : List Value} (k : FnObj s.heap f) (h : W prog w A (call (.ref f) first) Q s) : W prog w A (callWith pos (.ref f) first (backTo pos (starEach [] env)) []) Q s :=
  cwFn ⟨PyProof.Rows.evalArgs_none ⟨k, by simpa using h⟩⟩

theorem tCmp {l : Expr} {op : CmpOp} {r : Expr} {pos : Pos} {whole : Sem Value} {Q : Bool → Shared → Prop} (h : W prog w A (eval l env) (fun a s₁ => W prog w A (eval r env) (fun b s₂ => W prog w A (compareOp op a b) (fun c s₃ => W prog w A (truthy c) Q s₃) s₂) s₁) s)
    (hm : behindInMarks op r = false := by rfl) : W prog w A (PySem.isTrue (.Compare l [op] [r] pos) env whole) Q s :=
  ⟨wpAny_isTrue_Compare1 (h.any fun _ _ h => h.any fun _ _ h => h.any fun _ _ h => h.out) hm⟩
theorem tBool {b : Bool} {Q : Bool → Shared → Prop} (h : Q b s) : W prog w A (truthy (.bool b)) Q s := ⟨wpAny_truthy_bool h⟩

variable {Q : Flow → Shared → Prop}
theorem x0 (h : Q .next s) : W prog w A (execs [] env) Q s := ⟨wpAny_execs_nil h⟩
theorem x1 {st : Stmt} {rest : List Stmt} (h : W prog w A (exec st env) (fun f s' => match f with | .next => W prog w A (execs rest env) Q s' | f => Q f s') s) : W prog w A (execs (st :: rest) env) Q s :=
  ⟨wpAny_execs_cons (h.any fun f _ h => by cases f <;> first | exact h.out | exact h)⟩
theorem xRet {e : Expr} {pos : Pos} (h : W prog w A (eval e env) (fun v => Q (.ret v)) s) : W prog w A (exec (.Return (some e) pos) env) Q s := ⟨wpAny_Return_some h.out⟩
theorem xAsg {x : Str} {pos' : Pos} {value : Expr} {pos : Pos} (h : W prog w A (eval value env) (fun v s₁ => W prog w A (storeName env x v) (fun _ => Q .next) s₁) s)
    (hs : swapsWith value (some (.Name x pos')) pos.line env = pure false := by rfl) : W prog w A (exec (.Assign [.Name x pos'] value pos) env) Q s := ⟨wpAny_Assign_Name (h.any fun _ _ h => h.out) hs⟩
theorem xAug {x : Str} {pos' : Pos} {op : Operator} {value : Expr} {pos : Pos} (h : W prog w A (loadName env x) (fun old s₁ => W prog w A (eval value env) (fun v s₂ => W prog w A (inplaceOp op old v) (fun r s₃ => W prog w A (storeName env x r) (fun _ => Q .next) s₃) s₂) s₁) s) :
    W prog w A (exec (.AugAssign (.Name x pos') op value pos) env) Q s := ⟨wpAny_AugAssign_Name (h.any fun _ _ h => h.any fun _ _ h => h.any fun _ _ h => h.out)⟩
theorem xAugSub {o i value : Expr} {tpos pos : Pos} {op : Operator} (h : W prog w A (eval o env) (fun ov s₁ => W prog w A (eval i env) (fun iv s₂ => W prog w A (getItem ov iv) (fun old s₃ =>
      W prog w A (eval value env) (fun v s₄ => W prog w A (inplaceOp op old v) (fun new s₅ => W prog w A (setItem ov iv new) (fun _ => Q .next) s₅) s₄) s₃) s₂) s₁) s)
    (hi : ∀ ov iv new, augStore i ov iv new = (do holding [new, ov, iv] (setItem ov iv new); release [new, ov, iv] []; pure .next) := by intros; rfl) :
    W prog w A (exec (.AugAssign (.Subscript o i tpos) op value pos) env) Q s := ⟨wpAny_AugAssign_SubscriptAny (h.any fun _ _ h => h.any fun _ _ h => h.any fun _ _ h => h.any fun _ _ h => h.any fun _ _ h => h.out) hi⟩
theorem xSub {o i value : Expr} {pos' pos : Pos} (h : W prog w A (eval value env) (fun v s₁ => W prog w A (eval o env) (fun ov s₂ => W prog w A (eval i env) (fun iv s₃ => W prog w A (setItem ov iv v) (fun _ => Q .next) s₃) s₂) s₁) s)
    (hs : swapsWith value (some (.Subscript o i pos')) pos.line env = pure false := by rfl) : W prog w A (exec (.Assign [.Subscript o i pos'] value pos) env) Q s :=
  ⟨wpAny_Assign_Subscript (h.any fun _ _ h => h.any fun _ _ h => h.any fun _ _ h => h.out) hs⟩
theorem xIf {test : Expr} {body orelse : List Stmt} {pos : Pos} (h : W prog w A (PySem.isTrue test env (eval test env)) (fun b s₂ => if b then W prog w A (execs body env) Q s₂ else W prog w A (execs orelse env) Q s₂) s) : W prog w A (exec (.If test body orelse pos) env) Q s :=
  ⟨wpAny_If (h.any fun b _ h => by cases b <;> exact h.out)⟩
theorem xExpr {e : Expr} {pos : Pos} (h : W prog w A (eval e env) (fun _ => Q .next) s) (hi : interactive env = false := by rfl) (hs : swapsWith e none pos.line env = pure false := by rfl) : W prog w A (exec (.Expr e pos) env) Q s :=
  ⟨PySem.wpAny_Expr_any h.out hi hs⟩
theorem xCont {pos : Pos} (h : Q .cont s) : W prog w A (exec (.Continue pos) env) Q s := ⟨fun _ _ _ => h⟩
theorem aName {x : Str} {pos : Pos} {v : Value} {Q : Unit → Shared → Prop} (h : W prog w A (storeName env x v) Q s) : W prog w A (assign (.Name x pos) env v) Q s := ⟨wpAny_assign_Name h.out⟩
end
end Mine

end

section
open PySem PySem.Spec PySem.Calls PyProof.Rows PySem.W
set_option Elab.async false
set_option linter.all false
set_option maxRecDepth 100000
set_option autoImplicit false
namespace Mine
noncomputable def stm (i : Nat) : Stmt := (PySem.Challenge.pw_wj0028_01.main.body).getD i (.Pass default)
noncomputable def dArgs : Stmt → Arguments
  | .FunctionDef _ a .. => a
  | _ => ⟨[], [], none, [], [], none, []⟩
noncomputable def dBody : Stmt → List Stmt
  | .FunctionDef _ _ b .. => b
  | .ClassDef _ _ _ b .. => b
  | _ => []
noncomputable def dScope : Stmt → Scope
  | .FunctionDef _ _ _ _ _ _ s _ _ _ => s
  | _ => default
noncomputable def dStm (st : Stmt) (i : Nat) : Stmt := (dBody st).getD i (.Pass default)

noncomputable def pick (tab : List (Str × Value)) (is : List Nat) : List (Str × Value) := is.filterMap fun i => tab[i]?
theorem mem_pick {tab : List (Str × Value)} {is : List Nat} {p : Str × Value} (h : p ∈ pick tab is) : p ∈ tab := by
  obtain ⟨i, _, e⟩ := List.mem_filterMap.mp h
  exact List.mem_of_getElem? e

noncomputable def GlobV (h : Heap) (gl : List (Str × Value)) : Prop := ∃ mg mb, h.Ns mainGlobals mg ∧ h.Ns builtinsNs mb ∧ ∀ p ∈ gl, mg p.1 = some p.2 ∨ (mg p.1 = none ∧ mb p.1 = some p.2)
theorem GlobV.pick {h : Heap} {tab : List (Str × Value)} (g : GlobV h tab) (is : List Nat) : GlobV h (pick tab is) :=
  let ⟨mg, mb, a, b, d⟩ := g; ⟨mg, mb, a, b, fun p hp => d p (mem_pick hp)⟩
theorem GlobV.keeps {h h' : Heap} {tab : List (Str × Value)} (k : h.StaysIn h') (g : GlobV h tab) : GlobV h' tab :=
  let ⟨mg, mb, a, b, d⟩ := g; ⟨mg, mb, a.keeps k, b.keeps k, d⟩

/-- what a look at a def's scope tells -/
noncomputable def statB (scope : Scope) (names gn : List Str) : Bool :=
  scope.kind == .function && !scope.isCoroutine && !scope.isGenerator && decide names.Nodup &&
  names.all (fun x => scope.names.lookup x == some .local && !(x == ("__debug__" : Str))) &&
  gn.all (fun x => scope.names.lookup x == some .globalImplicit && !(x == ("__debug__" : Str)))
noncomputable def nocellB (scope : Scope) : Bool := scope.names.all fun x => x.2 != .cell

theorem statB_kind {scope : Scope} {names gn : List Str} (h : statB scope names gn = true) : scope.kind = .function ∧ scope.isCoroutine = false ∧ scope.isGenerator = false ∧ names.Nodup ∧
    (∀ x ∈ names, scope.names.lookup x = some .local ∧ (x == ("__debug__" : Str)) = false) ∧ (∀ x ∈ gn, scope.names.lookup x = some .globalImplicit ∧ (x == ("__debug__" : Str)) = false) := by
  simp only [statB, Bool.and_eq_true, List.all_eq_true, beq_iff_eq, Bool.not_eq_true', decide_eq_true_eq] at h
  exact ⟨h.1.1.1.1.1, h.1.1.1.1.2, h.1.1.1.2, h.1.1.2, h.1.2, h.2⟩

/-- an object that is a def -/
noncomputable def IsFn (h : Heap) (f : Addr) (params : Arguments) (body : List Stmt) (scope : Scope) (cl : List (Str × Addr)) : Prop :=
  ∃ fo name qual doc pm an cdv ct, h.get? f = some fo ∧ fo.cls = .type "function" ∧ fo.data = .func (fnX name qual params body scope cl .none .none doc pm an cdv ct) ∧ h.CodeRec cdv qual
theorem IsFn.keeps {h h' : Heap} {f : Addr} {params : Arguments} {body : List Stmt} {scope : Scope} {cl : List (Str × Addr)} (k : h.StaysIn h') (x : IsFn h f params body scope cl) : IsFn h' f params body scope cl :=
  let ⟨fo, name, qual, doc, pm, an, cdv, ct, a, b, d, e⟩ := x
  let ⟨c, o, vs, t, e1, e2, e3, e4⟩ := e
  ⟨fo, name, qual, doc, pm, an, cdv, ct, k _ _ a, b, d, ⟨c, o, vs, t, e1, k _ _ e2, e3, e4⟩⟩

noncomputable def Binds (params : Arguments) (args : List Value) (pn : List Str) : Prop :=
  ∀ (name qual : Str) (body : List Stmt) (scope : Scope) (cl : List (Str × Addr)) (doc pm : Value) (an : Option Addr) (cdv ct : Value),
    bindArgs (fnX name qual params body scope cl .none .none doc pm an cdv ct) ⟨args, []⟩ = pure (pn.zip args)

section
variable {prog : Program} {w : World} {A : Around} {s : Shared} {Q : Value → Shared → Prop}

theorem call_fn {f : Addr} {params : Arguments} {body : List Stmt} {scope : Scope} {cl : List (Str × Addr)} {n : Nat} {args : List Value} {pn rest : List Str} {gl : List (Str × Value)}
    (hf : IsFn s.heap f params body scope cl) (hlim : s.heap.NoLimit) (r : Room A (n + 1)) (hb : Binds params args pn) (hlen : pn.length = args.length)
    (st : statB scope (pn ++ rest) (gl.map (·.1)) = true) (nc : nocellB scope = true) (g : GlobV s.heap gl)
    (h : ∀ env s₁, env.scope = scope → env.cells = cl → Sg ⟨s.heap, env, pn ++ rest, gl, s, []⟩ s.heap (args.map some ++ List.replicate rest.length none) [] s₁ → Room (A.deeper env) n →
      W prog w (A.deeper env) (execs body env) (fun fl s' => Q (match fl with | .ret v => v | _ => .none) s') s₁) :
    W prog w A (call (.ref f) args) Q s := by
  obtain ⟨fo, name, qual, doc, pm, an, cdv, ct, ho, hc, hd, hcd⟩ := hf
  obtain ⟨k1, k2, k3, k4, k5, k6⟩ := statB_kind st
  have hro : A.depth < recursionLimit := by have := r.depth; exact zq14 this
  refine ⟨wpAny_call (codeAny_call_function (fd := fnX name qual params body scope cl .none .none doc pm an cdv ct) (body := body) hro ho hd k2 k3 rfl hcd ?_)⟩
  rw [hb]
  have hz : ∀ x ∈ pn.zip args, scope.names.lookup x.1 = some .local := fun x hx => (k5 x.1 (List.mem_append_left _ (List.of_mem_zip hx).1)).1
  have hnc : ∀ x ∈ scope.names, x.2 ≠ .cell := fun x hx => by
    have := List.all_eq_true.mp nc x hx
    simpa using this
  refine wpAny_pure (wpAny_newFunctionEnv hnc hz (fun h₁ hns hsb => ⟨hlim.fresh _ hsb, ?_⟩) k1)
  refine codeAny_func ?_
  have hk : s.heap.StaysIn h₁ := fun b o e => hsb.extBut b o (Nat.ne_of_lt (Heap.lt_size e)) (Heap.get?_push_of_some _ e)
  refine W.any (h (newEnv scope s.heap.objs.size mainGlobals cl (qual ++ ".<locals>.") (some f) cdv none builtinsNs) _ rfl rfl ⟨⟨k1, k4, fun x hx => k5 x hx, fun p hp => k6 p.1 (List.mem_map_of_mem hp), (fun _ hp => nomatch hp), g⟩, ?_, fun _ _ e => e, hk, ?_, fun _ hp => (nomatch hp), List.nodup_nil, Same.rfl⟩ (r.deeper _)) (fun fl s' q => q)
  · rw [← loc_binds pn args rest k4 hlen]; exact hns
  · cases q : s.heap.get? s.heap.objs.size with
    | none => exact q
    | some o => exact absurd (Heap.lt_size q) (Nat.lt_irrefl _)

/-- a contract of a call: its value and what it leaves -/
noncomputable def Ct (prog : Program) (w : World) (n : Nat) (f : Value) (args : List Value) (s : Shared) (P : Value → Heap → Prop) : Prop :=
  ∀ (A : Around) (Q : Value → Shared → Prop), Room A n → (∀ v s', s.heap.StaysIn s'.heap → Same s s' → P v s'.heap → Q v s') → W prog w A (call f args) Q s
theorem Ct.use {n : Nat} {f : Value} {args : List Value} {P : Value → Heap → Prop} {c : Fx} {F : Heap} {vals : List (Option Value)} {own : List (Addr × D)} (h : Ct prog w n f args s P) (H : Sg c F vals own s) (r : Room A n)
    (k : ∀ v s', Sg c F vals own s' → s.heap.StaysIn s'.heap → P v s'.heap → Q v s') : W prog w A (call f args) Q s :=
  h A Q r fun v s' a b p => k v s' (H.grow a b) a p
theorem Ct.useI {n : Nat} {f : Value} {args : List Value} {x : Int} {c : Fx} {F : Heap} {vals : List (Option Value)} {own : List (Addr × D)} (h : Ct prog w n f args s (fun v _ => ∃ tk, v = .int x tk)) (H : Sg c F vals own s) (r : Room A n)
    (k : ∀ t s', Sg c F vals own s' → Q (.int x t) s') : W prog w A (call f args) Q s :=
  h A Q r fun v s' a b ⟨t, e⟩ => e ▸ k t s' (H.grow a b)
end
section
variable {c : Fx} {F F' : Heap} {vals : List (Option Value)} {own : List (Addr × D)} {s s' : Shared}

theorem Sg.weaken (H : Sg c F' vals own s) (g : c.G.StaysIn F) (k : F.StaysIn F') : Sg c F vals own s := by
  have nn : ∀ a, F'.get? a = none → F.get? a = none := fun a e => by
    cases q : F.get? a with
    | none => rfl
    | some o => rw [k a o q] at e; cases e
  exact ⟨H.ok, H.ns, g, fun b o e => H.keep b o (k b o e), nn _ H.hl, fun p hp => ⟨(H.mine p hp).1, (H.mine p hp).2.1, nn _ (H.mine p hp).2.2⟩, H.nd, H.same⟩
/-- an object that is neither owned nor kept changes; new ones are made -/
theorem Sg.other (H : Sg c F vals own s) {I : Addr} {h : Heap} {t : Nat} (h1 : I ≠ c.env.locals) (h2 : F.get? I = none) (h3 : ∀ p ∈ own, p.1 ≠ I) (hs : Heap.ExtBut I s.heap h) : Sg c F vals own { s with heap := h, toks := t } := by
  refine ⟨H.ok, H.ns.extBut hs h1.symm, H.sub, fun b o e => hs b o (fun q => ?_) (H.keep b o e), H.hl, fun p hp => ⟨?_, (H.mine p hp).2⟩, H.nd, H.same⟩
  · subst q; rw [h2] at e; cases e
  · obtain ⟨o, ho⟩ := (H.mine p hp).1.some
    exact (H.mine p hp).1.same ((hs _ o (h3 p hp) ho).trans ho.symm)
/-- all but the locals and the owned objects, kept -/
noncomputable def Sg.rest (c : Fx) (own : List (Addr × D)) (s : Shared) : Heap := hideAll s.heap (c.env.locals :: own.map (·.1))
theorem Sg.rest_get (H : Sg c F vals own s) {b : Addr} {o : Obj} (e : s.heap.get? b = some o) (h1 : b ≠ c.env.locals) (h3 : ∀ p ∈ own, p.1 ≠ b) : (Sg.rest c own s).get? b = some o :=
  hideAll_get _ e fun hm => by
    rcases List.mem_cons.mp hm with q | q
    · exact h1 q
    · obtain ⟨p, hp, rfl⟩ := List.mem_map.mp q; exact h3 p hp rfl
theorem Sg.to_rest (H : Sg c F vals own s) : Sg c (Sg.rest c own s) vals own s ∧ F.StaysIn (Sg.rest c own s) := by
  have fr : F.StaysIn (Sg.rest c own s) := fun b o e => H.rest_get (H.keep b o e) (fun q => by rw [q, H.hl] at e; cases e) (fun p hp q => by rw [← q, (H.mine p hp).2.2] at e; cases e)
  exact ⟨⟨H.ok, H.ns, fun b o e => fr b o (H.sub b o e), fun b o e => of_hideAll _ e, hideAll_none _ (.head _), fun p hp => ⟨(H.mine p hp).1, (H.mine p hp).2.1, hideAll_none _ (.tail _ (List.mem_map_of_mem hp))⟩, H.nd, H.same⟩, fr⟩
end

section
variable {prog : Program} {w : World} {A : Around} {c : Fx} {F : Heap} {vals : List (Option Value)} {own : List (Addr × D)} {s : Shared}

/-- where a turn's end leads -/
noncomputable abbrev Turn (c : Fx) (F' : Heap) (J : Nat → List (Option Value) → List (Addr × D) → Prop) (k : Nat) (Q : Flow → Shared → Prop) (f : Flow) (s'' : Shared) : Prop :=
  match f with
  | .next | .cont => ∃ vals'' own'', J (k + 1) vals'' own'' ∧ Sg c F' vals'' own'' s''
  | .brk => Q .next s''
  | .ret v => Q (.ret v) s''

theorem for_gen {Q : Flow → Shared → Prop} {R : Result → Shared → Prop} {target : Expr} {body : List Stmt} {I : Addr} {n : Nat} (H : Sg c F vals own s)
    (h1 : I ≠ c.env.locals) (h2 : F.get? I = none) (h3 : ∀ p ∈ own, p.1 ≠ I) (o : Nat → Obj → Prop) (ho : ∃ ob, s.heap.get? I = some ob ∧ o 0 ob)
    (item : Nat → Tok → Value) (J : Nat → List (Option Value) → List (Addr × D) → Prop) (h0 : J 0 vals own)
    (nxt : ∀ k vals' own' s' (Q : Option Value → Shared → Prop), k < n → J k vals' own' → Sg c F vals' own' s' → (∃ ob, s'.heap.get? I = some ob ∧ o k ob) →
      (∀ t h' tk, Heap.SameBut I s'.heap h' → (∃ ob, h'.get? I = some ob ∧ o (k + 1) ob) → Q (some (item k t)) { s' with heap := h', toks := tk }) → W prog w A (pyNext (.ref I)) Q s')
    (fin : ∀ vals' own' s' (Q : Option Value → Shared → Prop), J n vals' own' → Sg c F vals' own' s' → (∃ ob, s'.heap.get? I = some ob ∧ o n ob) →
      (∀ h' tk, Heap.ExtBut I s'.heap h' → Q none { s' with heap := h', toks := tk }) → W prog w A (pyNext (.ref I)) Q s')
    (step : ∀ k t F' vals' own' s' (Qt : Flow → Shared → Prop), k < n → J k vals' own' → F.StaysIn F' → Sg c F' vals' own' s' → (∀ vals'' own'' s'', J (k + 1) vals'' own'' → Sg c F' vals'' own'' s'' → Qt .next s'') → (∀ v s'', Q (.ret v) s'' → Qt (.ret v) s'') →
      W prog w A (assign target c.env (item k t)) (fun _ s₂ => W prog w A (execs body c.env) Qt s₂) s')
    (hQ : ∀ vals' own' s', J n vals' own' → Sg c F vals' own' s' → Q .next s')
    (hR : ∀ f s', Q f s' → R (.ok f) s')
    (hlet : ∀ k t (s' : Shared) (Q : Unit → Shared → Prop) (E : Value → Shared → Prop), (∃ ob, s'.heap.get? I = some ob ∧ o (k + 1) ob) → Q () s' → wpAny (model prog w) A (letOwnedTupleGo target (.ref I) (item k t)) Q E s' := by intro _ _ _ _ _ _ h; exact wpAny_pure h) :
    codeAny (model prog w) A (.forLoop target (.ref I) body [] c.env) R s := by
  refine codeAny_forLoop_any (fun m s' => ∃ k vals' own', m = n + 1 - k ∧ k ≤ n ∧ J k vals' own' ∧ Sg c F vals' own' s' ∧ (∃ ob, s'.heap.get? I = some ob ∧ o k ob) ∧ ∀ p ∈ own', p.1 ≠ I) ?_ (n + 1) ⟨0, vals, own, rfl, Nat.zero_le _, h0, H, ho, h3⟩
  rintro m s' ⟨k, vals', own', rfl, hk, hJ, H', ho', h3'⟩
  by_cases hlt : k < n
  · refine (nxt k vals' own' s' _ hlt hJ H' ho' fun t h' tk hs ⟨ob, hI, hP⟩ => ?_).any fun _ _ q => q
    have H2 : Sg c F vals' own' { s' with heap := h', toks := tk } := H'.other h1 h2 h3' hs.extBut
    obtain ⟨H3, fr⟩ := H2.to_rest
    have hIr : (Sg.rest c own' { s' with heap := h', toks := tk }).get? I = some ob := H2.rest_get hI h1 h3'
    refine hlet k t _ _ _ ⟨ob, hI, hP⟩ ?_
    refine (step k t _ vals' own' _ (Turn c _ J k Q) hlt hJ fr H3 (fun v o s'' a b => ⟨v, o, a, b⟩) fun _ _ q => q).any fun _ s₂ h₂ => h₂.any fun f s₃ h₃ => ?_
    have next : (∃ vals'' own'', J (k + 1) vals'' own'' ∧ Sg c (Sg.rest c own' { s' with heap := h', toks := tk }) vals'' own'' s₃) →
        ∃ m, m < n + 1 - k ∧ ∃ k' vals' own', m = n + 1 - k' ∧ k' ≤ n ∧ J k' vals' own' ∧ Sg c F vals' own' s₃ ∧ (∃ ob, s₃.heap.get? I = some ob ∧ o k' ob) ∧ ∀ p ∈ own', p.1 ≠ I := by
      rintro ⟨v, w, hj, hg⟩
      refine ⟨n + 1 - (k + 1), by exact zq13 hlt, k + 1, v, w, rfl, hlt, hj, hg.weaken H.sub fr, ⟨ob, hg.keep _ _ hIr, hP⟩, fun p hp e => ?_⟩
      have := (hg.mine p hp).2.2
      rw [e, hIr] at this; cases this
    cases f with
    | next => exact next h₃
    | cont => exact next h₃
    | brk => exact hR _ _ h₃
    | ret v => exact hR _ _ h₃
  · have hkn : k = n := by exact zq12 hk hlt
    subst hkn
    refine (fin vals' own' s' _ hJ H' ho' fun h' tk hs => ?_).any fun _ _ q => q
    exact wpAny_execs_nil (hR _ _ (hQ vals' own' _ hJ (H'.other h1 h2 h3' hs)))

/-- the address that the next new object takes -/
theorem Sg.newAt (H : Sg c F vals own s) : s.heap.objs.size ≠ c.env.locals ∧ F.get? s.heap.objs.size = none ∧ ∀ p ∈ own, p.1 ≠ s.heap.objs.size := by
  have lt : ∀ {x : Addr} {o : Obj}, s.heap.get? x = some o → x ≠ s.heap.objs.size := fun e q => absurd (Heap.lt_size e) (by rw [q]; exact Nat.lt_irrefl _)
  refine ⟨?_, ?_, fun p hp => ?_⟩
  · obtain ⟨o, _, _, ho, _⟩ := H.ns
    exact (lt ho).symm
  · cases q : F.get? s.heap.objs.size with
    | none => rfl
    | some o => exact absurd rfl (lt (H.keep _ _ q))
  · obtain ⟨o, ho⟩ := (H.mine p hp).1.some
    exact lt ho

/-- for x in what comes out as range(a, b) -/
theorem for_range {Q : Flow → Shared → Prop} {x : Str} {px : Pos} {iter : Expr} {body : List Stmt} {pos : Pos} {vals₀ : List (Option Value)} {own₀ : List (Addr × D)} (hh : A.handled = none) (H₀ : Sg c F vals₀ own₀ s)
    (hi : W prog w A (eval iter c.env) (fun xv s => ∃ (vals : List (Option Value)) (own : List (Addr × D)) (r : Addr) (a b : Int) (t u v : Tok) (n : Nat) (J : Nat → List (Option Value) → List (Addr × D) → Prop),
      xv = .ref r ∧ Sg c F vals own s ∧ IsRange s.heap r a b 1 t u v ∧ (-(2 ^ 62) ≤ a ∧ a < 2 ^ 62) ∧ (-(2 ^ 62) ≤ b ∧ b < 2 ^ 62) ∧ n = (b - a).toNat ∧ J 0 vals own ∧
      (∀ k t F' vals' own' s' (Qt : Flow → Shared → Prop), k < n → J k vals' own' → F.StaysIn F' → Sg c F' vals' own' s' → (∀ vals'' own'' s'', J (k + 1) vals'' own'' → Sg c F' vals'' own'' s'' → Qt .next s'') → (∀ v s'', Q (.ret v) s'' → Qt (.ret v) s'') →
        W prog w A (storeName c.env x (.int (a + k) t)) (fun _ s₂ => W prog w A (execs body c.env) Qt s₂) s') ∧
      (∀ vals' own' s', J n vals' own' → Sg c F vals' own' s' → Q .next s')) s)
    (hs : ∀ x, foldedSetIterable iter c.env x = pure x := by intro _; rfl) : W prog w A (exec (.For (.Name x px) iter body [] pos) c.env) Q s := by
  refine ⟨wpAny_For (hi.any fun xv s h => ?_) hs⟩
  obtain ⟨vals, own, r, a, b, t, u, v, n, J, rfl, H, hr, ha, hb, hn, h0, step, hQ⟩ := h
  refine wpAny_pyIter_range hr (small_one ha.1 ha.2 hb.1 hb.2) ?_
  have hsz : (Builtin.Range.rangeSize a b 1) = n := by rw [rangeSize_one]; split <;> omega
  obtain ⟨n1, n2, n3⟩ := H.newAt
  refine for_gen (n := n) (Q := Q) (I := s.heap.objs.size) (H.heap (t := s.toks) (fun b o e => Heap.get?_push_of_some _ e)) n1 n2 n3
    (fun k ob => ob = { cls := .type "range_iterator", data := .fields #[rawInt (a + k), rawInt (n - (k : Int)), rawInt 1] }) ⟨_, Heap.get?_push_size _ rfl, ?_⟩ (fun k t => .int (a + k) t) J h0 ?_ ?_ (fun k t F' vals' own' s' Qt hk hJ hF Hs q1 q2 => ⟨wpAny_assign_Name (step k t F' vals' own' s' Qt hk hJ hF Hs q1 q2).out⟩) hQ (fun _ _ q => q)
  · rw [hsz]; simp
  · rintro k vals' own' s' Q' hk hJ H' ⟨_, ho, rfl⟩ h
    refine ⟨wpAny_pyNext_range_item ho (by exact zq11 hk) fun h' hit hs => h _ _ _ hs ⟨_, hit, ?_⟩⟩
    have e1 : a + ((k + 1 : Nat) : Int) = a + k + 1 := by push_cast; exact zq10
    have e2 : (n : Int) - ((k + 1 : Nat) : Int) = n - k - 1 := by push_cast; exact zq9
    rw [e1, e2]
  · rintro vals' own' s' Q' hJ H' ⟨_, ho, rfl⟩ h
    exact ⟨wpAny_pyNext_range_end hh ho (by exact zq8) fun h' hs => h _ _ hs⟩

theorem let_list {elts : List PySem.Expr} {x1 : Nat} {pos : Pos} (I l : Addr) (i : Nat) (s : Shared) (v : Value) (Q : Unit → Shared → Prop) (E : Value → Shared → Prop) (hit : s.heap.IsListIter I l i) (hQ : Q () s) :
    wpAny (model prog w) A (letOwnedTupleGo (.Tuple elts x1 pos) (.ref I) v) Q E s := by
  cases v with
  | ref T => exact wpAny_letOwnedTupleGo_listiter hit hQ
  | _ => exact wpAny_pure hQ
/-- for target in what comes out as a list of vs -/
theorem for_list {Q : Flow → Shared → Prop} {target : Expr} {iter : Expr} {body : List Stmt} {pos : Pos} {vals₀ : List (Option Value)} {own₀ : List (Addr × D)} (hh : A.handled = none) (H₀ : Sg c F vals₀ own₀ s)
    (hi : W prog w A (eval iter c.env) (fun xv s => ∃ (vals : List (Option Value)) (own : List (Addr × D)) (l : Addr) (vs : List Value) (J : Nat → List (Option Value) → List (Addr × D) → Prop),
      xv = .ref l ∧ Sg c F vals own s ∧ J 0 vals own ∧ (∀ k vals' own' s', J k vals' own' → Sg c F vals' own' s' → s'.heap.IsList l vs.toArray) ∧
      (∀ k v F' vals' own' s' (Qt : Flow → Shared → Prop), vs[k]? = some v → J k vals' own' → F.StaysIn F' → Sg c F' vals' own' s' → (∀ vals'' own'' s'', J (k + 1) vals'' own'' → Sg c F' vals'' own'' s'' → Qt .next s'') → (∀ v s'', Q (.ret v) s'' → Qt (.ret v) s'') →
        W prog w A (assign target c.env v) (fun _ s₂ => W prog w A (execs body c.env) Qt s₂) s') ∧
      (∀ vals' own' s', J vs.length vals' own' → Sg c F vals' own' s' → Q .next s')) s)
    (hs : ∀ x, foldedSetIterable iter c.env x = pure x := by intro _; rfl) (hlet : ∀ (I l : Addr) (i : Nat) (s' : Shared) (v : Value) (Q : Unit → Shared → Prop) (E : Value → Shared → Prop), s'.heap.IsListIter I l i → Q () s' → wpAny (model prog w) A (letOwnedTupleGo target (.ref I) v) Q E s' := by intro _ _ _ _ _ _ _ _ h; exact wpAny_pure h) : W prog w A (exec (.For target iter body [] pos) c.env) Q s := by
  refine ⟨wpAny_For (hi.any fun xv s h => ?_) hs⟩
  obtain ⟨vals, own, l, vs, J, rfl, H, h0, hl, step, hQ⟩ := h
  refine wpAny_pyIter_list (hl 0 vals own s h0 H) ?_
  obtain ⟨n1, n2, n3⟩ := H.newAt
  refine for_gen (n := vs.length) (Q := Q) (I := s.heap.objs.size) (H.heap (t := s.toks) (fun b o e => Heap.get?_push_of_some _ e)) n1 n2 n3
    (fun k ob => ob.cls = .type "list_iterator" ∧ ob.data = .fields #[.ref l, .int k 0]) ⟨_, Heap.get?_push_size _ rfl, rfl, rfl⟩ (fun k t => vs.getD k .none) J h0 ?_ ?_ (fun k t F' vals' own' s' Qt hk hJ hF Hs q1 q2 => ?_) hQ (fun _ _ q => q) (fun k t s' Q E ⟨ob, e, a, b⟩ hq => hlet _ l (k + 1) s' _ Q E ⟨ob, e, a, b⟩ hq)
  · rintro k vals' own' s' Q' hk hJ H' ho h
    refine ⟨wpAny_pyNext_list_item (x := vs.getD k .none) ho (hl k vals' own' s' hJ H') (by simp [hk]) fun h' hit hs => h 0 _ _ hs hit⟩
  · rintro vals' own' s' Q' hJ H' ho h
    exact ⟨wpAny_pyNext_list_end hh ho (hl _ vals' own' s' hJ H') (by simp) fun h' hs => h _ _ hs⟩
  · exact step k _ F' vals' own' s' Qt (by rw [List.getD_eq_getElem?_getD, List.getElem?_eq_getElem hk]; rfl) hJ hF Hs q1 q2
/-- for target in what comes out as a tuple of vs -/
theorem for_tup {Q : Flow → Shared → Prop} {target : Expr} {iter : Expr} {body : List Stmt} {pos : Pos} {vals₀ : List (Option Value)} {own₀ : List (Addr × D)} (hh : A.handled = none) (H₀ : Sg c F vals₀ own₀ s)
    (hi : W prog w A (eval iter c.env) (fun xv s => ∃ (vals : List (Option Value)) (own : List (Addr × D)) (l : Addr) (vs : List Value) (J : Nat → List (Option Value) → List (Addr × D) → Prop),
      xv = .ref l ∧ Sg c F vals own s ∧ J 0 vals own ∧ (∀ k vals' own' s', J k vals' own' → Sg c F vals' own' s' → IsTup s'.heap l vs.toArray) ∧
      (∀ k v F' vals' own' s' (Qt : Flow → Shared → Prop), vs[k]? = some v → J k vals' own' → F.StaysIn F' → Sg c F' vals' own' s' → (∀ vals'' own'' s'', J (k + 1) vals'' own'' → Sg c F' vals'' own'' s'' → Qt .next s'') → (∀ v s'', Q (.ret v) s'' → Qt (.ret v) s'') →
        W prog w A (assign target c.env v) (fun _ s₂ => W prog w A (execs body c.env) Qt s₂) s') ∧
      (∀ vals' own' s', J vs.length vals' own' → Sg c F vals' own' s' → Q .next s')) s)
    (hs : ∀ x, foldedSetIterable iter c.env x = pure x := by intro _; rfl) (ht : ∀ it v, letOwnedTupleGo target it v = pure () := by intro _ _; rfl) : W prog w A (exec (.For target iter body [] pos) c.env) Q s := by
  refine ⟨wpAny_For (hi.any fun xv s h => ?_) hs⟩
  obtain ⟨vals, own, l, vs, J, rfl, H, h0, hl, step, hQ⟩ := h
  refine wpAny_pyIter_tuple (hl 0 vals own s h0 H) ?_
  obtain ⟨n1, n2, n3⟩ := H.newAt
  refine for_gen (n := vs.length) (Q := Q) (I := s.heap.objs.size) (H.heap (t := s.toks) (fun b o e => Heap.get?_push_of_some _ e)) n1 n2 n3
    (fun k ob => ob.cls = .type "tuple_iterator" ∧ ob.data = .fields #[.ref l, .int k 0]) ⟨_, Heap.get?_push_size _ rfl, rfl, rfl⟩ (fun k t => vs.getD k .none) J h0 ?_ ?_ (fun k t F' vals' own' s' Qt hk hJ hF Hs q1 q2 => ?_) hQ (fun _ _ q => q) (fun k t s' Q E _ hq => by rw [ht]; exact wpAny_pure hq)
  · rintro k vals' own' s' Q' hk hJ H' ho h
    refine ⟨wpAny_pyNext_tuple_item (x := vs.getD k .none) ho (hl k vals' own' s' hJ H') (by simp [hk]) fun h' hit hs => h 0 _ _ hs hit⟩
  · rintro vals' own' s' Q' hJ H' ho h
    exact ⟨wpAny_pyNext_tuple_end hh ho (hl _ vals' own' s' hJ H') (by simp) fun h' hs => h _ _ hs⟩
  · exact step k _ F' vals' own' s' Qt (by rw [List.getD_eq_getElem?_getD, List.getElem?_eq_getElem hk]; rfl) hJ hF Hs q1 q2
end

section
variable {prog : Program} {w : World} {A : Around} {c : Fx} {F : Heap} {s : Shared}
/-- for x in range(b) -/
theorem for_range0 {Q : Flow → Shared → Prop} {x : Str} {px : Pos} {iter : Expr} {body : List Stmt} {pos : Pos} {vals₀ : List (Option Value)} {own₀ : List (Addr × D)} (hh : A.handled = none) (H₀ : Sg c F vals₀ own₀ s)
    (hi : W prog w A (eval iter c.env) (fun xv s => ∃ (vals : List (Option Value)) (own : List (Addr × D)) (r : Addr) (b : Int) (t u v : Tok) (n : Nat) (J : Nat → List (Option Value) → List (Addr × D) → Prop),
      xv = .ref r ∧ Sg c F vals own s ∧ IsRange s.heap r 0 b 1 t u v ∧ (-(2 ^ 62) ≤ b ∧ b < 2 ^ 62) ∧ n = b.toNat ∧ J 0 vals own ∧
      (∀ (k : Nat) t F' vals' own' s' (Qt : Flow → Shared → Prop), k < n → J k vals' own' → F.StaysIn F' → Sg c F' vals' own' s' → (∀ vals'' own'' s'', J (k + 1) vals'' own'' → Sg c F' vals'' own'' s'' → Qt .next s'') → (∀ v s'', Q (.ret v) s'' → Qt (.ret v) s'') →
        W prog w A (storeName c.env x (.int k t)) (fun _ s₂ => W prog w A (execs body c.env) Qt s₂) s') ∧
      (∀ vals' own' s', J n vals' own' → Sg c F vals' own' s' → Q .next s')) s)
    (hs : ∀ x, foldedSetIterable iter c.env x = pure x := by intro _; rfl) : W prog w A (exec (.For (.Name x px) iter body [] pos) c.env) Q s := by
  refine for_range hh H₀ (hi.mono fun xv s h => ?_) hs
  obtain ⟨vals, own, r, b, t, u, v, n, J, rfl, H, hr, hb, hn, h0, step, hQ⟩ := h
  exact ⟨vals, own, r, 0, b, t, u, v, n, J, rfl, H, hr, by decide, hb, by exact zq7 hn, h0, fun k t F' vals' own' s' Qt a b c d e f => by rw [Int.zero_add]; exact step k t F' vals' own' s' Qt a b c d e f, hQ⟩
end

section
variable {prog : Program} {w : World} {A : Around} {c : Fx} {F : Heap} {vals : List (Option Value)} {own : List (Addr × D)} {s : Shared} {Q : Value → Shared → Prop}

/-- range(n) called -/
theorem cRange1 {b : Int} {t : Tok} (H : Sg c F vals own s) (h : ∀ r t u v s', Sg c F vals own s' → IsRange s'.heap r 0 b 1 t u v → Q (.ref r) s') : W prog w A (call (.type "range") [.int b t]) Q s :=
  ⟨call_range_1 (h _ _ _ _ _ (H.heap fun b o e => Heap.get?_push_of_some _ e) (Heap.get?_push_size _ rfl))⟩
theorem cRange2 {a b : Int} {t u : Tok} (H : Sg c F vals own s) (h : ∀ r t u v s', Sg c F vals own s' → IsRange s'.heap r a b 1 t u v → Q (.ref r) s') : W prog w A (call (.type "range") [.int a t, .int b u]) Q s :=
  ⟨call_range_2 (h _ _ _ _ _ (H.heap fun b o e => Heap.get?_push_of_some _ e) (Heap.get?_push_size _ rfl))⟩
end
end Mine

end

section
open PySem PySem.Spec PySem.Calls PyProof.Rows PySem.W
set_option Elab.async false
set_option linter.all false
set_option maxRecDepth 100000
set_option autoImplicit false
namespace Mine

theorem D.isL {h : Heap} {a : Addr} {vs : List Value} (x : D.At h a (.list vs)) : h.IsList a vs.toArray := let ⟨n, e⟩ := x; ⟨_, e, rfl, n, rfl⟩
theorem D.isI {h : Heap} {a : Addr} {ns : List Int} (x : D.At h a (.ints ns)) : ∃ vs : List Value, h.IsList a vs.toArray ∧ IntsAre vs ns := let ⟨vs, n, e, i⟩ := x; ⟨vs, ⟨_, e, rfl, n, rfl⟩, i⟩
theorem D.ofInts {h : Heap} {a : Addr} {vs : List Value} {ns : List Int} (x : D.At h a (.list vs)) (i : IntsAre vs ns) : D.At h a (.ints ns) := let ⟨n, e⟩ := x; ⟨vs, n, e, i⟩
/-- a list of k items, whatever it holds -/
noncomputable def IsLst (h : Heap) (a : Addr) (k : Nat) : Prop := ∃ vs : List Value, h.IsList a vs.toArray ∧ vs.length = k
theorem D.lst {h : Heap} {a : Addr} {vs : List Value} (x : D.At h a (.list vs)) : IsLst h a vs.length := ⟨vs, D.isL x, rfl⟩
theorem D.lsti {h : Heap} {a : Addr} {ns : List Int} (x : D.At h a (.ints ns)) : IsLst h a ns.length := let ⟨vs, e, i⟩ := D.isI x; ⟨vs, e, i.length⟩

theorem push_get {h : Heap} {o : Obj} : h.StaysIn (h.push o) := fun _ _ e => Heap.get?_push_of_some _ e
theorem fresh_size {h : Heap} : h.get? h.objs.size = none := by
  cases q : h.get? h.objs.size with
  | none => rfl
  | some o => exact absurd (Heap.lt_size q) (Nat.lt_irrefl _)

theorem ints_snoc {x : Int} {t : Tok} : ∀ {vs : List Value} {ns : List Int}, IntsAre vs ns → IntsAre (vs ++ [.int x t]) (ns ++ [x])
  | _, _, .nil => .cons x t .nil
  | _, _, .cons i u h => .cons i u (ints_snoc h)
theorem ints_append : ∀ {vs : List Value} {ns : List Int} {us : List Value} {ms : List Int}, IntsAre vs ns → IntsAre us ms → IntsAre (vs ++ us) (ns ++ ms)
  | _, _, _, _, .nil, k => k
  | _, _, _, _, .cons i u h, k => .cons i u (ints_append h k)
theorem ints_take : ∀ {vs : List Value} {ns : List Int} (k : Nat), IntsAre vs ns → IntsAre (vs.take k) (ns.take k)
  | _, _, 0, _ => by simp; exact .nil
  | _, _, _ + 1, .nil => by simp; exact .nil
  | _, _, k + 1, .cons i u h => .cons i u (ints_take k h)
theorem ints_drop : ∀ {vs : List Value} {ns : List Int} (k : Nat), IntsAre vs ns → IntsAre (vs.drop k) (ns.drop k)
  | _, _, 0, h => h
  | _, _, _ + 1, .nil => .nil
  | _, _, k + 1, .cons _ _ h => ints_drop k h
theorem ints_repl {x : Int} {t : Tok} : ∀ n : Nat, IntsAre (List.replicate n (.int x t)) (List.replicate n x)
  | 0 => .nil
  | n + 1 => .cons x t (ints_repl n)

section
variable {prog : Program} {w : World} {A : Around} {c : Fx} {F : Heap} {vals : List (Option Value)} {own : List (Addr × D)} {s : Shared} {Q : Value → Shared → Prop}

/-- an owned object is seen otherwise -/
theorem Sg.re (H : Sg c F vals own s) {i : Nat} {a : Addr} {d d' : D} (e : own[i]? = some (a, d)) (hd : D.At s.heap a d') : Sg c F vals (own.set i (a, d')) s := H.upd e (Heap.SameBut.refl _ _) hd Same.rfl

theorem xE {Q : Flow → Shared → Prop} {e : PySem.Expr} {pos : Pos} (H : Sg c F vals own s) (h : W prog w A (eval e c.env) (fun _ => Q .next) s) (hs : swapsWith e none pos.line c.env = pure false := by rfl) : W prog w A (exec (.Expr e pos) c.env) Q s :=
  xExpr h (by unfold interactive; rw [H.ok.kind]; rfl) hs

/-! ints -/
theorem oAdd {a b : Int} {t u : Tok} (H : Sg c F vals own s) (h : ∀ t s', Sg c F vals own s' → Q (.int (a + b) t) s') : W prog w A (binaryOp .Add (.int a t) (.int b u)) Q s := ⟨@PyProof.Rows.add_int _ _ _ _ _ _ _ _ _ _ (h _ _ H.toks)⟩
theorem oSub {a b : Int} {t u : Tok} (H : Sg c F vals own s) (h : ∀ t s', Sg c F vals own s' → Q (.int (a - b) t) s') : W prog w A (binaryOp .Sub (.int a t) (.int b u)) Q s := ⟨@PyProof.Rows.sub_int _ _ _ _ _ _ _ _ _ _ (h _ _ H.toks)⟩
theorem oMul {a b : Int} {t u : Tok} (H : Sg c F vals own s) (hm : IntMulOk a b) (h : ∀ t s', Sg c F vals own s' → Q (.int (a * b) t) s') : W prog w A (binaryOp .Mult (.int a t) (.int b u)) Q s := ⟨@PyProof.Rows.mul_int _ _ _ _ _ _ _ _ _ _ (h _ _ H.toks) hm⟩
theorem oMod {a b : Int} {t u : Tok} (H : Sg c F vals own s) (hb : 0 < b) (h : ∀ t s', Sg c F vals own s' → Q (.int (a % b) t) s') : W prog w A (binaryOp .Mod (.int a t) (.int b u)) Q s :=
  ⟨@PyProof.Rows.mod_int' _ _ _ _ _ _ _ _ _ _ (by exact zq33 hb) (by rw [Int.fmod_eq_emod_of_nonneg a (by exact zq32 hb)]; exact h _ _ H.toks)⟩
theorem oDiv {a b : Int} {t u : Tok} (H : Sg c F vals own s) (hb : 0 < b) (hs : b < 2 ^ 20) (h : ∀ t s', Sg c F vals own s' → Q (.int (a / b) t) s') : W prog w A (binaryOp .FloorDiv (.int a t) (.int b u)) Q s :=
  ⟨@PyProof.Rows.floordiv_int _ _ _ _ _ _ _ _ _ _ (by exact zq33 hb) (by rw [Int.fdiv_eq_ediv_of_nonneg a (by exact zq32 hb)]; exact h _ _ H.toks) (Or.inl (PyProof.noPylong_small (by exact zq31 hb hs)))⟩
theorem oPow {a n : Int} {t u : Tok} (H : Sg c F vals own s) (hn : 0 ≤ n) (hs : (Builtin.Int.intBits a : Int) * n ≤ 2 ^ 27) (h : ∀ t s', Sg c F vals own s' → Q (.int (a ^ n.toNat) t) s') : W prog w A (binaryOp .Pow (.int a t) (.int n u)) Q s :=
  ⟨@PyProof.Rows.pow_int _ _ _ _ _ _ _ _ _ _ hn hs (h _ _ H.toks)⟩
theorem oNeg {a : Int} {t : Tok} (H : Sg c F vals own s) (h : ∀ t s', Sg c F vals own s' → Q (.int (-a) t) s') : W prog w A (unaryOp .USub (.int a t)) Q s := ⟨@PyProof.Rows.neg_int _ _ _ _ _ _ _ _ (h _ _ H.toks)⟩
theorem iAdd {a b : Int} {t u : Tok} (H : Sg c F vals own s) (h : ∀ t s', Sg c F vals own s' → Q (.int (a + b) t) s') : W prog w A (inplaceOp .Add (.int a t) (.int b u)) Q s := ⟨@PyProof.Rows.iadd_int _ _ _ _ _ _ _ _ _ _ (h _ _ H.toks)⟩
theorem iSub {a b : Int} {t u : Tok} (H : Sg c F vals own s) (h : ∀ t s', Sg c F vals own s' → Q (.int (a - b) t) s') : W prog w A (inplaceOp .Sub (.int a t) (.int b u)) Q s := ⟨@PyProof.Rows.isub_int _ _ _ _ _ _ _ _ _ _ (h _ _ H.toks)⟩
theorem cLt {a b : Int} {t u : Tok} (h : Q (.bool (decide (a < b))) s) : W prog w A (compareOp .Lt (.int a t) (.int b u)) Q s := ⟨@PyProof.Rows.lt_int _ _ _ _ _ _ _ _ _ _ h⟩
theorem cGt {a b : Int} {t u : Tok} (h : Q (.bool (decide (b < a))) s) : W prog w A (compareOp .Gt (.int a t) (.int b u)) Q s := ⟨@PyProof.Rows.gt_int _ _ _ _ _ _ _ _ _ _ h⟩
theorem cEq {a b : Int} {t u : Tok} (h : Q (.bool (a == b)) s) : W prog w A (compareOp .Eq (.int a t) (.int b u)) Q s := ⟨@PyProof.Rows.eq_int _ _ _ _ _ _ _ _ _ _ h⟩
theorem cNe {a b : Int} {t u : Tok} (h : Q (.bool (a != b)) s) : W prog w A (compareOp .NotEq (.int a t) (.int b u)) Q s := ⟨@PyProof.Rows.ne_int _ _ _ _ _ _ _ _ _ _ h⟩

/-! lists -/
theorem mkList {vs : List Value} (H : Sg c F vals own s) (h : ∀ a s', Sg c F vals (own ++ [(a, .list vs)]) s' → Q (.ref a) s') (hz : vs.length ≤ sizeLine := by exact Nat.le_of_ble_eq_true rfl) : W prog w A (newList vs) Q s :=
  ⟨@wpAny_newObj_type _ _ _ _ _ _ _ _ (h _ _ (H.add (H.heap (t := s.toks) push_get) fresh_size ⟨0, Heap.get?_push_size _ rfl⟩)) (by show vs.toArray.size ≤ _; rw [List.size_toArray]; exact hz)⟩
theorem mkInts {vs : List Value} {ns : List Int} (H : Sg c F vals own s) (hi : IntsAre vs ns) (h : ∀ a s', Sg c F vals (own ++ [(a, .ints ns)]) s' → Q (.ref a) s') (hz : vs.length ≤ sizeLine := by exact Nat.le_of_ble_eq_true rfl) : W prog w A (newList vs) Q s :=
  ⟨@wpAny_newObj_type _ _ _ _ _ _ _ _ (h _ _ (H.add (H.heap (t := s.toks) push_get) fresh_size ⟨vs, 0, Heap.get?_push_size _ rfl, hi⟩)) (by show vs.toArray.size ≤ _; rw [List.size_toArray]; exact hz)⟩
theorem cLen {a : Addr} {k : Nat} (H : Sg c F vals own s) (hl : IsLst s.heap a k) (hk : k < 2 ^ 62) (h : ∀ t s', Sg c F vals own s' → Q (.int k t) s') : W prog w A (call (.builtin "len") [.ref a]) Q s := by
  obtain ⟨vs, hl, rfl⟩ := hl
  refine ⟨@PySem.Calls.call_len_list _ _ _ _ _ _ _ _ hl (by rw [List.size_toArray]; exact zq30 hk) ?_⟩
  rw [List.size_toArray]
  exact h _ _ H.toks
theorem gInt {a : Addr} {ns : List Int} {k : Int} {u : Tok} (hl : D.At s.heap a (.ints ns)) (h0 : 0 ≤ k) (h1 : k < ns.length) (hk : ns.length < 2 ^ 62) (h : ∀ t, Q (.int (ns.getD k.toNat 0) t) s) : W prog w A (getItem (.ref a) (.int k u)) Q s :=
  let ⟨_, e, i⟩ := D.isI hl; ⟨@getItem_intsK _ _ _ _ _ _ _ _ _ _ _ e i h0 h1 (by exact zq22 h1 hk) h⟩
theorem subI {value slice : PySem.Expr} {a : Addr} {ns : List Int} {k : Int} {u : Tok} (hl : D.At s.heap a (.ints ns)) (h0 : 0 ≤ k) (h1 : k < ns.length) (hk : ns.length < 2 ^ 62) (h : ∀ t, Q (.int (ns.getD k.toNat 0) t) s)
    (hs : subscripted slice false (.ref a) (.int k u) = operate [.ref a, .int k u] (getItem (.ref a) (.int k u)) := by rfl) :
    W prog w A (subscriptTail value slice (.ref a) (.int k u)) Q s := let ⟨_, e, i⟩ := D.isI hl; ⟨@item_anyK _ _ _ _ _ _ _ _ _ _ _ _ _ e i h0 h1 (by exact zq22 h1 hk) h hs⟩
theorem subL {value slice : PySem.Expr} {a : Addr} {vs : List Value} {k : Int} {u : Tok} {v : Value} (hl : D.At s.heap a (.list vs)) (h0 : 0 ≤ k) (hk : k < 2 ^ 62) (hv : vs[k.toNat]? = some v) (h : Q v s)
    (hs : subscripted slice false (.ref a) (.int k u) = operate [.ref a, .int k u] (getItem (.ref a) (.int k u)) := by rfl) :
    W prog w A (subscriptTail value slice (.ref a) (.int k u)) Q s := ⟨@tail_any _ _ _ _ _ _ _ _ _ _ _ _ _ (D.isL hl).typeIs slot_list_getitem.lookup (@wpAny_getItem_list _ _ _ _ _ _ _ _ _ _ _ (D.isL hl) h0 (by exact zq29 hk) (by simpa using hv) h) hs⟩
/-- the last item -/
theorem subLast {value slice : PySem.Expr} {a : Addr} {ns : List Int} {u : Tok} (hl : D.At s.heap a (.ints ns)) (h1 : ns ≠ []) (h : ∀ t, Q (.int (ns.getLastD 0) t) s)
    (hs : subscripted slice false (.ref a) (.int (-1) u) = operate [.ref a, .int (-1) u] (getItem (.ref a) (.int (-1) u)) := by rfl) :
    W prog w A (subscriptTail value slice (.ref a) (.int (-1) u)) Q s := by
  obtain ⟨vs, e, i⟩ := D.isI hl
  have hlen := i.length
  have hp : 0 < ns.length := List.length_pos_iff.mpr h1
  obtain ⟨y, t, e1, e2, e3⟩ := kpa_ints i (by exact zq28 hlen hp)
  refine ⟨@tail_any _ _ _ _ _ _ _ _ _ _ _ _ _ e.typeIs slot_list_getitem.lookup (@kde_getNeg _ _ _ _ _ _ _ _ _ (vs.length - 1) y _ e (by decide) (by decide) ?_ ?_ ?_) hs⟩
  · unfold seqIndex?
    simp only [Int.reduceNeg, Int.reduceLT, if_true]
    rw [if_pos (by simp; exact zq25 hlen hp)]
    congr 1; exact zq24
  · rw [e1]; simp
  · rw [e2]; exact h t

noncomputable def D.isList : D → Bool
  | .list _ | .ints _ => true
  | _ => false
theorem D.listed {h : Heap} {a : Addr} : ∀ {d : D}, D.At h a d → d.isList = true → ∃ its n, h.get? a = some (listOf its n)
  | .list _, ⟨n, e⟩, _ => ⟨_, n, e⟩
  | .ints _, ⟨_, n, e, _⟩, _ => ⟨_, n, e⟩
  | .obj _, _, hd => by cases hd
  | .cell _, _, hd => by cases hd
  | .fact _, _, hd => by cases hd
theorem gmList {a : Addr} {d : D} {name : Str} {id : String} {pl : Sem Bool} {Q : Value × List Value → Shared → Prop} (hl : D.At s.heap a d) (hd : d.isList = true) (slot : Slot "list" name id) (hty : typeOf (.builtin id) = pure (.type "method_descriptor"))
    (h : Q (.builtin id, [.ref a]) s) : W prog w A (getMethod (.ref a) name pl) Q s := by
  obtain ⟨its, n, e⟩ := D.listed hl hd
  exact ⟨@getMethod_builtin _ _ _ _ _ _ _ _ _ _ ⟨_, e, rfl⟩ PySem.F.plainAttrs_list slot hty (fun a' e' => by cases e'; exact ⟨_, e, rfl⟩) h⟩
theorem gmAppend {a : Addr} {d : D} {pl : Sem Bool} {Q : Value × List Value → Shared → Prop} (hl : D.At s.heap a d) (hd : d.isList = true) (h : Q (.builtin "list.append", [.ref a]) s) : W prog w A (getMethod (.ref a) "append" pl) Q s := by
  obtain ⟨its, n, e⟩ := D.listed hl hd
  exact ⟨@Calls.getMethod_list_append _ _ _ _ _ _ _ _ e rfl rfl h⟩

theorem cAppend {i : Nat} {a : Addr} {vs : List Value} {v : Value} (H : Sg c F vals own s) (e : own[i]? = some (a, .list vs)) (hz : vs.length ≤ sizeLine) (h : ∀ s', Sg c F vals (own.set i (a, .list (vs ++ [v]))) s' → Q .none s') :
    W prog w A (call (.builtin "list.append") [.ref a, v]) Q s := by
  obtain ⟨n, e1⟩ := H.at e
  refine ⟨@append_at _ _ _ _ _ _ _ _ _ _ e1 (fun h' hs ho => h _ (H.upd e hs ⟨n + 1, ?_⟩ Same.rfl)) (by rw [List.size_toArray]; exact hz)⟩
  rw [ho]; simp
theorem cAppendI {i : Nat} {a : Addr} {ns : List Int} {x : Int} {t : Tok} (H : Sg c F vals own s) (e : own[i]? = some (a, .ints ns)) (hz : ns.length ≤ sizeLine) (h : ∀ s', Sg c F vals (own.set i (a, .ints (ns ++ [x]))) s' → Q .none s') :
    W prog w A (call (.builtin "list.append") [.ref a, .int x t]) Q s := by
  obtain ⟨vs, n, e1, hi⟩ := H.at e
  refine ⟨@append_at _ _ _ _ _ _ _ _ _ _ e1 (fun h' hs ho => h _ (H.upd e hs ⟨vs ++ [.int x t], n + 1, ?_, ints_snoc hi⟩ Same.rfl)) (by rw [List.size_toArray, hi.length]; exact hz)⟩
  rw [ho]; simp
theorem cInsert0 {i : Nat} {a : Addr} {vs : List Value} {v : Value} {t : Tok} (H : Sg c F vals own s) (e : own[i]? = some (a, .list vs)) (hz : vs.length ≤ sizeLine) (h : ∀ s', Sg c F vals (own.set i (a, .list (v :: vs))) s' → Q .none s') :
    W prog w A (call (.builtin "list.insert") [.ref a, .int 0 t, v]) Q s := by
  obtain ⟨n, e1⟩ := H.at e
  refine ⟨call_meets PySem.F.slot_list_insert ⟨_, e1, rfl⟩ PySem.F.entry_list_insert (PySem.F.args_list_insert_3 _ _ _) (PySem.AutoSeq1.list_insert_list_int_val_1 a _ n 0 t v (by decide) (by rw [List.size_toArray]; exact hz)) ⟨e1, h _ (H.upd e (Heap.SameBut.update ..) ⟨n + 1, ?_⟩ Same.rfl)⟩⟩
  have q := PySem.IsL.update (n := n) e1 (fun xs : Array Value => ((xs.extract 0 (if (0:Int) < 0 then (0 + (xs.size:Int)).toNat else min (0:Int).toNat xs.size)).push v ++ xs.extract (if (0:Int) < 0 then (0 + (xs.size:Int)).toNat else min (0:Int).toNat xs.size)))
  have ee : ((vs.toArray.extract 0 (if (0:Int) < 0 then (0 + (vs.toArray.size:Int)).toNat else min (0:Int).toNat vs.toArray.size)).push v ++ vs.toArray.extract (if (0:Int) < 0 then (0 + (vs.toArray.size:Int)).toNat else min (0:Int).toNat vs.toArray.size)) = (v :: vs).toArray := by
    simp
  rw [ee, if_neg (by simp)] at q
  exact q
theorem setI {i : Nat} {a : Addr} {ns : List Int} {k x : Int} {t u : Tok} {Q : Unit → Shared → Prop} (H : Sg c F vals own s) (e : own[i]? = some (a, .ints ns)) (h0 : 0 ≤ k) (h1 : k < ns.length) (hz : ns.length < 2 ^ 62)
    (h : ∀ s', Sg c F vals (own.set i (a, .ints (ns.set k.toNat x))) s' → Q () s') : W prog w A (setItem (.ref a) (.int k t) (.int x u)) Q s := by
  obtain ⟨vs, n, e1, hi⟩ := H.at e
  have hl := hi.length
  refine ⟨@ki_setAt _ _ _ _ _ _ _ _ _ _ _ _ e1 h0 (by exact zq22 h1 hz) (by rw [List.size_toArray]; exact zq19 h1 hl) (h _ (H.upd e (Heap.SameBut.update ..) ⟨vs.set k.toNat (.int x u), n, ?_, ints_set hi _⟩ Same.rfl))⟩
  have q := PySem.IsL.update (n := n) e1 (fun xs : Array Value => xs.setIfInBounds k.toNat (.int x u))
  rw [if_pos (by simp)] at q
  refine q.trans ?_
  simp
theorem addII {a b : Addr} {ns ms : List Int} (H : Sg c F vals own s) (ha : D.At s.heap a (.ints ns)) (hb : D.At s.heap b (.ints ms)) (hz : ns.length + ms.length ≤ sizeLine) (h : ∀ r s', Sg c F vals (own ++ [(r, .ints (ns ++ ms))]) s' → s.heap.StaysIn s'.heap → Q (.ref r) s') :
    W prog w A (binaryOp .Add (.ref a) (.ref b)) Q s := by
  obtain ⟨vs, n, e1, hi⟩ := ha
  obtain ⟨us, m, e2, hj⟩ := hb
  refine ⟨@PySem.P.add_list _ _ _ _ _ _ _ _ _ _ _ _ e1 e2 (h _ _ (H.add (H.heap (t := s.toks) push_get) fresh_size ⟨vs ++ us, 0, ?_, ints_append hi hj⟩) push_get) (by rw [List.size_toArray, List.size_toArray, hi.length, hj.length]; exact hz)⟩
  rw [Heap.get?_push_size _ rfl]; simp

/-! tuples -/
noncomputable abbrev tupO (vs : List Value) : D := .obj { cls := .type "tuple", data := .seq vs.toArray }
theorem mkTup {vs : List Value} (H : Sg c F vals own s) (h : ∀ a s', Sg c F vals (own ++ [(a, tupO vs)]) s' → Q (.ref a) s') (hz : vs.length ≤ sizeLine := by exact Nat.le_of_ble_eq_true rfl) : W prog w A (newTuple vs) Q s :=
  ⟨@wpAny_newObj_type _ _ _ _ _ _ _ _ (h _ _ (H.add (H.heap (t := s.toks) push_get) fresh_size (Heap.get?_push_size _ rfl))) (by show vs.toArray.size ≤ _; rw [List.size_toArray]; exact hz)⟩
theorem isTup {h : Heap} {a : Addr} {vs : List Value} (e : D.At h a (tupO vs)) : IsTup h a vs.toArray := ⟨_, e, rfl, 0, rfl⟩
theorem subT {value slice : PySem.Expr} {a : Addr} {vs : List Value} {k : Int} {u : Tok} {v : Value} (hl : D.At s.heap a (tupO vs)) (h0 : 0 ≤ k) (h1 : k < vs.length) (hz : vs.length < 2 ^ 62) (hv : vs[k.toNat]? = some v) (h : Q v s)
    (hs : subscripted slice false (.ref a) (.int k u) = operate [.ref a, .int k u] (getItem (.ref a) (.int k u)) := by rfl) : W prog w A (subscriptTail value slice (.ref a) (.int k u)) Q s :=
  ⟨@item_tupleT _ _ _ _ _ _ _ _ _ _ _ k.toNat _ _ (isTup hl) (by exact zq23 h0) (by exact zq22 h1 hz) (by
    unfold seqIndex?
    have : ¬ k < 0 := by exact zq21 h0
    simp [this, h0, h1]) hv h hs⟩

theorem ints_get : ∀ {vs : List Value} {ns : List Int} {k : Nat}, IntsAre vs ns → k < ns.length → ∃ t, vs[k]? = some (.int (ns.getD k 0) t)
  | _, _, 0, .cons _ t _, _ => ⟨t, rfl⟩
  | _, _, k + 1, .cons _ _ h, hk => by
    obtain ⟨t, e⟩ := ints_get (k := k) h (by simpa using hk)
    exact ⟨t, by simpa using e⟩
theorem subTI {value slice : PySem.Expr} {a : Addr} {vs : List Value} {ns : List Int} {k : Int} {u : Tok} (hl : D.At s.heap a (tupO vs)) (hi : IntsAre vs ns) (h0 : 0 ≤ k) (h1 : k < ns.length) (hz : ns.length < 2 ^ 62) (h : ∀ t, Q (.int (ns.getD k.toNat 0) t) s)
    (hs : subscripted slice false (.ref a) (.int k u) = operate [.ref a, .int k u] (getItem (.ref a) (.int k u)) := by rfl) : W prog w A (subscriptTail value slice (.ref a) (.int k u)) Q s := by
  obtain ⟨t, e⟩ := ints_get (k := k.toNat) hi (by exact zq20 h0 h1)
  have hl' := hi.length
  exact subT hl h0 (by exact zq19 h1 hl') (by exact zq18 hz hl') e (h t) hs

/-- a call's fresh object -/
noncomputable def New (s : Shared) (d : D) (v : Value) (h' : Heap) : Prop := ∃ a, v = .ref a ∧ s.heap.get? a = none ∧ D.At h' a d
theorem Ct.useN {n : Nat} {f : Value} {args : List Value} {d : D} (h : Ct prog w n f args s (New s d)) (H : Sg c F vals own s) (r : Room A n)
    (k : ∀ a s', Sg c F vals (own ++ [(a, d)]) s' → s.heap.StaysIn s'.heap → Q (.ref a) s') : W prog w A (call f args) Q s :=
  h A Q r fun v s' x y ⟨a, e, e1, e2⟩ => e ▸ k a s' (H.add (H.grow x y) e1 e2) x
theorem Sg.new (H : Sg c F vals own s) {i : Nat} {a : Addr} {d : D} (e : own[i]? = some (a, d)) (hF : F = c.s0.heap) : New c.s0 d (.ref a) s.heap :=
  have m := H.mine _ (List.mem_of_getElem? e)
  ⟨a, rfl, hF ▸ m.2.2, m.1⟩

/-! [x] * n, slices -/
theorem mulLI {i : Nat} {a : Addr} {x n : Int} {t : Tok} (H : Sg c F vals own s) (e : own[i]? = some (a, .ints [x])) (h0 : 0 ≤ n) (hz : n ≤ 2 ^ 20) (h : ∀ r s', Sg c F vals (own ++ [(r, .ints (List.replicate n.toNat x))]) s' → Q (.ref r) s') :
    W prog w A (binaryOp .Mult (.ref a) (.int n t)) Q s := by
  obtain ⟨vs, m, e1, hi⟩ := H.at e
  obtain ⟨t0, rfl⟩ : ∃ t0, vs = [.int x t0] := by
    cases hi with
    | cons _ t0 h => cases h; exact ⟨t0, rfl⟩
  refine ⟨wpAny_binaryOp_repeat_ref (T := "list") (U := "int") (by decide) ⟨_, e1, rfl⟩ (fun s' => typeIs_int s' n t) noFill_list_mul PySem.F.fills_int_mul PySem.F.slot_int_rmul repeat_list PySem.F.slot_int_index.lookup
    (call_meets PySem.F.slot_int_rmul (typeIs_int s n t) PySem.F.entry_int_rmul (PySem.F.args_int_rmul_2 _ _) (int___rmul___int_list n t a _ m)
      ⟨e1, rfl, ⟨_, e1, rfl⟩, call_meets PySem.F.slot_list_mul ⟨_, e1, rfl⟩ PySem.F.entry_list_mul (PySem.F.args_list_mul_2 _ _)
        (PySem.AutoListH.list___mul___list_int_3 a _ m n t (by simp [Builtin.List.listFitsIndex]; exact zq17 h0 hz) (by simp; exact zq16 hz) (by simp [Builtin.List.listTooLong, sizeLine]; exact zq15 hz))
        ⟨e1, h _ _ (H.add (H.heap (t := s.toks) push_get) fresh_size ?_)⟩⟩)⟩
  refine ⟨List.replicate n.toNat (.int x t0), 0, ?_, ints_repl _⟩
  rw [Heap.get?_push_size _ rfl]
  have : ∀ (k : Nat) (acc : Array Value), List.foldl (fun x1 x2 : Array Value => x1 ++ x2) acc (List.replicate k #[Value.int x t0]) = acc ++ (List.replicate k (Value.int x t0)).toArray := by
    intro k
    induction k with
    | zero => intro acc; simp
    | succ k ih =>
      intro acc
      rw [List.replicate_succ, List.foldl_cons, ih, List.replicate_succ]
      apply Array.toList_inj.mp
      simp
  simp [this]

/-- fresh objects, all apart -/
noncomputable def NewL (s : Shared) (l : List (Addr × D)) (h' : Heap) : Prop := (∀ p ∈ l, s.heap.get? p.1 = none ∧ D.At h' p.1 p.2) ∧ (l.map (·.1)).Nodup
theorem Sg.newL (H : Sg c F vals own s) (hF : F = c.s0.heap) : NewL c.s0 own s.heap := ⟨fun p hp => ⟨hF ▸ (H.mine p hp).2.2, (H.mine p hp).1⟩, H.nd⟩
theorem NewL.sub {s : Shared} {l l' : List (Addr × D)} {h : Heap} (n : NewL s l h) (k : l'.Sublist l) : NewL s l' h := ⟨fun p hp => n.1 p (k.subset hp), n.2.sublist (k.map _)⟩
theorem NewL.swap {s : Shared} {l l' : List (Addr × D)} {h : Heap} (n : NewL s l h) (k : l.Perm l') : NewL s l' h := ⟨fun p hp => n.1 p (k.symm.subset hp), (k.map _).nodup n.2⟩
theorem Sg.adds (H : Sg c F vals own s) {s' : Shared} (H' : Sg c F vals own s') {l : List (Addr × D)} (n : NewL s l s'.heap) : Sg c F vals (own ++ l) s' := by
  refine ⟨H'.ok, H'.ns, H'.sub, H'.keep, H'.hl, fun p hp => ?_, ?_, H'.same⟩
  · rcases List.mem_append.mp hp with hp | hp
    · exact H'.mine p hp
    · obtain ⟨fr, hd⟩ := n.1 p hp
      refine ⟨hd, fun e => ?_, ?_⟩
      · obtain ⟨o, _, _, ho, _⟩ := H.ns
        rw [← e, fr] at ho; cases ho
      · cases q : F.get? p.1 with
        | none => rfl
        | some o => have := H.keep p.1 o q; rw [fr] at this; cases this
  · rw [List.map_append]
    refine List.nodup_append.mpr ⟨H'.nd, n.2, fun x hx y hy e => ?_⟩
    obtain ⟨p, hp, rfl⟩ := List.mem_map.mp hx
    obtain ⟨q, hq, rfl⟩ := List.mem_map.mp hy
    obtain ⟨o, ho⟩ := (H.mine p hp).1.some
    have := (n.1 q hq).1
    rw [← e, ho] at this; cases this

theorem iteD {p : Prop} [Decidable p] {X Y : Prop} (h1 : p → X) (h2 : ¬ p → Y) : if (decide p) = true then X else Y := by
  by_cases h : p
  · simp only [h, decide_true, if_true]; exact h1 h
  · simp only [h, decide_false, Bool.false_eq_true, if_false]; exact h2 h
theorem getLen {x : Addr × D} : ∀ L : List (Addr × D), (L ++ [x])[L.length]? = some x := fun L => by simp
theorem setLen {x y : Addr × D} : ∀ L : List (Addr × D), (L ++ [x]).set L.length y = L ++ [y] := fun L => by simp
end
end Mine

end

section
open PySem PySem.Spec PySem.Calls PyProof.Rows PySem.W
set_option Elab.async false
set_option linter.all false
set_option maxRecDepth 100000
set_option autoImplicit false
namespace Mine

structure Ads where
  w : World
  fn : Nat → Addr
  ntTok : Tok
  exact : Addr
  cls : Addr

/-- the defs: where they lie, what they are -/
noncomputable def ftab (ad : Ads) : List (Addr × Stmt) := [
  (ad.fn 0, stm 1), (ad.fn 1, stm 2), (ad.fn 2, stm 3), (ad.fn 3, stm 4), (ad.fn 4, stm 60), (ad.fn 5, stm 6), (ad.fn 6, stm 63), (ad.fn 7, stm 64), (ad.fn 8, stm 65), (ad.fn 9, stm 66), (ad.fn 10, stm 67),
  (ad.fn 11, stm 68), (ad.fn 12, stm 69), (ad.fn 13, stm 70), (ad.fn 14, stm 71), (ad.fn 15, stm 62), (ad.fn 16, dStm (stm 8) 0), (ad.fn 17, dStm (stm 8) 1), (ad.fn 18, dStm (stm 8) 2), (ad.fn 19, dStm (stm 8) 3)]
/-- the global names that are read -/
noncomputable def gtab (ad : Ads) : List (Str × Value) := [
  ("mul", .ref (ad.fn 0)), ("neg", .ref (ad.fn 1)), ("iadd", .ref (ad.fn 2)), ("isub", .ref (ad.fn 3)), ("ISTERMINAL", .ref (ad.fn 4)), ("Int2AP", .ref (ad.fn 5)), ("_law_word", .ref (ad.fn 6)), ("_law_number", .ref (ad.fn 7)),
  ("_law_page", .ref (ad.fn 8)), ("_law_drawn", .ref (ad.fn 9)), ("_law_ahead", .ref (ad.fn 10)), ("_law_square", .ref (ad.fn 11)), ("_law_sum", .ref (ad.fn 12)), ("_law_corners", .ref (ad.fn 13)), ("_law_changes", .ref (ad.fn 14)), ("_law_lexer", .ref (ad.fn 15)),
  ("NT_OFFSET", .int 256 ad.ntTok), ("EXACT_TOKEN_TYPES", .ref ad.exact), ("_netrclex", .ref ad.cls),
  ("len", .builtin "len"), ("range", .type "range"), ("ord", .builtin "ord"), ("int", .type "int"), ("abs", .builtin "abs"), ("divmod", .builtin "divmod"), ("iter", .builtin "iter"), ("min", .builtin "min")]

/-- the table of signs -/
noncomputable def Tab (ad : Ads) (h : Heap) : Prop := ∃ (f : Str → Option Value) (t u : Tok), (∀ prog, h.MapOf (strKind prog ad.w) ad.exact f) ∧ f (Str.ofString "+") = some (.int 14 t) ∧ f (Str.ofString "-") = some (.int 15 u)
theorem Tab.keeps {ad : Ads} {h h' : Heap} (k : h.StaysIn h') (b : Tab ad h) : Tab ad h' :=
  let ⟨f, t, u, m, r⟩ := b; ⟨f, t, u, fun p => let ⟨o, es, ep, ho, q⟩ := m p; ⟨o, es, ep, k _ _ ho, q⟩, r⟩
structure Base (ad : Ads) (h : Heap) : Prop where
  tab : Tab ad h
  lim : h.NoLimit
  glob : GlobV h (gtab ad)
  fns : ∀ p ∈ ftab ad, IsFn h p.1 (dArgs p.2) (dBody p.2) (dScope p.2) []
theorem Base.fn {ad : Ads} {h : Heap} (b : Base ad h) (i : Nat) {f : Addr} {st : Stmt} (e : (ftab ad)[i]? = some (f, st)) : IsFn h f (dArgs st) (dBody st) (dScope st) [] := b.fns _ (List.mem_of_getElem? e)
theorem Base.obj {ad : Ads} {h : Heap} (b : Base ad h) (i : Nat) {f : Addr} {st : Stmt} (e : (ftab ad)[i]? = some (f, st)) : FnObj h f := let ⟨fo, _, _, _, _, _, _, _, a, _, d, _⟩ := b.fn i e; ⟨fo, _, a, d⟩
theorem Base.keeps {ad : Ads} {h h' : Heap} (k : h.StaysIn h') (b : Base ad h) : Base ad h' := ⟨b.tab.keeps k, b.lim.keeps k, b.glob.keeps k, fun p hp => (b.fns p hp).keeps k⟩

/-- at most k bits -/
noncomputable def Sm (k : Nat) (x : Int) : Prop := x.natAbs < 2 ^ k
theorem Sm.le {j k : Nat} {x : Int} (h : Sm j x) (e : j ≤ k) : Sm k x := Nat.lt_of_lt_of_le h (Nat.pow_le_pow_right (by decide) e)
theorem Sm.mulOk {j k : Nat} {x y : Int} (h : Sm j x) (g : Sm k y) (e : j + k ≤ 134217728 := by decide) : IntMulOk x y := PySem.IntMulOk.of_le (PyProof.Rows.intBits_le h) (PyProof.Rows.intBits_le g) e

section
variable {prog : Program} {w : World} {s : Shared} {ad : Ads} {x y : Int} {t u : Tok}

theorem mul_ok (hb : Base ad s.heap) (hm : IntMulOk x y) : Ct prog w 1 (.ref (ad.fn 0)) [.int x t, .int y u] s (fun v _ => ∃ tk, v = .int (x * y) tk) := by
  intro A Q rm ret
  refine call_fn (pn := ["a", "b"]) (rest := []) (hb.fn 0 rfl) hb.lim rm (by intros _ _ _ _ _ _ _ _ _ _; rfl) rfl (by kernel_rfl) (by decide +kernel) (hb.glob.pick []) fun env s _ _ H rm => ?_
  refine x1 (xRet (eBin ?_))
  refine nL H (i := 0) rfl rfl ?_
  refine nL H (i := 1) rfl rfl ?_
  refine oMul H hm fun t s H => ?_
  exact ret _ _ H.keep H.same ⟨_, rfl⟩
theorem neg_ok (hb : Base ad s.heap) : Ct prog w 1 (.ref (ad.fn 1)) [.int x t] s (fun v _ => ∃ tk, v = .int (-x) tk) := by
  intro A Q rm ret
  refine call_fn (pn := ["a"]) (rest := []) (hb.fn 1 rfl) hb.lim rm (by intros _ _ _ _ _ _ _ _ _ _; rfl) rfl (by kernel_rfl) (by decide +kernel) (hb.glob.pick []) fun env s _ _ H rm => ?_
  refine x1 (xRet (eUn ?_))
  refine nL H (i := 0) rfl rfl ?_
  refine oNeg H fun t s H => ?_
  exact ret _ _ H.keep H.same ⟨_, rfl⟩
theorem iadd_ok (hb : Base ad s.heap) : Ct prog w 1 (.ref (ad.fn 2)) [.int x t, .int y u] s (fun v _ => ∃ tk, v = .int (x + y) tk) := by
  intro A Q rm ret
  refine call_fn (pn := ["a", "b"]) (rest := []) (hb.fn 2 rfl) hb.lim rm (by intros _ _ _ _ _ _ _ _ _ _; rfl) rfl (by kernel_rfl) (by decide +kernel) (hb.glob.pick []) fun env s _ _ H rm => ?_
  refine x1 (xAug ?_)
  refine ldN H (i := 0) rfl rfl ?_
  refine nL H (i := 1) rfl rfl ?_
  refine iAdd H fun t s H => ?_
  refine stL H (i := 0) rfl rfl fun s H => ?_
  refine x1 (xRet ?_)
  refine nL H (i := 0) rfl rfl ?_
  exact ret _ _ H.keep H.same ⟨_, rfl⟩
theorem isub_ok (hb : Base ad s.heap) : Ct prog w 1 (.ref (ad.fn 3)) [.int x t, .int y u] s (fun v _ => ∃ tk, v = .int (x - y) tk) := by
  intro A Q rm ret
  refine call_fn (pn := ["a", "b"]) (rest := []) (hb.fn 3 rfl) hb.lim rm (by intros _ _ _ _ _ _ _ _ _ _; rfl) rfl (by kernel_rfl) (by decide +kernel) (hb.glob.pick []) fun env s _ _ H rm => ?_
  refine x1 (xAug ?_)
  refine ldN H (i := 0) rfl rfl ?_
  refine nL H (i := 1) rfl rfl ?_
  refine iSub H fun t s H => ?_
  refine stL H (i := 0) rfl rfl fun s H => ?_
  refine x1 (xRet ?_)
  refine nL H (i := 0) rfl rfl ?_
  exact ret _ _ H.keep H.same ⟨_, rfl⟩
theorem isTerm_ok (hb : Base ad s.heap) : Ct prog w 1 (.ref (ad.fn 4)) [.int x t] s (fun v _ => v = .bool (decide (x < 256))) := by
  intro A Q rm ret
  refine call_fn (pn := ["x"]) (rest := []) (hb.fn 4 rfl) hb.lim rm (by intros _ _ _ _ _ _ _ _ _ _; rfl) rfl (by kernel_rfl) (by decide +kernel) (hb.glob.pick [16]) fun env s _ _ H rm => ?_
  refine x1 (xRet (eCmp ?_))
  refine nL H (i := 0) rfl rfl ?_
  refine nG H (j := 0) rfl ?_
  refine cLt ?_
  exact ret _ _ H.keep H.same rfl

/-- the sum of the first k products -/
noncomputable def dotK (rs cs : List Int) : Nat → Int
  | 0 => 0
  | k + 1 => dotK rs cs k + rs.getD k 0 * cs.getD k 0

theorem getD_all {P : Int → Prop} {l : List Int} (h : ∀ x ∈ l, P x) {k : Nat} (hk : k < l.length) : P (l.getD k 0) := by
  rw [List.getD_eq_getElem?_getD, List.getElem?_eq_getElem hk]; exact h _ (List.getElem_mem hk)

theorem sum_ok {a b : Addr} {rs cs : List Int} (hb : Base ad s.heap) (ha : D.At s.heap a (.ints rs)) (hc : D.At s.heap b (.ints cs)) (hl : cs.length ≤ rs.length) (hz : rs.length < 2 ^ 20) (h1 : ∀ x ∈ rs, Sm 60000000 x) (h2 : ∀ x ∈ cs, Sm 60000000 x) :
    Ct prog w 3 (.ref (ad.fn 12)) [.ref a, .ref b] s (fun v _ => ∃ tk, v = .int (dotK rs cs cs.length) tk) := by
  intro A Q rm ret
  refine call_fn (pn := ["row", "column"]) (rest := ["total", "j"]) (hb.fn 12 rfl) hb.lim rm (by intros _ _ _ _ _ _ _ _ _ _; rfl) rfl (by kernel_rfl) (by decide +kernel) (hb.glob.pick [20, 19, 2, 0]) fun env s _ _ H rm => ?_
  refine x1 (xAsg ?_)
  refine kI H fun t s H => ?_
  refine stL H (i := 2) rfl rfl fun s H => ?_
  refine x1 (for_range0 rm.handled H ?_)
  refine eCall ?_
  refine nG H (j := 0) rfl ?_
  refine cwT (sp1 ?_)
  refine eCall ?_
  refine nG H (j := 1) rfl ?_
  refine cwB (sp1 ?_)
  refine nL H (i := 1) rfl rfl (sp0 ?_)
  refine cLen H (D.lsti (H.gr hc)) (by exact zq36 hl hz) fun t s H => sp0 ?_
  refine cRange1 H fun r t u v s H hr => ?_
  refine ⟨_, _, r, _, t, u, v, cs.length, fun k vals own => ∃ t jv, vals = [some (.ref a), some (.ref b), some (.int (dotK rs cs k) t), jv] ∧ own = [], rfl, H, hr, by exact zq41 hl hz, rfl, ⟨_, _, rfl, rfl⟩, ?_, ?_⟩
  · rintro k t F' _ _ s Qt hk ⟨t2, jv, rfl, rfl⟩ hF H hQ hRt
    refine stL H (i := 3) rfl rfl fun s H => ?_
    refine x1 (xAsg (eCall ?_))
    refine nG H (j := 2) rfl (cwF (sp1 ?_))
    refine nL H (i := 2) rfl rfl (sp1 (eCall ?_))
    refine nG H (j := 3) rfl (cwF (sp1 (eSub ?_)))
    refine nL H (i := 0) rfl rfl ?_
    refine nL H (i := 3) rfl rfl ?_
    refine subI (H.gr ha) (by exact zq38) (by exact zq40 hl hk) (by exact zq39 hz) fun t1 => sp1 (eSub ?_)
    refine nL H (i := 1) rfl rfl ?_
    refine nL H (i := 3) rfl rfl ?_
    refine subI (H.gr hc) (by exact zq38) (by exact zq37 hk) (by exact zq36 hl hz) fun t2 => sp0 ⟨(hb.keeps H.ground).obj 0 rfl, ?_⟩
    refine (mul_ok (hb.keeps H.ground) ?_).useI H (rm.le (by decide)) fun t s H => sp0 ⟨(hb.keeps H.ground).obj 2 rfl, ?_⟩
    · exact Sm.mulOk (getD_all h1 (by exact zq35 hl hk)) (getD_all h2 (by exact zq34 hk))
    refine (iadd_ok (hb.keeps H.ground)).useI H (rm.le (by decide)) fun t s H => ?_
    refine stL H (i := 2) rfl rfl fun s H => ?_
    exact x0 (hQ _ _ _ ⟨_, _, rfl, rfl⟩ H)
  · rintro _ _ s ⟨t2, jv, rfl, rfl⟩ H
    refine x1 (xRet ?_)
    refine nL H (i := 2) rfl rfl ?_
    exact ret _ _ H.keep H.same ⟨_, rfl⟩
end
end Mine

end

section
open PySem PySem.Spec PySem.Calls PyProof.Rows PySem.W
set_option Elab.async false
set_option linter.all false
set_option maxRecDepth 100000
set_option autoImplicit false
namespace Mine

noncomputable def divK (m : Int) : Nat → Int
  | 0 => m
  | k + 1 => divK m k / 3
noncomputable def coefK (m : Int) : Nat → List Int
  | 0 => []
  | k + 1 => coefK m k ++ [divK m k % 3 - 1]
theorem coefK_length (m : Int) : ∀ k, (coefK m k).length = k
  | 0 => rfl
  | k + 1 => by rw [coefK, List.length_append, coefK_length m k]; rfl
noncomputable def drawn (number : Int) (d : Nat) : List Int := [1, -1, 2, -2].getD (number % 4).toNat 0 :: coefK (number / 4) d

noncomputable def aheadJ (new q row : List Int) (i : Nat) : Nat → List Int
  | 0 => new
  | k + 1 => (aheadJ new q row i k).set (i + k) ((aheadJ new q row i k).getD (i + k) 0 + q.getD i 0 * row.getD k 0)
noncomputable def aheadI (new q row : List Int) : Nat → List Int
  | 0 => new
  | i + 1 => aheadJ (aheadI new q row i) q row i row.length
noncomputable def aheadB (new behind : List Int) (o : Nat) : Nat → List Int
  | 0 => new
  | k + 1 => (aheadB new behind o k).set (o + k) ((aheadB new behind o k).getD (o + k) 0 - behind.getD k 0)
noncomputable def ahead (q row behind : List Int) : List Int :=
  aheadB (aheadI (List.replicate (q.length + row.length - 1) 0) q row q.length) behind (q.length + row.length - 1 - behind.length) behind.length
theorem aheadJ_length (new q row : List Int) (i : Nat) : ∀ k, (aheadJ new q row i k).length = new.length
  | 0 => rfl
  | k + 1 => by rw [aheadJ, List.length_set, aheadJ_length]
theorem aheadI_length (new q row : List Int) : ∀ k, (aheadI new q row k).length = new.length
  | 0 => rfl
  | k + 1 => by rw [aheadI, aheadJ_length, aheadI_length]
theorem aheadB_length (new behind : List Int) (o : Nat) : ∀ k, (aheadB new behind o k).length = new.length
  | 0 => rfl
  | k + 1 => by rw [aheadB, List.length_set, aheadB_length]

/-! the square -/
noncomputable def sqE (f g under : List Int) (i j : Nat) : Int :=
  if 0 < j then (f.getD j 0 * g.getD (i + 1) 0 - f.getD (i + 1) 0 * g.getD j 0) + under.getD (j - 1) 0 else f.getD j 0 * g.getD (i + 1) 0 - f.getD (i + 1) 0 * g.getD j 0
noncomputable def sqRow (f g under : List Int) (i : Nat) : Nat → List Int
  | 0 => []
  | m + 1 => sqRow f g under i m ++ [sqE f g under i m]
/-- the k-th row that is made (the last one first), from the row under it -/
noncomputable def under (f g : List Int) : Nat → List Int
  | 0 => [0, 0, 0, 0]
  | k + 1 => sqRow f g (under f g k) (3 - k) 4
theorem sqRow_length (f g under : List Int) (i : Nat) : ∀ m, (sqRow f g under i m).length = m
  | 0 => rfl
  | m + 1 => by rw [sqRow, List.length_append, sqRow_length]; rfl
theorem under_length (f g : List Int) : ∀ k, (under f g k).length = 4
  | 0 => rfl
  | k + 1 => sqRow_length ..
noncomputable def Sq (s : Shared) (f g : List Int) (v : Value) (h' : Heap) : Prop :=
  ∃ a l0 l1 l2 l3, v = .ref a ∧ NewL s [(a, .list [.ref l0, .ref l1, .ref l2, .ref l3]), (l3, .ints (under f g 1)), (l2, .ints (under f g 2)), (l1, .ints (under f g 3)), (l0, .ints (under f g 4))] h'

section
variable {prog : Program} {w : World} {s : Shared} {ad : Ads} {t u : Tok}

theorem drawn_ok {x d : Int} (hb : Base ad s.heap) (h0 : 0 ≤ d) (h1 : d < 1000) : Ct prog w 1 (.ref (ad.fn 9)) [.int x t, .int d u] s (New s (.ints (drawn x d.toNat))) := by
  intro A Q rm ret
  refine call_fn (pn := ["number", "degree"]) (rest := ["row", "k"]) (hb.fn 9 rfl) hb.lim rm (by intros _ _ _ _ _ _ _ _ _ _; rfl) rfl (by kernel_rfl) (by decide +kernel) (hb.glob.pick [20]) fun env s _ _ H rm => ?_
  -- row = [(1, -1, 2, -2)[number % 4]]
  refine x1 (xAsg ?_)
  refine eList ?_
  refine sp1 ?_
  refine eSub ?_
  refine eTup ?_
  refine sp1 ?_
  refine kI H fun t1 s H => ?_
  refine sp1 ?_
  refine eUn ?_
  refine kI H fun t s H => ?_
  refine oNeg H fun t2 s H => ?_
  refine sp1 ?_
  refine kI H fun t3 s H => ?_
  refine sp1 ?_
  refine eUn ?_
  refine kI H fun t s H => ?_
  refine oNeg H fun t4 s H => ?_
  refine sp0 ?_
  refine mkTup H fun a s H => ?_
  refine eBin ?_
  refine nL H (i := 0) rfl rfl ?_
  refine kI H fun t s H => ?_
  refine oMod H (by decide) fun t s H => ?_
  refine subTI (ns := [1, -1, 2, -2]) (H.at (i := 0) rfl) (.cons _ _ (.cons _ _ (.cons _ _ (.cons _ _ .nil)))) (by exact zq74) (by simp; exact zq73) (by decide) fun t => ?_
  refine sp0 ?_
  refine mkInts H (.cons _ _ .nil) fun a1 s H => ?_
  refine stL H (i := 2) rfl rfl fun s H => ?_
  -- number = number // 4
  refine x1 (xAsg ?_)
  refine eBin ?_
  refine nL H (i := 0) rfl rfl ?_
  refine kI H fun t s H => ?_
  refine oDiv H (by decide) (by decide) fun t s H => ?_
  refine stL H (i := 0) rfl rfl fun s H => ?_
  -- for k in range(degree):
  refine x1 (for_range0 rm.handled H ?_)
  refine eCall ?_
  refine nG H (j := 0) rfl ?_
  refine cwT (sp1 ?_)
  refine nL H (i := 1) rfl rfl ?_
  refine sp0 ?_
  refine cRange1 H fun r t u v s H hr => ?_
  refine ⟨_, _, r, _, t, u, v, d.toNat, fun k vals own => ∃ t u kv d0, vals = [some (.int (divK (x / 4) k) t), some (.int d u), some (.ref a1), kv] ∧ own = [d0, (a1, .ints ([1, -1, 2, -2].getD (x % 4).toNat 0 :: coefK (x / 4) k))], rfl, H, hr, by exact zq72 h0 h1, rfl, ⟨_, _, _, _, rfl, rfl⟩, ?_, ?_⟩
  · rintro k t F' _ _ s Qt hk ⟨t1, u1, kv, d0, rfl, rfl⟩ hF H hQ hRt
    refine stL H (i := 3) rfl rfl fun s H => ?_
    -- row.append(number % 3 - 1)
    refine x1 (xE H ?_)
    refine eMeth ?_
    refine nL H (i := 2) rfl rfl ?_
    refine gmAppend (H.at (i := 1) rfl) rfl ?_
    refine cwB (sp1 ?_)
    refine eBin ?_
    refine eBin ?_
    refine nL H (i := 0) rfl rfl ?_
    refine kI H fun t s H => ?_
    refine oMod H (by decide) fun t s H => ?_
    refine kI H fun t s H => ?_
    refine oSub H fun t s H => ?_
    refine sp0 ?_
    refine cAppendI H (i := 1) rfl (by simp [coefK_length, sizeLine]; exact zq71 h1 hk) fun s H => ?_
    -- number = number // 3
    refine x1 (xAsg ?_)
    refine eBin ?_
    refine nL H (i := 0) rfl rfl ?_
    refine kI H fun t s H => ?_
    refine oDiv H (by decide) (by decide) fun t s H => ?_
    refine stL H (i := 0) rfl rfl fun s H => ?_
    exact x0 (hQ _ _ _ ⟨_, _, _, _, rfl, rfl⟩ H)
  · rintro _ _ s ⟨t1, u1, kv, d0, rfl, rfl⟩ H
    refine x1 (xRet ?_)
    refine nL H (i := 2) rfl rfl ?_
    exact ret _ _ H.keep H.same (H.new (i := 1) rfl rfl)

theorem ahead_ok {aq ar ab : Addr} {q row behind : List Int} (hb : Base ad s.heap) (hq : D.At s.heap aq (.ints q)) (hr : D.At s.heap ar (.ints row)) (hbe : D.At s.heap ab (.ints behind))
    (q1 : 1 ≤ q.length) (q2 : q.length < 1000) (r1 : 1 ≤ row.length) (r2 : row.length < 1000) (b1 : behind.length + 1 ≤ q.length + row.length) (sq : ∀ x ∈ q, Sm 60 x) (sr : ∀ x ∈ row, Sm 60 x) :
    Ct prog w 1 (.ref (ad.fn 10)) [.ref aq, .ref ar, .ref ab] s (New s (.ints (ahead q row behind))) := by
  intro A Q rm ret
  refine call_fn (pn := ["quotient", "row", "behind"]) (rest := ["new", "i", "j"]) (hb.fn 10 rfl) hb.lim rm (by intros _ _ _ _ _ _ _ _ _ _; rfl) rfl (by kernel_rfl) (by decide +kernel) (hb.glob.pick [19, 20]) fun env s _ _ H rm => ?_
  -- new = [0] * (len(quotient) + len(row) - 1)
  refine x1 (xAsg ?_)
  refine eBin ?_
  refine eList ?_
  refine sp1 ?_
  refine kI H fun t s H => ?_
  refine sp0 ?_
  refine mkInts H (.cons _ _ .nil) fun a0 s H => ?_
  refine eBin ?_
  refine eBin ?_
  refine eCall ?_
  refine nG H (j := 0) rfl ?_
  refine cwB (sp1 ?_)
  refine nL H (i := 0) rfl rfl ?_
  refine sp0 ?_
  refine cLen H (D.lsti (H.gr hq)) (by exact zq66 q2) fun t s H => ?_
  refine eCall ?_
  refine nG H (j := 0) rfl ?_
  refine cwB (sp1 ?_)
  refine nL H (i := 1) rfl rfl ?_
  refine sp0 ?_
  refine cLen H (D.lsti (H.gr hr)) (by exact zq66 r2) fun t s H => ?_
  refine oAdd H fun t s H => ?_
  refine kI H fun t s H => ?_
  refine oSub H fun t s H => ?_
  refine mulLI H (i := 0) rfl (by exact zq70 r1) (by exact zq69 q2 r2) fun a1 s H => ?_
  have hn : ((q.length : Int) + (row.length : Int) - 1).toNat = q.length + row.length - 1 := by exact zq68
  rw [hn] at H
  refine stL H (i := 3) rfl rfl fun s H => ?_
  -- for i in range(len(quotient)):
  refine x1 (for_range0 rm.handled H ?_)
  refine eCall ?_
  refine nG H (j := 1) rfl ?_
  refine cwT (sp1 ?_)
  refine eCall ?_
  refine nG H (j := 0) rfl ?_
  refine cwB (sp1 ?_)
  refine nL H (i := 0) rfl rfl ?_
  refine sp0 ?_
  refine cLen H (D.lsti (H.gr hq)) (by exact zq66 q2) fun t s H => ?_
  refine sp0 ?_
  refine cRange1 H fun r t u v s H hrg => ?_
  refine ⟨_, _, r, _, t, u, v, q.length, fun k vals own => ∃ iv jv d0, vals = [some (.ref aq), some (.ref ar), some (.ref ab), some (.ref a1), iv, jv] ∧ own = [d0, (a1, .ints (aheadI (List.replicate (q.length + row.length - 1) 0) q row k))], rfl, H, hrg, by exact zq67 q2, rfl, ⟨_, _, _, rfl, rfl⟩, ?_, ?_⟩
  · rintro k t F' _ _ s Qt hk ⟨iv, jv, d0, rfl, rfl⟩ hF H hQ hRt
    refine stL H (i := 4) rfl rfl fun s H => ?_
    -- for j in range(len(row)):
    refine x1 (for_range0 rm.handled H ?_)
    refine eCall ?_
    refine nG H (j := 1) rfl ?_
    refine cwT (sp1 ?_)
    refine eCall ?_
    refine nG H (j := 0) rfl ?_
    refine cwB (sp1 ?_)
    refine nL H (i := 1) rfl rfl ?_
    refine sp0 ?_
    refine cLen H (D.lsti (H.gr hr)) (by exact zq66 r2) fun t' s H => ?_
    refine sp0 ?_
    refine cRange1 H fun r t' u v s H hrg => ?_
    refine ⟨_, _, r, _, t', u, v, row.length, fun m vals own => ∃ jv d0, vals = [some (.ref aq), some (.ref ar), some (.ref ab), some (.ref a1), some (.int k t), jv] ∧ own = [d0, (a1, .ints (aheadJ (aheadI (List.replicate (q.length + row.length - 1) 0) q row k) q row k m))], rfl, H, hrg, by exact zq67 r2, rfl, ⟨_, _, rfl, rfl⟩, ?_, ?_⟩
    · rintro m t' F'' _ _ s Qt hm ⟨jv, d0, rfl, rfl⟩ hF' H hQ hRt
      refine stL H (i := 5) rfl rfl fun s H => ?_
      have hlen : (aheadJ (aheadI (List.replicate (q.length + row.length - 1) 0) q row k) q row k m).length = q.length + row.length - 1 := by rw [aheadJ_length, aheadI_length, List.length_replicate]
      -- new[i + j] += quotient[i] * row[j]
      refine x1 (xAugSub ?_)
      refine nL H (i := 3) rfl rfl ?_
      refine eBin ?_
      refine nL H (i := 4) rfl rfl ?_
      refine nL H (i := 5) rfl rfl ?_
      refine oAdd H fun t s H => ?_
      refine gInt (H.at (i := 1) rfl) (by exact zq65) (by rw [hlen]; exact zq64 hk hm) (by rw [hlen]; exact zq58 q2 r2) fun t => ?_
      refine eBin ?_
      refine eSub ?_
      refine nL H (i := 0) rfl rfl ?_
      refine nL H (i := 4) rfl rfl ?_
      refine subI (H.gr hq) (by exact zq38) (by exact zq37 hk) (by exact zq66 q2) fun t => ?_
      refine eSub ?_
      refine nL H (i := 1) rfl rfl ?_
      refine nL H (i := 5) rfl rfl ?_
      refine subI (H.gr hr) (by exact zq38) (by exact zq37 hm) (by exact zq66 r2) fun t => ?_
      refine oMul H (Sm.mulOk (getD_all sq (by exact zq34 hk)) (getD_all sr (by exact zq34 hm))) fun t s H => ?_
      refine iAdd H fun t s H => ?_
      refine setI H (i := 1) rfl (by exact zq65) (by rw [hlen]; exact zq64 hk hm) (by rw [hlen]; exact zq58 q2 r2) fun s H => ?_
      exact x0 (hQ _ _ _ ⟨_, _, rfl, rfl⟩ H)
    · rintro _ _ s ⟨jv, d0, rfl, rfl⟩ H
      exact x0 (hQ _ _ _ ⟨_, _, _, rfl, rfl⟩ H)
  rintro _ _ s ⟨iv, jv, d0, rfl, rfl⟩ H
  -- for j in range(len(behind)):
  refine x1 (for_range0 rm.handled H ?_)
  refine eCall ?_
  refine nG H (j := 1) rfl ?_
  refine cwT (sp1 ?_)
  refine eCall ?_
  refine nG H (j := 0) rfl ?_
  refine cwB (sp1 ?_)
  refine nL H (i := 2) rfl rfl ?_
  refine sp0 ?_
  refine cLen H (D.lsti (H.gr hbe)) (by exact zq61 q2 r2 b1) fun t s H => ?_
  refine sp0 ?_
  refine cRange1 H fun r t u v s H hrg => ?_
  refine ⟨_, _, r, _, t, u, v, behind.length, fun k vals own => ∃ iv jv d0, vals = [some (.ref aq), some (.ref ar), some (.ref ab), some (.ref a1), iv, jv] ∧ own = [d0, (a1, .ints (aheadB (aheadI (List.replicate (q.length + row.length - 1) 0) q row q.length) behind (q.length + row.length - 1 - behind.length) k))], rfl, H, hrg, by exact zq63 q2 r2 b1, rfl, ⟨_, _, _, rfl, rfl⟩, ?_, ?_⟩
  · rintro k t F' _ _ s Qt hk ⟨iv, jv, d0, rfl, rfl⟩ hF H hQ hRt
    refine stL H (i := 5) rfl rfl fun s H => ?_
    have hlen : (aheadB (aheadI (List.replicate (q.length + row.length - 1) 0) q row q.length) behind (q.length + row.length - 1 - behind.length) k).length = q.length + row.length - 1 := by rw [aheadB_length, aheadI_length, List.length_replicate]
    -- new[len(new) - len(behind) + j] -= behind[j]
    refine x1 (xAugSub ?_)
    refine nL H (i := 3) rfl rfl ?_
    refine eBin ?_
    refine eBin ?_
    refine eCall ?_
    refine nG H (j := 0) rfl ?_
    refine cwB (sp1 ?_)
    refine nL H (i := 3) rfl rfl ?_
    refine sp0 ?_
    refine cLen H (D.lsti (H.at (i := 1) rfl)) (by rw [hlen]; exact zq58 q2 r2) fun t s H => ?_
    refine eCall ?_
    refine nG H (j := 0) rfl ?_
    refine cwB (sp1 ?_)
    refine nL H (i := 2) rfl rfl ?_
    refine sp0 ?_
    refine cLen H (D.lsti (H.gr hbe)) (by exact zq61 q2 r2 b1) fun t s H => ?_
    refine oSub H fun t s H => ?_
    refine nL H (i := 5) rfl rfl ?_
    refine oAdd H fun t s H => ?_
    have hp : ((aheadB (aheadI (List.replicate (q.length + row.length - 1) 0) q row q.length) behind (q.length + row.length - 1 - behind.length) k).length : Int) - (behind.length : Int) + (k : Int) = ((q.length + row.length - 1 - behind.length + k : Nat) : Int) := by rw [hlen]; exact zq62 b1
    rw [hp]
    refine gInt (H.at (i := 1) rfl) (by exact zq60) (by rw [hlen]; exact zq59 hk hlen hp) (by rw [hlen]; exact zq58 q2 r2) fun t => ?_
    refine eSub ?_
    refine nL H (i := 2) rfl rfl ?_
    refine nL H (i := 5) rfl rfl ?_
    refine subI (H.gr hbe) (by exact zq38) (by exact zq37 hk) (by exact zq61 q2 r2 b1) fun t => ?_
    refine iSub H fun t s H => ?_
    refine setI H (i := 1) rfl (by exact zq60) (by rw [hlen]; exact zq59 hk hlen hp) (by rw [hlen]; exact zq58 q2 r2) fun s H => ?_
    exact x0 (hQ _ _ _ ⟨_, _, _, rfl, rfl⟩ H)
  · rintro _ _ s ⟨iv, jv, d0, rfl, rfl⟩ H
    refine x1 (xRet ?_)
    refine nL H (i := 3) rfl rfl ?_
    exact ret _ _ H.keep H.same (H.new (i := 1) rfl rfl)

theorem square_ok {af ag : Addr} {f g : List Int} (hb : Base ad s.heap) (hf : D.At s.heap af (.ints f)) (hg : D.At s.heap ag (.ints g)) (f5 : f.length = 5) (g5 : g.length = 5) (sf : ∀ x ∈ f, Sm 60 x) (sg : ∀ x ∈ g, Sm 60 x) :
    Ct prog w 2 (.ref (ad.fn 11)) [.ref af, .ref ag] s (Sq s f g) := by
  intro A Q rm ret
  refine call_fn (pn := ["f", "g"]) (rest := ["square", "under", "i", "row", "j", "both"]) (hb.fn 11 rfl) hb.lim rm (by intros _ _ _ _ _ _ _ _ _ _; rfl) rfl (by kernel_rfl) (by decide +kernel) (hb.glob.pick [20, 3, 0, 2]) fun env s _ _ H rm => ?_
  -- square = []
  refine x1 (xAsg ?_)
  refine eList ?_
  refine sp0 ?_
  refine mkList H fun a0 s H => ?_
  refine stL H (i := 2) rfl rfl fun s H => ?_
  -- under = [0, 0, 0, 0]
  refine x1 (xAsg ?_)
  refine eList ?_
  refine sp1 ?_
  refine kI H fun t s H => ?_
  refine sp1 ?_
  refine kI H fun t s H => ?_
  refine sp1 ?_
  refine kI H fun t s H => ?_
  refine sp1 ?_
  refine kI H fun t s H => ?_
  refine sp0 ?_
  refine mkInts H (.cons _ _ (.cons _ _ (.cons _ _ (.cons _ _ .nil)))) fun a1 s H => ?_
  refine stL H (i := 3) rfl rfl fun s H => ?_
  -- for i in (3, 2, 1, 0):
  refine x1 (for_tup rm.handled H ?_)
  refine eTup ?_
  refine sp1 ?_
  refine kI H fun t1 s H => ?_
  refine sp1 ?_
  refine kI H fun t2 s H => ?_
  refine sp1 ?_
  refine kI H fun t3 s H => ?_
  refine sp1 ?_
  refine kI H fun t4 s H => ?_
  refine sp0 ?_
  refine mkTup H fun a2 s H => ?_
  refine ⟨_, _, a2, [.int 3 t1, .int 2 t2, .int 1 t3, .int 0 t4], fun k vals own => ∃ (rl : List (Addr × List Int)) (ua : Addr) (ui : Nat) (iv rv jv bv : Option Value), vals = [some (.ref af), some (.ref ag), some (.ref a0), some (.ref ua), iv, rv, jv, bv] ∧
    own = (a0, .list (rl.reverse.map fun p => .ref p.1)) :: (a1, .ints [0, 0, 0, 0]) :: (a2, tupO [.int 3 t1, .int 2 t2, .int 1 t3, .int 0 t4]) :: rl.map (fun p => (p.1, D.ints p.2)) ∧
    rl.map (·.2) = (List.range k).map (fun j => under f g (j + 1)) ∧ own[ui]? = some (ua, .ints (under f g k)), rfl, H, ⟨[], a1, 1, _, _, _, _, rfl, rfl, rfl, rfl⟩, ?_, ?_, ?_⟩
  · rintro k _ _ s ⟨rl, ua, ui, iv, rv, jv, bv, rfl, rfl, _, _⟩ H
    exact isTup (H.at (i := 2) rfl)
  · rintro k v F' _ _ s Qt hk ⟨rl, ua, ui, iv, rv, jv, bv, rfl, rfl, hrl, hui⟩ hF H hQ hRt
    have hk4 : k < 4 := (List.getElem?_eq_some_iff.mp hk).1
    obtain ⟨t, rfl⟩ : ∃ t, v = .int ((3 - k : Nat) : Int) t := by
      match k, hk, hk4 with
      | 0, hk, _ => exact ⟨t1, (Option.some.inj hk).symm⟩
      | 1, hk, _ => exact ⟨t2, (Option.some.inj hk).symm⟩
      | 2, hk, _ => exact ⟨t3, (Option.some.inj hk).symm⟩
      | 3, hk, _ => exact ⟨t4, (Option.some.inj hk).symm⟩
    have hrk : rl.length = k := by have := congrArg List.length hrl; simpa using this
    refine aName ?_
    refine stL H (i := 4) rfl rfl fun s H => ?_
    -- row = []
    refine x1 (xAsg ?_)
    refine eList ?_
    refine sp0 ?_
    refine mkInts H .nil fun ra s H => ?_
    refine stL H (i := 5) rfl rfl fun s H => ?_
    -- for j in range(4):
    refine x1 (for_range0 rm.handled H ?_)
    refine eCall ?_
    refine nG H (j := 0) rfl ?_
    refine cwT (sp1 ?_)
    refine kI H fun t' s H => ?_
    refine sp0 ?_
    refine cRange1 H fun r t' u v s H hrg => ?_
    refine ⟨_, _, r, _, t', u, v, 4, fun m vals own => ∃ jv bv, vals = [some (.ref af), some (.ref ag), some (.ref a0), some (.ref ua), some (.int ((3 - k : Nat) : Int) t), some (.ref ra), jv, bv] ∧
      own = ((a0, .list (rl.reverse.map fun p => .ref p.1)) :: (a1, .ints [0, 0, 0, 0]) :: (a2, tupO [.int 3 t1, .int 2 t2, .int 1 t3, .int 0 t4]) :: rl.map (fun p => (p.1, D.ints p.2))) ++ [(ra, .ints (sqRow f g (under f g k) (3 - k) m))], rfl, H, hrg, by decide, rfl, ⟨_, _, rfl, rfl⟩, ?_, ?_⟩
    · rintro m t' F'' _ _ s Qt hm ⟨jv, bv, rfl, rfl⟩ hF' H hQ hRt
      refine stL H (i := 6) rfl rfl fun s H => ?_
      -- both = isub(mul(f[j], g[i + 1]), mul(f[i + 1], g[j]))
      refine x1 (xAsg ?_)
      refine eCall ?_
      refine nG H (j := 1) rfl ?_
      refine cwF (sp1 ?_)
      refine eCall ?_
      refine nG H (j := 2) rfl ?_
      refine cwF (sp1 ?_)
      refine eSub ?_
      refine nL H (i := 0) rfl rfl ?_
      refine nL H (i := 6) rfl rfl ?_
      refine subI (H.gr hf) (by exact zq38) (by exact zq54 f5 hm) (by exact zq53 f5) fun t => ?_
      refine sp1 ?_
      refine eSub ?_
      refine nL H (i := 1) rfl rfl ?_
      refine eBin ?_
      refine nL H (i := 4) rfl rfl ?_
      refine kI H fun t s H => ?_
      refine oAdd H fun t s H => ?_
      refine subI (H.gr hg) (by exact zq56) (by exact zq55 g5) (by exact zq53 g5) fun t => ?_
      refine sp0 ⟨(hb.keeps H.ground).obj 0 rfl, ?_⟩
      refine (mul_ok (hb.keeps H.ground) (Sm.mulOk (getD_all sf (by exact zq51 f5 hm)) (getD_all sg (by exact zq52 g5)))).useI H (rm.le (by decide)) fun t s H => ?_
      refine sp1 ?_
      refine eCall ?_
      refine nG H (j := 2) rfl ?_
      refine cwF (sp1 ?_)
      refine eSub ?_
      refine nL H (i := 0) rfl rfl ?_
      refine eBin ?_
      refine nL H (i := 4) rfl rfl ?_
      refine kI H fun t s H => ?_
      refine oAdd H fun t s H => ?_
      refine subI (H.gr hf) (by exact zq56) (by exact zq55 f5) (by exact zq53 f5) fun t => ?_
      refine sp1 ?_
      refine eSub ?_
      refine nL H (i := 1) rfl rfl ?_
      refine nL H (i := 6) rfl rfl ?_
      refine subI (H.gr hg) (by exact zq38) (by exact zq54 g5 hm) (by exact zq53 g5) fun t => ?_
      refine sp0 ⟨(hb.keeps H.ground).obj 0 rfl, ?_⟩
      refine (mul_ok (hb.keeps H.ground) (Sm.mulOk (getD_all sf (by exact zq52 f5)) (getD_all sg (by exact zq51 g5 hm)))).useI H (rm.le (by decide)) fun t s H => ?_
      refine sp0 ⟨(hb.keeps H.ground).obj 3 rfl, ?_⟩
      refine (isub_ok (hb.keeps H.ground)).useI H (rm.le (by decide)) fun t s H => ?_
      refine stL H (i := 7) rfl rfl fun s H => ?_
      -- row.append(iadd(both, under[j - 1]) if j > 0 else both)
      refine x1 (xE H ?_)
      refine eMeth ?_
      refine nL H (i := 5) rfl rfl ?_
      refine gmAppend (H.at (getLen _)) rfl ?_
      refine cwB (sp1 ?_)
      refine eIf ?_
      refine tCmp ?_
      refine nL H (i := 6) rfl rfl ?_
      refine kI H fun t s H => ?_
      refine cGt ?_
      refine tBool ?_
      refine iteD (fun hp => ?_) fun hp => ?_
      · refine eCall ?_
        refine nG H (j := 3) rfl ?_
        refine cwF (sp1 ?_)
        refine nL H (i := 7) rfl rfl ?_
        refine sp1 ?_
        refine eSub ?_
        refine nL H (i := 3) rfl rfl ?_
        refine eBin ?_
        refine nL H (i := 6) rfl rfl ?_
        refine kI H fun t s H => ?_
        refine oSub H fun t s H => ?_
        have hm1 : (m : Int) - 1 = ((m - 1 : Nat) : Int) := by exact zq50 hp
        rw [hm1]
        refine subI (ns := under f g k) (H.at (i := ui) ?_) (by exact zq49) (by have := under_length f g k; exact zq48 hm this) (by have := under_length f g k; exact zq47 this) fun t => ?_
        · rw [List.getElem?_append_left (List.getElem?_eq_some_iff.mp hui).1]; exact hui
        refine sp0 ⟨(hb.keeps H.ground).obj 2 rfl, ?_⟩
        refine (iadd_ok (hb.keeps H.ground)).useI H (rm.le (by decide)) fun t s H => ?_
        refine sp0 ?_
        refine cAppendI H (getLen _) (by rw [sqRow_length, sizeLine_eq]; exact zq46 hm) fun s H => ?_
        rw [setLen] at H
        refine x0 (hQ _ _ _ ⟨_, _, rfl, ?_⟩ H)
        rw [sqRow, sqE, if_pos (by exact zq45 hm1)]; rfl
      · refine nL H (i := 7) rfl rfl ?_
        refine sp0 ?_
        refine cAppendI H (getLen _) (by rw [sqRow_length, sizeLine_eq]; exact zq44 hp) fun s H => ?_
        rw [setLen] at H
        refine x0 (hQ _ _ _ ⟨_, _, rfl, ?_⟩ H)
        rw [sqRow, sqE, if_neg (by exact zq43 hp)]; rfl
    · rintro _ _ s ⟨jv, bv, rfl, rfl⟩ H
      -- square.insert(0, row)
      refine x1 (xE H ?_)
      refine eMeth ?_
      refine nL H (i := 2) rfl rfl ?_
      refine gmList (H.at (i := 0) rfl) rfl PySem.F.slot_list_insert PySem.F.type_list_insert ?_
      refine cwB (sp1 ?_)
      refine kI H fun t s H => ?_
      refine sp1 ?_
      refine nL H (i := 5) rfl rfl ?_
      refine sp0 ?_
      refine cInsert0 H (i := 0) rfl (by simp [sizeLine_eq]; exact zq42 hk4 hrk) fun s H => ?_
      -- under = row
      refine x1 (xAsg ?_)
      refine nL H (i := 5) rfl rfl ?_
      refine stL H (i := 3) rfl rfl fun s H => ?_
      refine x0 (hQ _ _ _ ⟨rl ++ [(ra, under f g (k + 1))], ra, rl.length + 3, _, _, _, _, rfl, ?_, ?_, ?_⟩ H)
      · simp [under]
      · rw [List.map_append, hrl, List.range_succ, List.map_append]; rfl
      · simp [under]
  · rintro _ _ s ⟨rl, ua, ui, iv, rv, jv, bv, rfl, rfl, hrl, hui⟩ H
    refine x1 (xRet ?_)
    refine nL H (i := 2) rfl rfl ?_
    refine ret _ _ H.keep H.same ?_
    obtain ⟨p0, p1, p2, p3, rfl⟩ : ∃ p0 p1 p2 p3, rl = [p0, p1, p2, p3] := by
      have hl : rl.length = 4 := by have := congrArg List.length hrl; simpa using this
      clear hrl hui H
      match rl, hl with
      | [a, b, c, d], _ => exact ⟨a, b, c, d, rfl⟩
    have h0 : p0.2 = under f g 1 := (List.cons.inj hrl).1
    have h1 : p1.2 = under f g 2 := (List.cons.inj (List.cons.inj hrl).2).1
    have h2 : p2.2 = under f g 3 := (List.cons.inj (List.cons.inj (List.cons.inj hrl).2).2).1
    have h3 : p3.2 = under f g 4 := (List.cons.inj (List.cons.inj (List.cons.inj (List.cons.inj hrl).2).2).2).1
    refine ⟨a0, p3.1, p2.1, p1.1, p0.1, rfl, ?_⟩
    rw [← h0, ← h1, ← h2, ← h3]
    exact (H.newL rfl).sub (.cons₂ _ (.cons _ (.cons _ (List.Sublist.refl _))))
end
end Mine

end

section
open PySem PySem.Spec PySem.Calls PyProof.Rows PySem.W
set_option Elab.async false
set_option linter.all false
set_option maxRecDepth 100000
set_option autoImplicit false
namespace Mine

/-- a text by its signs' numbers -/
noncomputable abbrev tx (l : List Nat) : Str := ⟨l.toArray⟩
theorem tx_add (a b : List Nat) : tx a ++ tx b = tx (a ++ b) := by
  apply Str.ext'
  rw [Str.cps_append]
  simp

section
variable {prog : Program} {w : World} {A : Around} {c : Fx} {F : Heap} {vals : List (Option Value)} {own : List (Addr × D)} {s : Shared} {Q : Value → Shared → Prop} {env : Env}

theorem xWhile {Q : Flow → Shared → Prop} {test : PySem.Expr} {body : List Stmt} {pos : Pos} (I : Nat → Shared → Prop)
    (turn : ∀ n s, I n s → W prog w A (PySem.isTrue test env (eval test env)) (fun b s₂ => if b then W prog w A (execs body env) (fun f s₃ => match f with
      | .next | .cont => ∃ m, m < n ∧ I m s₃
      | .brk => Q .next s₃
      | .ret v => Q (.ret v) s₃) s₂ else Q .next s₂) s) (n : Nat) (h : I n s) : W prog w A (exec (.While test body [] pos) env) Q s := by
  refine ⟨wpAny_While (codeAny_whileLoop I (fun n s hI => (turn n s hI).any fun b s₂ h₂ => ?_) n h)⟩
  cases b with
  | true =>
    simp only [if_true] at h₂ ⊢
    refine h₂.any fun f s₃ h₃ => ?_
    cases f <;> exact h₃
  | false =>
    simp only [Bool.false_eq_true, if_false] at h₂ ⊢
    exact wpAny_execs_nil h₂
theorem tName {x : Str} {pos : Pos} {whole : Sem Value} {Q : Bool → Shared → Prop} (h : W prog w A whole (fun v s₁ => W prog w A (truthy v) Q s₁) s) : W prog w A (PySem.isTrue (.Name x pos) env whole) Q s :=
  ⟨isTrue_plain (h.any fun _ _ h => h.out)⟩
theorem tAttr {o : PySem.Expr} {x : Str} {pos : Pos} {whole : Sem Value} {Q : Bool → Shared → Prop} (h : W prog w A whole (fun v s₁ => W prog w A (truthy v) Q s₁) s) : W prog w A (PySem.isTrue (.Attribute o x pos) env whole) Q s :=
  ⟨isTrue_plain (h.any fun _ _ h => h.out)⟩
theorem tInt {a : Int} {t : Tok} {Q : Bool → Shared → Prop} (h : Q (a != 0) s) : W prog w A (truthy (.int a t)) Q s := ⟨@PyProof.Rows.truthy_int _ _ _ _ _ _ _ _ h⟩
theorem cAbs {a : Int} {t : Tok} (H : Sg c F vals own s) (h : ∀ t s', Sg c F vals own s' → Q (.int (a.natAbs : Int) t) s') : W prog w A (call (.builtin "abs") [.int a t]) Q s :=
  ⟨@PyProof.Rows.call_abs_int _ _ _ _ _ _ _ _ fun u tk => by
    rw [show (if a < 0 then -a else a) = (a.natAbs : Int) by omega]
    exact h _ _ H.toks⟩
theorem cInt {a : Int} {t : Tok} (h : Q (.int a t) s) : W prog w A (call (.type "int") [.int a t]) Q s := ⟨@call_int_int _ _ _ _ _ _ _ _ h⟩
theorem cDivmod {a b : Int} {t u : Tok} (H : Sg c F vals own s) (hb : 0 < b) (hs : b < 2 ^ 20) (h : ∀ r t u s', Sg c F vals (own ++ [(r, tupO [.int (a / b) t, .int (a % b) u])]) s' → Q (.ref r) s') : W prog w A (call (.builtin "divmod") [.int a t, .int b u]) Q s :=
  ⟨@PyProof.Rows.divmod_int _ _ _ _ _ _ _ _ _ _ (by exact zq33 hb) (by
    rw [Int.fdiv_eq_ediv_of_nonneg a (by exact zq32 hb), Int.fmod_eq_emod_of_nonneg a (by exact zq32 hb)]
    exact h _ _ _ _ (H.add (H.heap push_get) fresh_size (Heap.get?_push_size _ rfl))) (Or.inl (PyProof.noPylong_small (by exact zq31 hb hs)))⟩

/-! tuples taken apart -/
theorem xTup {Q : Flow → Shared → Prop} {elts : List PySem.Expr} {k : Nat} {tpos : Pos} {value : PySem.Expr} {pos : Pos} (h : W prog w A (eval value env) (fun v s₁ => W prog w A (assign (.Tuple elts k tpos) env v) (fun _ => Q .next) s₁) s)
    (hs : swapsWithSole [.Tuple elts k tpos] value pos.line env = pure false := by rfl) (hw : swappedStores [.Tuple elts k tpos] value env = pure none := by rfl) : W prog w A (exec (.Assign [.Tuple elts k tpos] value pos) env) Q s :=
  ⟨Assign_Tuple (h.any fun _ _ h => h.out) hs hw⟩
theorem aTup {Q : Unit → Shared → Prop} {elts : List PySem.Expr} {k : Nat} {pos : Pos} {a : Addr} {vs : List Value} (hh : A.handled = none) (H : Sg c F vals own s) (hT : D.At s.heap a (tupO vs))
    (h : ∀ s', Sg c F vals own s' → W prog w A (assignInOrder ((assignEach elts env).map (·.2)) vs) Q s')
    (hn : (assignEach elts env).length = vs.length := by rfl) (hf : (assignEach elts env).findIdx? (·.1) = none := by rfl) : W prog w A (assign (.Tuple elts k pos) env (.ref a)) Q s := by
  refine ⟨assign_Tuple_tuple (items := vs.toArray) hh (isTup hT) (by rw [hn, List.size_toArray]) hf fun h' he => ?_⟩
  have hk : s.heap.StaysIn h' := fun b o e => he b o (Nat.ne_of_lt (Heap.lt_size e)) e
  exact (h _ (H.heap (t := s.toks) hk)).out
theorem ai1 {Q : Unit → Shared → Prop} {t : Value → Sem Unit} {ts : List (Value → Sem Unit)} {x : Value} {xs : List Value} (h : W prog w A (t x) (fun _ s₁ => W prog w A (assignInOrder ts xs) Q s₁) s) : W prog w A (assignInOrder (t :: ts) (x :: xs)) Q s :=
  ⟨by show wpAny _ _ (holding xs (t x) >>= fun _ => assignInOrder ts xs) _ _ _; exact wpAny_bind (wpAny_holding (h.any fun _ _ h => h.out))⟩
theorem ai0 {Q : Unit → Shared → Prop} (h : Q () s) : W prog w A (assignInOrder [] []) Q s := ⟨by show wpAny _ _ (pure ()) _ _ _; exact wpAny_pure h⟩

/-! bytes -/
theorem yAdd {a b : List UInt8} {t u : Tok} (H : Sg c F vals own s) (hz : a.length + b.length ≤ 16777216) (h : ∀ t s', Sg c F vals own s' → Q (.bytes (a ++ b).toArray t) s') : W prog w A (binaryOp .Add (.bytes a.toArray t) (.bytes b.toArray u)) Q s :=
  ⟨@KBy.add_bytes _ _ _ _ _ _ _ _ _ _ (by simpa using hz) fun t' k => by
    rw [show a.toArray ++ b.toArray = (a ++ b).toArray by simp]
    exact h _ _ H.toks⟩
/-- a slice's object made -/
theorem eSl {lo hi : Option PySem.Expr} {pos : Pos} (h : W prog w A (evalPart lo env) (fun vl s₁ => W prog w A (evalPart hi env) (fun vu s₂ => ∃ c F vals own, Sg c F vals own s₂ ∧ ∀ a s', Sg c F vals own s' → s'.heap.IsSliceOf a vl vu .none → s'.heap.objs.size = a + 1 → Q (.ref a) s') s₁) s) :
    W prog w A (eval (.Slice lo hi none pos) env) Q s := by
  refine ⟨wpAny_Slice (h.any fun vl s₁ h₁ => h₁.any fun vu s₂ h₂ => ?_)⟩
  obtain ⟨c, F, vals, own, H, k⟩ := h₂
  rw [PySem.evalPart_none]
  exact wpAny_pure (k _ _ (H.heap (t := s₂.toks) push_get) (Heap.IsSliceOf.new _ _ _ _) (by rw [Heap.size_push]))
theorem evP {e : PySem.Expr} (h : W prog w A (eval e env) Q s) : W prog w A (evalPart (some e) env) Q s := h
theorem evN (h : Q .none s) : W prog w A (evalPart none env) Q s := ⟨by rw [PySem.evalPart_none]; exact wpAny_pure h⟩

theorem subYSl {value slice : PySem.Expr} {b : List UInt8} {t : Tok} {a : Addr} {vl vu : Value} {lo hi : Option Int} (H : Sg c F vals own s) (hsl : s.heap.IsSliceOf a vl vu .none) (hl : IsPart vl lo) (hu : IsPart vu hi) (hz : b.length ≤ 16777216)
    (h : ∀ t s', Sg c F vals own s' → Q (.bytes ((b.drop (lo.elim 0 (clipAt b.length))).take (hi.elim b.length (clipAt b.length) - lo.elim 0 (clipAt b.length))).toArray t) s')
    (hs : subscripted slice false (.bytes b.toArray t) (.ref a) = operate [.ref a, .bytes b.toArray t] (getItem (.bytes b.toArray t) (.ref a)) := by rfl)
    (ht : ∀ r, letTemporaryGo value (.bytes b.toArray t) r = pure () := by intro _; rfl) : W prog w A (subscriptTail value slice (.bytes b.toArray t) (.ref a)) Q s := by
  refine ⟨@tail_of_ItemOn _ _ _ _ _ _ _ _ _ _ ⟨"bytes", _, FB.slot_bytes_getitem.lookup, typeIs_bytes _ _ _, getItem_meets (typeIs_bytes _ _ _) (by decide) FB.slot_bytes_getitem FB.entry_bytes_getitem (FB.args_bytes_getitem_2 _ _) (KBc.meets_slice2 b.toArray t a hl hu)
    ⟨hsl, Nat.le_trans (KBc.size_picked_le _ _ _) (by rw [List.size_toArray, sizeLine_eq]; exact hz), fun t' k => ?_⟩⟩ hs ht⟩
  rw [KBc.picked_eq]
  simp only [List.size_toArray]
  exact h _ _ H.toks

/-! texts -/
theorem sAdd {a b : List Nat} {t u : Tok} (H : Sg c F vals own s) (hz : a.length + b.length ≤ sizeLine) (h : ∀ t s', Sg c F vals own s' → Q (.str (tx (a ++ b)) t) s') : W prog w A (binaryOp .Add (.str (tx a) t) (.str (tx b) u)) Q s :=
  ⟨@SBL.add _ _ _ _ _ _ _ _ _ _ (fun t' k _ => by rw [tx_add]; exact h _ _ H.toks) (by simpa [Str.length] using hz)⟩
theorem subS {value slice : PySem.Expr} {x : List Nat} {t u : Tok} {k : Int} {ch : Nat} (H : Sg c F vals own s) (h0 : 0 ≤ k) (hz : k < 2 ^ 62) (hc : x[k.toNat]? = some ch) (h : ∀ t s', Sg c F vals own s' → Q (.str (tx [ch]) t) s')
    (hs : subscripted slice false (.str (tx x) t) (.int k u) = operate [.str (tx x) t, .int k u] (getItem (.str (tx x) t) (.int k u)) := by rfl)
    (ht : ∀ r, letTemporaryGo value (.str (tx x) t) r = pure () := by intro _; rfl) : W prog w A (subscriptTail value slice (.str (tx x) t) (.int k u)) Q s := by
  have hk : k.toNat < x.length := (List.getElem?_eq_some_iff.mp hc).1
  refine ⟨@subscriptTail_builtin _ _ _ _ _ _ _ _ _ _ _ (typeIs_str _ _ _) PySem.F.slot_str_getitem.lookup (@PyProof.Rows.getItem_str _ _ _ _ _ _ _ _ _ ch _ ?_ ?_ (h _ _ H.toks)) hs ht⟩
  · have h1 : ¬ k < -2 ^ 63 := by exact zq94 h0
    have h2 : ¬ k ≥ 2 ^ 63 := by exact zq93 hz
    simp only [h1, h2, decide_false, Bool.or_false]
  · have : seqIndex? k (tx x).length = some k.toNat := by
      unfold seqIndex?
      have h1 : ¬ k < 0 := by exact zq21 h0
      have h2 : k < ((tx x).length : Int) := by show k < ((x.toArray.size : Nat) : Int); rw [List.size_toArray]; exact zq92 hk
      simp [h1, h0, h2]
    rw [this]
    simpa using hc

theorem idx_clip (a b len : Nat) : Builtin.Str.strSliceIndices (some (a : Int)) (some (b : Int)) 1 len = Builtin.Str.strSliceIndices (some ((min a len : Nat) : Int)) (some ((min b len : Nat) : Int)) 1 len := by
  have h1 : ¬ ((a : Int) < 0) := by exact zq89
  have h2 : ¬ ((b : Int) < 0) := by exact zq89
  have h3 : ¬ (((min a len : Nat) : Int) < 0) := by exact zq91
  have h4 : ¬ (((min b len : Nat) : Int) < 0) := by exact zq91
  have e1 : max (0 : Int) (min (a : Int) (len : Int)) = max (0 : Int) (min ((min a len : Nat) : Int) (len : Int)) := by exact zq90
  have e2 : max (0 : Int) (min (b : Int) (len : Int)) = max (0 : Int) (min ((min b len : Nat) : Int) (len : Int)) := by exact zq90
  simp only [Builtin.Str.strSliceIndices, h1, h2, h3, h4, if_false, show ((1 : Int) > 0) = True from by simp, if_true, e1, e2]
theorem idx_none (a len : Nat) : Builtin.Str.strSliceIndices (some (a : Int)) none 1 len = Builtin.Str.strSliceIndices (some (a : Int)) (some (len : Int)) 1 len := by
  have h2 : ¬ ((len : Int) < 0) := by exact zq89
  have e2 : max (0 : Int) (min (len : Int) (len : Int)) = len := by exact zq88
  simp only [Builtin.Str.strSliceIndices, h2, if_false, show ((1 : Int) > 0) = True from by simp, if_true, e2]
theorem idx_text (x : List Nat) (a b : Nat) (hab : a ≤ b) : (Builtin.Str.strSliceIndices (some (a : Int)) (some (b : Int)) 1 (tx x).length).filterMap ((tx x).cps[·]?) = (x.drop a).take (b - a) ∧
    (Builtin.Str.strSliceIndices (some (a : Int)) (some (b : Int)) 1 (tx x).length).length = ((x.drop a).take (b - a)).length := by
  have hl : (tx x).length = x.length := by show x.toArray.size = _; simp
  rw [idx_clip, hl]
  constructor
  · have := StrLaws.sliced_plain (tx x) (a := min a x.length) (b := min b x.length) (by exact zq86 hab) (by rw [hl]; exact zq85)
    rw [hl] at this
    rw [this]
    show (x.drop (min a x.length)).take _ = _
    rcases Nat.le_total a x.length with h | h
    · rw [Nat.min_eq_left h]
      rcases Nat.le_total b x.length with h' | h'
      · rw [Nat.min_eq_left h']
      · rw [Nat.min_eq_right h', List.take_of_length_le (by simp), List.take_of_length_le (by simp; exact zq87 h')]
    · rw [Nat.min_eq_right h, List.drop_of_length_le (Nat.le_refl _), List.drop_of_length_le h]; simp
  · rw [StrLaws.strSliceIndices_plain (by exact zq86 hab) (by exact zq85)]
    simp; exact zq84
/-- a part of a text, from a (to b) -/
theorem subSSl {value slice : PySem.Expr} {x : List Nat} {t u1 u2 : Tok} {n a b : Nat} {r : Addr} (H : Sg c F vals own s) (hsl : s.heap.IsSliceOf r (.int a u1) (.int b u2) .none) (hab : a ≤ b) (hz : x.length ≤ sizeLine)
    (h : ∀ t s', Sg c F vals own s' → Q (.str (tx ((x.drop a).take (b - a))) t) s')
    (hs : subscripted slice false (.str (tx x) t) (.ref r) = operate [.ref r, .str (tx x) t] (getItem (.str (tx x) t) (.ref r)) := by rfl)
    (ht : ∀ r, letTemporaryGo value (.str (tx x) t) r = pure () := by intro _; rfl) : W prog w A (subscriptTail value slice (.str (tx x) t) (.ref r)) Q s := by
  refine ⟨@tail_of_ItemOn _ _ _ _ _ _ _ _ _ _ ⟨"str", _, PySem.F.slot_str_getitem.lookup, typeIs_str _ _ _, @wpAny_getItem_str_slice _ _ _ _ _ _ _ _ (some ((a : Int), u1)) (some ((b : Int), u2)) none _ hsl rfl ?_⟩ hs ht⟩
  obtain ⟨e1, e2⟩ := idx_text x a b hab
  unfold sliceMade slicePicked
  simp only [Option.map_some, Option.map_none, Option.getD_none, e1, e2]
  split
  · rename_i hc
    simp only [beq_self_eq_true, Bool.true_and, beq_iff_eq] at hc
    have hl : (tx x).length = x.length := by show x.toArray.size = _; simp
    rw [hl] at hc
    have : (x.drop a).take (b - a) = x := by
      rw [List.length_take, List.length_drop] at hc
      rcases Nat.eq_zero_or_pos x.length with h0 | h0
      · rw [List.length_eq_zero_iff.mp h0]; simp
      · have : a = 0 := by exact zq83 hc h0
        subst this
        rw [List.drop_zero, List.take_of_length_le (by exact zq82 hc)]
    rw [this] at h
    exact h _ _ (H.toks (t := s.toks))
  · refine ⟨?_, h _ _ H.toks⟩
    show ((x.drop a).take (b - a)).toArray.size ≤ _
    simp; exact zq81 hz
theorem subSFrom {value slice : PySem.Expr} {x : List Nat} {t u1 : Tok} {a : Nat} {r : Addr} (H : Sg c F vals own s) (hsl : s.heap.IsSliceOf r (.int a u1) .none .none) (ha : a ≤ x.length) (hz : x.length ≤ sizeLine)
    (h : ∀ t s', Sg c F vals own s' → Q (.str (tx (x.drop a)) t) s')
    (hs : subscripted slice false (.str (tx x) t) (.ref r) = operate [.ref r, .str (tx x) t] (getItem (.str (tx x) t) (.ref r)) := by rfl)
    (ht : ∀ r, letTemporaryGo value (.str (tx x) t) r = pure () := by intro _; rfl) : W prog w A (subscriptTail value slice (.str (tx x) t) (.ref r)) Q s := by
  refine ⟨@tail_of_ItemOn _ _ _ _ _ _ _ _ _ _ ⟨"str", _, PySem.F.slot_str_getitem.lookup, typeIs_str _ _ _, @wpAny_getItem_str_slice _ _ _ _ _ _ _ _ (some ((a : Int), u1)) none none _ hsl rfl ?_⟩ hs ht⟩
  have hl : (tx x).length = x.length := by show x.toArray.size = _; simp
  obtain ⟨e1, e2⟩ := idx_text x a x.length ha
  have e3 : (x.drop a).take (x.length - a) = x.drop a := List.take_of_length_le (by simp)
  rw [e3] at e1 e2
  unfold sliceMade slicePicked
  rw [hl] at e1 e2
  simp only [Option.map_some, Option.map_none, Option.getD_none, hl, idx_none, e1, e2]
  split
  · rename_i hc
    simp only [beq_self_eq_true, Bool.true_and, beq_iff_eq] at hc
    have : x.drop a = x := by
      rw [List.length_drop] at hc
      rcases Nat.eq_zero_or_pos x.length with h0 | h0
      · rw [List.length_eq_zero_iff.mp h0]; simp
      · have : a = 0 := by exact zq80 ha hc
        subst this; rfl
    rw [this] at h
    exact h _ _ (H.toks (t := s.toks))
  · refine ⟨?_, h _ _ H.toks⟩
    show (x.drop a).toArray.size ≤ _
    simp; exact zq79 hz
end

/-! decode('ascii') -/
theorem forIn_steps {β : Type} (f : Nat → β → Sem (ForInStep β)) (st : Nat → β) (n : Nat) (h : ∀ x k, k < n → f x (st k) = pure (.yield (st (k + 1)))) : ∀ (l : List Nat) (k : Nat), k + l.length = n → forIn l (st k) f = pure (st n)
  | [], k, e => by
    have : k = n := by simpa using e
    subst this; rfl
  | x :: l, k, e => by
    rw [List.forIn_cons, h x k (by simp at e; exact zq78 e)]
    show forIn l (st (k + 1)) f = _
    exact forIn_steps f st n h l (k + 1) (by simp at e; exact zq77 e)
theorem ascii_run (id : String) (b : List UInt8) (h : ∀ c ∈ b, c.toNat < 128) (hz : b.length ≤ sizeLine) : Builtin._codecs.runDecoder id Builtin._codecs.asciiDecoder none true b.toArray 0 [] = pure ((b.map (·.toNat)).toArray, b.length) := by
  unfold Builtin._codecs.runDecoder
  simp only [Std.Legacy.Range.forIn_eq_forIn_range', List.size_toArray]
  refine Eq.trans (congrArg (· >>= _) (forIn_steps _ (fun k => (k, ((b.take k).map (·.toNat)).toArray, ({ held := [] } : Builtin._codecs.Faults))) b.length ?_ _ 0 ?_)) ?_
  · intro x k hk
    have h1 : ¬ ((b.take k).map (·.toNat)).toArray.size > sizeLine := by simp; exact zq76 hz
    have h2 : ¬ k ≥ b.length := by exact zq75 hk
    have h3 : b.toArray.getD k 0 = b[k] := by simp [hk]
    have h4 : b[k].toNat < 128 := h _ (List.getElem_mem hk)
    have h5 : ∀ q, Builtin._codecs.asciiDecoder.find q b.toArray k = .char (b.toArray.getD k 0).toNat (k + 1) := fun q => if_pos (by rw [h3]; exact h4)
    simp only [h1, if_false, h2, h5, h3]
    show pure (ForInStep.yield (k + 1, _ ++ #[b[k].toNat], _)) = _
    have e : (b.take (k + 1)).map (·.toNat) = (b.take k).map (·.toNat) ++ [b[k].toNat] := by rw [List.take_succ_eq_append_getElem hk, List.map_append]; rfl
    rw [e]
    simp only [List.append_toArray]
    try rfl
  · simp [Std.Legacy.Range.size]
  · simp

open Builtin in
theorem road_ascii {b : Array UInt8} {id : String} : _codecs.decodeRoad id b (PySem.Str.ofString "ascii") none [] = (_codecs.runDecoder id _codecs.asciiDecoder none true b 0 [] >>= fun r => mkStr ⟨r.1⟩) := by kernel_rfl
open Builtin in
theorem meets_ascii {b : List UInt8} {t t1 t2 : Tok} {d : PySem.Str} (h : ∀ c ∈ b, c.toNat < 128) (hz : b.length ≤ sizeLine) :
    Meets («_codecs.decode.text» ⟨[.bytes b.toArray t, .str (PySem.Str.ofString "ascii") t1, .none, .str d t2], []⟩) (fun _ R s => R (.ok (.ret (.str (tx (b.map (·.toNat))) s.toks))) { s with toks := s.toks + 1 }) := by
  refine .of_wp fun prog w A R s h' => ?_
  show wpAny _ _ (Bytes.bytesLike _ (.bytes b.toArray t) >>= fun r => _) _ _ s
  refine wpAny_bind (wpAny_of_eq KBd.like_eq ?_)
  refine wpAny_bind (wpAny_of_eq KBd.held_eq ?_)
  show wpAny _ _ (_codecs.decodeRoad _ b.toArray (PySem.Str.ofString "ascii") none [] >>= fun v => _) _ _ s
  rw [road_ascii, ascii_run _ b h hz]
  refine wpAny_bind (wpAny_bind (wpAny_pure ?_))
  exact wpAny_mkStr (wpAny_pure ⟨_, rfl, h'⟩) (by show ((b.map (·.toNat)).toArray).size ≤ _; simpa using hz)
open Builtin in
theorem entry_ascii {c : UInt8} {cs : List UInt8} {t u : Tok} : «bytes.decode» ⟨[.bytes (c :: cs).toArray t, .str (PySem.Str.ofString "ascii") u], []⟩ = (mkStr (PySem.Str.ofString "utf-8") >>= fun _ => mkStr (PySem.Str.ofString "ascii") >>= fun e => mkStr (PySem.Str.ofString "bytes.decode") >>= fun d =>
    call (.builtin "_codecs.decode.text") [.bytes (c :: cs).toArray t, e, .none, d] >>= fun v => ret v) := by kernel_rfl
open Builtin in
theorem entry_ascii0 {t u : Tok} : «bytes.decode» ⟨[.bytes (#[] : Array UInt8) t, .str (PySem.Str.ofString "ascii") u], []⟩ = (rule "bytes.decode.empty" >>= fun _ => retStr Str.empty) := by kernel_rfl
theorem args_decode2 (a b : Value) : argsOk "bytes.decode" ⟨[a, b], []⟩ := by
  unfold argsOk; rw [signature?_of (id := "bytes.decode") (n := ['e', 'd', 'o', 'c', 'e', 'd']) (o := ['s', 'e', 't', 'y', 'b']) (by kernel_rfl) FB.owner_bytes]; kernel_rfl

section
variable {prog : Program} {w : World} {A : Around} {c : Fx} {F : Heap} {vals : List (Option Value)} {own : List (Addr × D)} {s : Shared} {Q : Value → Shared → Prop}
theorem cDecode {b : List UInt8} {t u : Tok} (H : Sg c F vals own s) (hb : ∀ c ∈ b, c.toNat < 128) (hz : b.length ≤ sizeLine) (h : ∀ t s', Sg c F vals own s' → Q (.str (tx (b.map (·.toNat))) t) s') :
    W prog w A (call (.builtin "bytes.decode") [.bytes b.toArray t, .str (Str.ofString "ascii") u]) Q s := by
  have me : Meets (Builtin.«bytes.decode» ⟨[.bytes b.toArray t, .str (PySem.Str.ofString "ascii") u], []⟩) (fun _ R s => ∀ t' k, R (.ok (.ret (.str (tx (b.map (·.toNat))) t'))) { s with toks := k }) := by
    refine .of_wp fun prog w A R s hS => ?_
    cases b with
    | nil =>
      rw [entry_ascii0]
      refine wpAny_bind (wpAny_rule ?_)
      exact wpAny_bind (wpAny_mkStr (wpAny_pure ⟨_, rfl, hS _ _⟩) (by decide))
    | cons c cs =>
      rw [entry_ascii]
      refine wpAny_bind (wpAny_mkStr ?_ (by decide))
      refine wpAny_bind (wpAny_mkStr ?_ (by decide))
      refine wpAny_bind (wpAny_mkStr ?_ (by decide))
      exact wpAny_bind (call_function_meets KBd.kind_text KBd.plain_text KBd.entry_text (KBd.args_text _ _ _ _) (meets_ascii hb hz) (wpAny_pure ⟨_, rfl, hS _ _⟩))
  exact ⟨call_meets FB.slot_bytes_decode (typeIs_bytes _ _ _) FB.entry_bytes_decode (args_decode2 _ _) me fun t' k => h _ _ H.toks⟩
theorem gmDecode {b : Array UInt8} {t : Tok} {pl : Sem Bool} {Q : Value × List Value → Shared → Prop} (h : Q (.builtin "bytes.decode", [.bytes b t]) s) : W prog w A (getMethod (.bytes b t) "decode" pl) Q s := ⟨KBd.method h⟩
end
end Mine

end

section
open PySem PySem.Spec PySem.Calls PyProof.Rows PySem.W
set_option Elab.async false
set_option linter.all false
set_option maxRecDepth 100000
set_option autoImplicit false
namespace Mine

/-- a number's letters -/
noncomputable def ap (n : Nat) : List Nat := if h : n = 0 then [] else ap (n / 16) ++ [65 + n % 16]
termination_by n
decreasing_by exact zq99 h
theorem ap_zero : ap 0 = [] := by rw [ap]; rfl
theorem ap_pos {n : Nat} (h : n ≠ 0) : ap n = ap (n / 16) ++ [65 + n % 16] := by rw [ap, dif_neg h]
theorem ap_length : ∀ (k n : Nat), n < 2 ^ k → (ap n).length ≤ k
  | 0, n, h => by
    have : n = 0 := by simpa using h
    subst this; rw [ap_zero]; exact Nat.le_refl _
  | k + 1, n, h => by
    by_cases h0 : n = 0
    · subst h0; rw [ap_zero]; exact Nat.zero_le _
    · rw [ap_pos h0, List.length_append]
      have : n / 16 < 2 ^ k := by rw [Nat.pow_succ] at h; exact zq106 h
      have := ap_length k (n / 16) this
      simpa using this
theorem ap_range (n : Nat) : ∀ c ∈ ap n, 65 ≤ c ∧ c ≤ 80 := by
  induction n using Nat.strongRecOn with
  | ind n ih =>
    by_cases h0 : n = 0
    · subst h0; rw [ap_zero]; intro c hc; cases hc
    · rw [ap_pos h0]
      intro c hc
      rcases List.mem_append.mp hc with hc | hc
      · exact ih (n / 16) (by exact zq99 h0) c hc
      · rw [List.mem_singleton] at hc; exact zq105 hc
/-- the letters read -/
noncomputable def unap (l : List Nat) : Int := l.foldl (fun (a : Int) (c : Nat) => 16 * a + (c : Int) - 65) 0
theorem unap_snoc (l : List Nat) (c : Nat) : unap (l ++ [c]) = 16 * unap l + (c : Int) - 65 := by simp [unap]
theorem unap_ap (n : Nat) : unap (ap n) = n := by
  induction n using Nat.strongRecOn with
  | ind n ih =>
    by_cases h0 : n = 0
    · subst h0; rw [ap_zero]; rfl
    · rw [ap_pos h0, unap_snoc, ih (n / 16) (by exact zq99 h0)]
      exact zq104
noncomputable def word (x : Int) : List Nat := (if x < 0 then 45 else 43) :: ap x.natAbs

theorem ap_cut : ∀ m, m < 16 → ((([65, 66, 67, 68, 69, 70, 71, 72, 73, 74, 75, 76, 77, 78, 79, 80] : List UInt8).drop (min m 16)).take (min (m + 1) 16 - min m 16)) = [UInt8.ofNat (65 + m)] := by decide
theorem ap_byte : ∀ m, m < 16 → (UInt8.ofNat (65 + m)).toNat = 65 + m := by decide

section
variable {prog : Program} {w : World} {s : Shared} {ad : Ads} {x : Int} {t u : Tok}

theorem int2ap_ok (hb : Base ad s.heap) (hx : Sm 1000000 x) : Ct prog w 1 (.ref (ad.fn 5)) [.int x t] s (fun v _ => ∃ (vb : List UInt8) (tk : Tok), v = .bytes vb.toArray tk ∧ vb.map (·.toNat) = ap x.natAbs) := by
  intro A Q rm ret
  refine call_fn (pn := ["num"]) (rest := ["val", "AP", "mod"]) (hb.fn 5 rfl) hb.lim rm (by intros _ _ _ _ _ _ _ _ _ _; rfl) rfl (by kernel_rfl) (by decide +kernel) (hb.glob.pick [22, 23, 24]) fun env s _ _ H rm => ?_
  -- val = b''
  refine x1 (xAsg ?_)
  refine kY H fun t s H => ?_
  refine stL H (i := 1) rfl rfl fun s H => ?_
  -- AP = b'ABCDEFGHIJKLMNOP'
  refine x1 (xAsg ?_)
  refine kY H fun t s H => ?_
  refine stL H (i := 2) rfl rfl fun s H => ?_
  -- num = int(abs(num))
  refine x1 (xAsg ?_)
  refine eCall ?_
  refine nG H (j := 0) rfl ?_
  refine cwT (sp1 ?_)
  refine eCall ?_
  refine nG H (j := 1) rfl ?_
  refine cwB (sp1 ?_)
  refine nL H (i := 0) rfl rfl ?_
  refine sp0 ?_
  refine cAbs H fun t s H => ?_
  refine sp0 ?_
  refine cInt ?_
  refine stL H (i := 0) rfl rfl fun s H => ?_
  -- while num:
  have hlen := ap_length 1000000 x.natAbs hx
  refine x1 (xWhile (fun n s => ∃ (k : Nat) (vb : List UInt8) (t t1 t2 : Tok) (mv : Option Value) (own : List (Addr × D)), n = k ∧ ap k ++ vb.map (·.toNat) = ap x.natAbs ∧
    Sg _ _ [some (.int k t), some (.bytes vb.toArray t1), some (.bytes ([65, 66, 67, 68, 69, 70, 71, 72, 73, 74, 75, 76, 77, 78, 79, 80] : List UInt8).toArray t2), mv] own s) ?_ _ ⟨x.natAbs, [], _, _, _, _, _, rfl, by simp, H⟩)
  rintro k s ⟨_, vb, t, t1, t2, mv, own, rfl, hk, H⟩
  refine tName ?_
  refine nL H (i := 0) rfl rfl ?_
  refine tInt ?_
  by_cases h0 : k = 0
  · subst h0
    rw [ap_zero] at hk
    show if false = true then _ else _
    rw [if_neg Bool.false_ne_true]
    -- return val
    refine x1 (xRet ?_)
    refine nL H (i := 1) rfl rfl ?_
    exact ret _ _ H.keep H.same ⟨vb, _, rfl, hk⟩
  · have hne : ((k : Int) != 0) = true := by simp; exact h0
    rw [hne, if_pos rfl]
    -- num, mod = divmod(num, 16)
    refine x1 (xTup ?_)
    refine eCall ?_
    refine nG H (j := 2) rfl ?_
    refine cwB (sp1 ?_)
    refine nL H (i := 0) rfl rfl ?_
    refine sp1 ?_
    refine kI H fun t s H => ?_
    refine sp0 ?_
    refine cDivmod H (by decide) (by decide) fun r t3 t4 s H => ?_
    refine aTup rm.handled H (H.at (getLen _)) fun s H => ?_
    refine ai1 (aName (stL H (i := 0) rfl rfl fun s H => ?_))
    refine ai1 (aName (stL H (i := 3) rfl rfl fun s H => ?_))
    refine ai0 ?_
    have e1 : (k : Int) / 16 = ((k / 16 : Nat) : Int) := by exact zq103
    have e2 : (k : Int) % 16 = ((k % 16 : Nat) : Int) := by exact zq102
    rw [e1, e2] at H
    rw [ap_pos h0] at hk
    have hl := congrArg List.length hk
    simp only [List.length_append, List.length_map, List.length_cons, List.length_nil] at hl
    -- val = AP[mod:mod + 1] + val
    refine x1 (xAsg ?_)
    refine eBin ?_
    refine eSub ?_
    refine nL H (i := 2) rfl rfl ?_
    refine eSl ?_
    refine evP ?_
    refine nL H (i := 3) rfl rfl ?_
    refine evP ?_
    refine eBin ?_
    refine nL H (i := 3) rfl rfl ?_
    refine kI H fun t s H => ?_
    refine oAdd H fun t s H => ?_
    refine ⟨_, _, _, _, H, fun a s H hsl _ => ?_⟩
    refine subYSl H hsl (.int _ _) (.int _ _) (by decide) fun t s H => ?_
    have hcut : (([65, 66, 67, 68, 69, 70, 71, 72, 73, 74, 75, 76, 77, 78, 79, 80] : List UInt8).drop (Option.elim (some ((k % 16 : Nat) : Int)) 0 (clipAt 16))).take (Option.elim (some (((k % 16 : Nat) : Int) + 1)) 16 (clipAt 16) - Option.elim (some ((k % 16 : Nat) : Int)) 0 (clipAt 16)) = [UInt8.ofNat (65 + k % 16)] := by
      have e3 : ((k % 16 : Nat) : Int) + 1 = ((k % 16 + 1 : Nat) : Int) := by exact zq101
      simp only [Option.elim, e3, clipAt_nat]
      exact ap_cut (k % 16) (Nat.mod_lt _ (by decide))
    rw [show (([65, 66, 67, 68, 69, 70, 71, 72, 73, 74, 75, 76, 77, 78, 79, 80] : List UInt8).length) = 16 from rfl, hcut]
    refine nL H (i := 1) rfl rfl ?_
    refine yAdd H (by simp; exact zq100 hlen hl) fun t s H => ?_
    refine stL H (i := 1) rfl rfl fun s H => ?_
    refine x0 ⟨k / 16, by exact zq99 h0, k / 16, _, _, _, _, _, _, rfl, ?_, H⟩
    rw [← hk, List.map_append, List.append_assoc]
    simp [ap_byte (k % 16) (Nat.mod_lt _ (by decide))]
    exact zq98

theorem W.join {A : Around} {c : Fx} {F : Heap} {vals : List (Option Value)} {own : List (Addr × D)} {s s₀ : Shared} {α : Type} {t : Sem α} {Q : α → Shared → Prop} (H : Sg c F vals own s₀) (V : α → Prop)
    (h1 : W prog w A t (fun v s' => V v ∧ Sg c F vals own s') s) (h2 : ∀ v s', V v → Sg c F vals own s' → Q v s') : W prog w A t Q s := h1.mono fun v s' h => h2 v s' h.1 h.2
theorem kST {A : Around} {c : Fx} {F : Heap} {vals : List (Option Value)} {own : List (Addr × D)} {s : Shared} {Q : Value → Shared → Prop} {x : Str} {k : Nat} {pos : Pos} (l : List Nat) (H : Sg c F vals own s) (h : ∀ t s', Sg c F vals own s' → Q (.str (tx l) t) s') (e : x = tx l := by kernel_rfl) : W prog w A (eval (.Constant (.str x) k pos) c.env) Q s := by
  subst e; exact kS H h
theorem word_length (k : Nat) (x : Int) (h : Sm k x) : (word x).length ≤ k + 1 := by
  have := ap_length k x.natAbs h
  simpa [word] using this

theorem word_ok (hb : Base ad s.heap) (hx : Sm 1000000 x) : Ct prog w 2 (.ref (ad.fn 6)) [.int x t] s (fun v _ => ∃ tk, v = .str (tx (word x)) tk) := by
  intro A Q rm ret
  refine call_fn (pn := ["number"]) (rest := []) (hb.fn 6 rfl) hb.lim rm (by intros _ _ _ _ _ _ _ _ _ _; rfl) rfl (by kernel_rfl) (by decide +kernel) (hb.glob.pick [5]) fun env s _ _ H rm => ?_
  refine x1 (xRet ?_)
  refine eBin ?_
  refine W.join H (fun v => ∃ t, v = .str (tx [if x < 0 then 45 else 43]) t) ?_ ?_
  · refine eIf ?_
    refine tCmp ?_
    refine nL H (i := 0) rfl rfl ?_
    refine kI H fun t s H => ?_
    refine cLt ?_
    refine tBool ?_
    refine iteD (fun hp => ?_) fun hp => ?_
    · refine kST [45] H fun t s H => ?_
      exact ⟨⟨t, by rw [if_pos hp]⟩, H⟩
    · refine kST [43] H fun t s H => ?_
      exact ⟨⟨t, by rw [if_neg hp]⟩, H⟩
  · rintro v s ⟨t, rfl⟩ H
    refine eMeth ?_
    refine eCall ?_
    refine nG H (j := 0) rfl ?_
    refine cwF (sp1 ?_)
    refine nL H (i := 0) rfl rfl ?_
    refine sp0 ⟨(hb.keeps H.ground).obj 5 rfl, ?_⟩
    refine (int2ap_ok (hb.keeps H.ground) hx).use H (rm.le (by decide)) fun v s H _ hv => ?_
    obtain ⟨vb, tk, rfl, hvb⟩ := hv
    have hl := ap_length 1000000 x.natAbs hx
    have hl2 := congrArg List.length hvb
    rw [List.length_map] at hl2
    refine gmDecode ?_
    refine cwB (sp1 ?_)
    refine kS H fun t s H => ?_
    refine sp0 ?_
    refine cDecode H ?_ (by rw [sizeLine_eq]; exact zq97 hl hl2) fun t s H => ?_
    · intro b hb
      have := ap_range x.natAbs b.toNat (by rw [← hvb]; exact List.mem_map_of_mem hb)
      exact zq96 this
    rw [hvb]
    refine sAdd H (by rw [sizeLine_eq]; simp; exact zq95 hl) fun t s H => ?_
    exact ret _ _ H.keep H.same ⟨_, rfl⟩
end
end Mine

end

section
open PySem PySem.Spec PySem.Calls PyProof.Rows PySem.W
set_option Elab.async false
set_option linter.all false
set_option maxRecDepth 100000
set_option autoImplicit false
set_option maxHeartbeats 400000
namespace Mine

section
variable {prog : Program} {w : World} {A : Around} {c : Fx} {F : Heap} {vals : List (Option Value)} {own : List (Addr × D)} {s : Shared}

/-- for target in what comes out as an ascii text -/
theorem for_str {Q : Flow → Shared → Prop} {target : PySem.Expr} {iter : PySem.Expr} {body : List Stmt} {pos : Pos} {vals₀ : List (Option Value)} {own₀ : List (Addr × D)} (hh : A.handled = none) (H₀ : Sg c F vals₀ own₀ s)
    (hi : W prog w A (eval iter c.env) (fun xv s => ∃ (vals : List (Option Value)) (own : List (Addr × D)) (l : List Nat) (tk : Tok) (J : Nat → List (Option Value) → List (Addr × D) → Prop),
      xv = .str (tx l) tk ∧ Sg c F vals own s ∧ (∀ c ∈ l, c < 128) ∧ J 0 vals own ∧
      (∀ k t F' vals' own' s' (Qt : Flow → Shared → Prop), k < l.length → J k vals' own' → F.StaysIn F' → Sg c F' vals' own' s' → (∀ vals'' own'' s'', J (k + 1) vals'' own'' → Sg c F' vals'' own'' s'' → Qt .next s'') → (∀ v s'', Q (.ret v) s'' → Qt (.ret v) s'') →
        W prog w A (assign target c.env (.str (tx [l.getD k 0]) t)) (fun _ s₂ => W prog w A (execs body c.env) Qt s₂) s') ∧
      (∀ vals' own' s', J l.length vals' own' → Sg c F vals' own' s' → Q .next s')) s)
    (hs : ∀ x, foldedSetIterable iter c.env x = pure x := by intro _; rfl) (ht : ∀ it v, letOwnedTupleGo target it v = pure () := by intro _ _; rfl) : W prog w A (exec (.For target iter body [] pos) c.env) Q s := by
  refine ⟨wpAny_For (hi.any fun xv s h => ?_) hs⟩
  obtain ⟨vals, own, l, tk, J, rfl, H, hl, h0, step, hQ⟩ := h
  have ha : (tx l).cps.all (· < 128) = true := by
    rw [Array.all_eq_true_iff_forall_mem]
    intro c hc
    have : c ∈ l := by simpa using hc
    simpa using hl c this
  refine wpAny_pyIter_ascii ha ?_
  obtain ⟨n1, n2, n3⟩ := H.newAt
  refine for_gen (n := l.length) (Q := Q) (I := s.heap.objs.size) (H.heap (t := s.toks) (fun b o e => Heap.get?_push_of_some _ e)) n1 n2 n3
    (fun k ob => ob.cls = .type "str_ascii_iterator" ∧ ob.data = .fields #[.str (tx l) tk, .int k 0]) ⟨_, Heap.get?_push_size _ rfl, rfl, rfl⟩ (fun k t => .str (tx [l.getD k 0]) t) J h0 ?_ ?_ (fun k t F' vals' own' s' Qt hk hJ hF Hs q1 q2 => ?_) hQ (fun _ _ q => q) (fun k t s' Q E _ hq => by rw [ht]; exact wpAny_pure hq)
  · rintro k vals' own' s' Q' hk hJ H' ho h
    refine ⟨wpAny_pyNext_ascii_item (c := l.getD k 0) ho (by simp [hk]) fun h' hit hs => h _ _ _ hs hit⟩
  · rintro vals' own' s' Q' hJ H' ho h
    exact ⟨wpAny_pyNext_ascii_end hh ho (by simp) fun h' hs => h _ _ hs⟩
  · exact step k _ F' vals' own' s' Qt hk hJ hF Hs q1 q2

variable {Q : Value → Shared → Prop}
theorem cOrd {k : Nat} {t : Tok} (H : Sg c F vals own s) (h : ∀ t s', Sg c F vals own s' → Q (.int k t) s') : W prog w A (call (.builtin "ord") [.str (tx [k]) t]) Q s := ⟨@P.ord_of_char _ _ _ _ _ _ _ _ (h _ _ H.toks)⟩

/-- {i: v, j: u} -/
theorem eDict2 {env : Env} {k1 k2 : PySem.Expr} {v1 v2 : PySem.Expr} {pos : Pos} (H : Sg c F vals own s)
    (h : ∀ d s, Sg c F vals (own ++ [(d, .obj { cls := .type "dict", data := .dict #[] })]) s → W prog w A (eval k1 env) (fun a s => W prog w A (eval v1 env) (fun b s => W prog w A (eval k2 env) (fun a' s => W prog w A (eval v2 env) (fun b' s =>
      ∃ i t j u, a = .int i t ∧ a' = .int j u ∧ i ≠ j ∧ Sg c F vals (own ++ [(d, .obj { cls := .type "dict", data := .dict #[] })]) s ∧
      ∀ o s', (∀ h : Heap, h.get? d = some o → h.MapOf (intKind prog w) d (fun k => if k = i then some b else if k = j then some b' else none)) → Sg c F vals (own ++ [(d, .obj o)]) s' → Q (.ref d) s') s) s) s) s) :
    W prog w A (eval (.Dict [some k1, some k2] [v1, v2] pos) env) Q s := by
  have h := h s.heap.objs.size _ (H.add (H.heap (t := s.toks) push_get) fresh_size (Heap.get?_push_size _ rfl))
  refine ⟨wpAny_Dict_walk (knd := intKind prog w) rfl rfl (by simp) (by simp) ?_⟩
  refine pairTrees_cons_walk (h.any fun a s₁ h => h.any fun b s₂ h => ?_)
  refine pairTrees_cons_walk (h.any fun a' s₃ h => h.any fun b' s₄ h => ?_)
  refine evalPairs_nil ?_
  obtain ⟨i, t, j, u, rfl, rfl, hne, H4, h⟩ := h
  refine ⟨[(i, b), (j, b')], ⟨intKind_is _ _ _ _, rfl, intKind_is _ _ _ _, rfl, trivial⟩, ?_, fun h' hd hs => ?_⟩
  · exact ⟨_, #[], 0, H4.at (getLen _), ⟨rfl, rfl, rfl⟩, rfl, fun _ he => by simp at he, .nil, .nil⟩
  · obtain ⟨o, es, ep, ho, r⟩ := hd
    refine h o _ (fun h'' e => ?_) ?_
    · have hm := Heap.DictOf.mapOf (h := h'') ⟨o, es, ep, e, r⟩
      have : (fun k => if k = i then some b else if k = j then some b' else none) = valueAt (merged [] [(i, b), (j, b')]) := by
        funext k
        have e1 : merged [] [(i, b), (j, b')] = [(i, b), (j, b')] := by
          simp [merged, stored, hne]
        rw [e1]
        unfold valueAt
        by_cases h1 : i = k
        · simp [List.find?_cons, h1]
        · by_cases h2 : j = k
          · simp [List.find?_cons, h1, h2, Ne.symm h1]
          · simp [List.find?_cons, h1, h2, Ne.symm h1, Ne.symm h2]
      rw [this]; exact hm
    · have := H4.upd (s' := { s₄ with heap := h', toks := s₄.toks + 2 }) (d' := .obj o) (getLen _) hs ho Same.rfl
      rw [setLen] at this
      exact this
theorem subMap {K : Type} [DecidableEq K] {knd : KeyKind prog w K} {value slice : PySem.Expr} {a : Addr} {key v : Value} {k : K} {f : K → Option Value} (H : Sg c F vals own s) (hm : s.heap.MapOf knd a f) (hk : knd.is k key = true) (hv : f k = some v) (h : ∀ s', Sg c F vals own s' → Q v s')
    (hs : subscripted slice false (.ref a) key = operate [.ref a, key] (getItem (.ref a) key) := by rfl) : W prog w A (subscriptTail value slice (.ref a) key) Q s :=
  ⟨@tail_any _ _ _ _ _ _ _ _ _ _ _ _ _ hm.typeIs slot_dict_getitem.lookup (@wpAny_getItem_of _ _ _ _ _ _ _ _ _ _ _ _ _ _ hk hm hv (h _ H.toks)) hs⟩
end

section
variable {prog : Program} {w : World} {s : Shared} {ad : Ads} {x : Int} {t u tw : Tok}
theorem number_ok (hw : ad.w = w) (hb : Base ad s.heap) (hx : Sm 1000000 x) : Ct prog w 2 (.ref (ad.fn 7)) [.str (tx (word x)) tw] s (fun v _ => ∃ tk, v = .int x tk) := by
  intro A Q rm ret
  refine call_fn (pn := ["word"]) (rest := ["deeds", "size", "letter"]) (hb.fn 7 rfl) hb.lim rm (by intros _ _ _ _ _ _ _ _ _ _; rfl) rfl (by kernel_rfl) (by decide +kernel) (hb.glob.pick [2, 3, 21, 17]) fun env s _ _ H rm => ?_
  have hwl := word_length 1000000 x hx
  -- deeds = {14: iadd, 15: isub}
  refine x1 (xAsg ?_)
  refine eDict2 H fun d s H => ?_
  refine kI H fun t1 s H => ?_
  refine nG H (j := 0) rfl ?_
  refine kI H fun t2 s H => ?_
  refine nG H (j := 1) rfl ?_
  refine ⟨_, _, _, _, rfl, rfl, by decide, H, fun o s hm H => ?_⟩
  refine stL H (i := 1) rfl rfl fun s H => ?_
  -- size = 0
  refine x1 (xAsg ?_)
  refine kI H fun t s H => ?_
  refine stL H (i := 2) rfl rfl fun s H => ?_
  -- for letter in word[1:]:
  refine x1 (for_str rm.handled H ?_)
  refine eSub ?_
  refine nL H (i := 0) rfl rfl ?_
  refine eSl ?_
  refine evP ?_
  refine kI H fun t s H => ?_
  refine evN ?_
  refine ⟨_, _, _, _, H, fun a s H hsl _ => ?_⟩
  refine subSFrom (a := 1) H hsl (by simp [word]) (by rw [sizeLine_eq]; exact zq109 hwl) fun t s H => ?_
  refine ⟨_, _, ap x.natAbs, _, fun k vals own => ∃ t9 lv, vals = [some (.str (tx (word x)) tw), some (.ref d), some (.int (unap ((ap x.natAbs).take k)) t9), lv] ∧ own = [(d, .obj o)], rfl, H, fun c hc => by have := ap_range _ _ hc; exact zq96 this, ⟨_, _, rfl, rfl⟩, ?_, ?_⟩
  · rintro k tl F' _ _ s Qt hk ⟨t1, lv, rfl, rfl⟩ hF H hQ hRt
    refine aName ?_
    refine stL H (i := 3) rfl rfl fun s H => ?_
    -- size = 16 * size + ord(letter) - 65
    refine x1 (xAsg ?_)
    refine eBin ?_
    refine eBin ?_
    refine eBin ?_
    refine kI H fun t s H => ?_
    refine nL H (i := 2) rfl rfl ?_
    refine oMul H (IntMulOk.of_left (by decide)) fun t s H => ?_
    refine eCall ?_
    refine nG H (j := 2) rfl ?_
    refine cwB (sp1 ?_)
    refine nL H (i := 3) rfl rfl ?_
    refine sp0 ?_
    refine cOrd H fun t s H => ?_
    refine oAdd H fun t s H => ?_
    refine kI H fun t s H => ?_
    refine oSub H fun t s H => ?_
    refine stL H (i := 2) rfl rfl fun s H => ?_
    refine x0 (hQ _ _ _ ⟨t, some (.str (tx [(ap x.natAbs).getD k 0]) tl), ?_, rfl⟩ H)
    rw [List.take_succ_eq_append_getElem hk, unap_snoc]
    simp [hk]
  · rintro _ _ s ⟨t1, lv, rfl, rfl⟩ H
    rw [List.take_length, unap_ap] at H
    -- return deeds[EXACT_TOKEN_TYPES[word[0]]](0, size)
    refine x1 (xRet ?_)
    refine eCall ?_
    refine eSub ?_
    refine nL H (i := 1) rfl rfl ?_
    refine eSub ?_
    refine nG H (j := 3) rfl ?_
    refine eSub ?_
    refine nL H (i := 0) rfl rfl ?_
    refine kI H fun t s H => ?_
    refine subS (ch := if x < 0 then 45 else 43) H (by decide) (by decide) rfl fun t3 s H => ?_
    obtain ⟨f, t4, t5, hf, f1, f2⟩ := hb.tab.keeps H.ground
    subst hw
    by_cases hneg : x < 0
    · rw [if_pos hneg]
      refine subMap (knd := strKind prog ad.w) (k := Str.ofString "-") H (hf _) (strKind_is _ _ _ _) f2 fun s H => ?_
      refine subMap (knd := intKind prog ad.w) (k := 15) H (hm _ (H.at (i := 0) rfl)) (intKind_is _ _ _ _) rfl fun s H => ?_
      refine cwF (sp1 ?_)
      refine kI H fun t s H => ?_
      refine sp1 ?_
      refine nL H (i := 2) rfl rfl ?_
      refine sp0 ⟨(hb.keeps H.ground).obj 3 rfl, ?_⟩
      refine (isub_ok (hb.keeps H.ground)).useI H (rm.le (by decide)) fun t s H => ?_
      refine ret _ _ H.keep H.same ⟨t, ?_⟩
      show Value.int _ t = _
      congr 1; exact zq108 hneg
    · rw [if_neg hneg]
      refine subMap (knd := strKind prog ad.w) (k := Str.ofString "+") H (hf _) (strKind_is _ _ _ _) f1 fun s H => ?_
      refine subMap (knd := intKind prog ad.w) (k := 14) H (hm _ (H.at (i := 0) rfl)) (intKind_is _ _ _ _) rfl fun s H => ?_
      refine cwF (sp1 ?_)
      refine kI H fun t s H => ?_
      refine sp1 ?_
      refine nL H (i := 2) rfl rfl ?_
      refine sp0 ⟨(hb.keeps H.ground).obj 2 rfl, ?_⟩
      refine (iadd_ok (hb.keeps H.ground)).useI H (rm.le (by decide)) fun t s H => ?_
      refine ret _ _ H.keep H.same ⟨t, ?_⟩
      show Value.int _ t = _
      congr 1; exact zq107 hneg
end
end Mine

end

section
open PySem PySem.Spec PySem.Calls PyProof.Rows PySem.W
set_option Elab.async false
set_option linter.all false
set_option maxRecDepth 100000
set_option autoImplicit false
namespace Mine

/-! frames with cells -/
noncomputable def cellsAt (n : Nat) : List Str → List (Str × Addr)
  | [] => []
  | x :: r => (x, n) :: cellsAt (n + 1) r
theorem cellsAt_keys : ∀ (l : List Str) (n : Nat), (cellsAt n l).map (·.1) = l
  | [], _ => rfl
  | x :: r, n => by rw [cellsAt, List.map_cons, cellsAt_keys r]
theorem cellsAt_ge : ∀ (l : List Str) (n : Nat), ∀ p ∈ cellsAt n l, n ≤ p.2
  | [], _, _, h => by cases h
  | x :: r, n, p, h => by
    rcases List.mem_cons.mp h with rfl | h
    · exact Nat.le_refl _
    · have := cellsAt_ge r (n + 1) p h; exact zq110 this
theorem cellsAt_nodup : ∀ (l : List Str) (n : Nat), ((cellsAt n l).map (·.2)).Nodup
  | [], _ => List.nodup_nil
  | x :: r, n => by
    rw [cellsAt, List.map_cons]
    refine List.nodup_cons.mpr ⟨fun h => ?_, cellsAt_nodup r (n + 1)⟩
    obtain ⟨p, hp, e⟩ := List.mem_map.mp h
    have h1 := cellsAt_ge r (n + 1) p hp
    have h2 : p.2 = n := e
    rw [h2] at h1
    exact absurd h1 (Nat.not_succ_le_self n)
noncomputable abbrev cellNames (names : List (Str × NameKind)) : List Str := (names.filter fun x => x.2 == NameKind.cell).map (·.1)
theorem cellsFrom_eq : ∀ (names : List (Str × NameKind)) (n : Nat) (acc : List (Str × Addr)), cellsFrom n names acc = (cellsAt n (cellNames names)).reverse ++ acc
  | [], _, _ => rfl
  | (x, k) :: r, n, acc => by
    unfold cellsFrom
    by_cases hk : (k == NameKind.cell) = true
    · rw [if_pos hk, cellsFrom_eq r]
      simp [cellNames, List.filter_cons, hk, cellsAt]
    · rw [if_neg hk, cellsFrom_eq r]
      simp [cellNames, List.filter_cons, hk]
theorem cells_are : ∀ (names : List (Str × NameKind)) (h : Heap), ∀ p ∈ cellsAt h.objs.size (cellNames names), (pushCells h names).get? p.2 = some { cls := .type "cell", data := .cell none }
  | [], _, _, hp => by cases hp
  | (x, k) :: r, h, p, hp => by
    unfold pushCells
    by_cases hk : (k == NameKind.cell) = true
    · rw [if_pos hk]
      rw [show cellNames ((x, k) :: r) = x :: cellNames r by simp [cellNames, List.filter_cons, hk], cellsAt] at hp
      rcases List.mem_cons.mp hp with rfl | hp
      · exact pushCells_keeps _ _ _ _ (Heap.get?_push_size _ rfl)
      · have := cells_are r (h.push { cls := .type "cell", data := .cell none }) p (by rw [Heap.size_push]; exact hp)
        exact this
    · rw [if_neg hk]
      rw [show cellNames ((x, k) :: r) = cellNames r by simp [cellNames, List.filter_cons, hk]] at hp
      exact cells_are r h p hp
theorem lookup_mem {α : Type} {x : Str} {a : α} : ∀ {l : List (Str × α)}, (l.map (·.1)).Nodup → (x, a) ∈ l → l.lookup x = some a
  | (y, b) :: l, hn, h => by
    rw [List.lookup_cons]
    rcases List.mem_cons.mp h with e | h
    · cases e; simp
    · have hne : x ≠ y := fun e => (List.nodup_cons.mp hn).1 (e ▸ List.mem_map_of_mem (f := (·.1)) h)
      rw [beq_eq_false_iff_ne.mpr hne]
      exact lookup_mem (List.nodup_cons.mp hn).2 h

/-- the parameters are bound, one after the other -/
noncomputable def BindW (prog : Program) (w : World) (A : Around) (env : Env) : List (Str × Value) → (Shared → Prop) → Shared → Prop
  | [], Q, s => Q s
  | (n, v) :: r, Q, s => W prog w A (storeName env n v) (fun _ s' => BindW prog w A env r Q s') s

section
variable {prog : Program} {w : World} {A : Around} {s : Shared}
theorem b0 {env : Env} {Q : Shared → Prop} (h : Q s) : BindW prog w A env [] Q s := h
theorem b1 {env : Env} {n : Str} {v : Value} {r : List (Str × Value)} {Q : Shared → Prop} (h : W prog w A (storeName env n v) (fun _ s => BindW prog w A env r Q s) s) : BindW prog w A env ((n, v) :: r) Q s := h

theorem BindW.mono {env : Env} {Q Q' : Shared → Prop} : ∀ (l : List (Str × Value)) (s : Shared), BindW prog w A env l Q s → (∀ s, Q s → Q' s) → BindW prog w A env l Q' s
  | [], s, h, k => k s h
  | (n, v) :: r, s, h, k => W.mono h fun _ s' q => BindW.mono r s' q k
theorem forIn_binds {env : Env} (f : Str × Value → PUnit → Sem (ForInStep PUnit)) (hf : ∀ n v u, f (n, v) u = (do storeName env n v; pure (.yield ⟨⟩))) {Q : PUnit → Shared → Prop} {E : Value → Shared → Prop} : ∀ (l : List (Str × Value)) (s : Shared),
    BindW prog w A env l (Q ⟨⟩) s → wpAny (model prog w) A (forIn l ⟨⟩ f) Q E s
  | [], s, h => by rw [List.forIn_nil]; exact wpAny_pure h
  | (n, v) :: r, s, h => by
    rw [List.forIn_cons, hf]
    exact wpAny_bind (wpAny_bind (W.any h fun _ s' h => wpAny_pure (forIn_binds f hf r s' h)))

theorem newEnv_W {scope : Scope} {globals : Addr} {closure : List (Str × Addr)} {binds : List (Str × Value)} {qual : Str} {func : Option Addr} {code : Value} {around : Option Env} {builtins : Addr} {Q : Env → Shared → Prop} {E : Value → Shared → Prop}
    (h : ∀ env, env = newEnv scope s.heap.objs.size globals (cellsFrom (s.heap.objs.size + 1) scope.names closure) qual func code around builtins →
      BindW prog w A env binds (fun s' => Q env s') { s with heap := pushCells (s.heap.push { cls := .type (if around.isSome then "dict" else "frame"), data := .dict #[] }) scope.names }) :
    wpAny (model prog w) A (newFunctionEnv scope globals closure binds qual func code around builtins) Q E s := by
  simp only [newFunctionEnv]
  refine wpAny_bind (wpAny_alloc ?_)
  refine wpAny_bind (wpAny_layCells _ (fun name kind cells => by cases hkc : kind == NameKind.cell <;> simp [hkc]) _ _ _ _ ?_)
  rw [show ({ s with heap := s.heap.push { cls := .type (if around.isSome = true then "dict" else "frame"), data := .dict #[] } } : Shared).heap.objs.size = s.heap.objs.size + 1 from Heap.size_push ..]
  have fin : ∀ env, env = newEnv scope s.heap.objs.size globals (cellsFrom (s.heap.objs.size + 1) scope.names closure) qual func code around builtins → wpAny (model prog w) A (forIn binds PUnit.unit fun (x : Str × Value) (r : PUnit) => (do storeName env x.1 x.2; pure (ForInStep.yield PUnit.unit))) (fun _ s' => wpAny (model prog w) A (pure env) Q E s') E
      { s with heap := pushCells (s.heap.push { cls := .type (if around.isSome then "dict" else "frame"), data := .dict #[] }) scope.names } :=
    fun env he => forIn_binds _ (fun _ _ _ => rfl) _ _ (BindW.mono _ _ (h env he) fun s q => wpAny_pure q)
  cases around with
  | none => exact wpAny_bind (fin _ rfl)
  | some outer => exact wpAny_bind (fin _ rfl)

/-- the kinds of a frame's names -/
structure FrameOk (scope : Scope) (names gn cn fn : List Str) : Prop where
  kind : scope.kind = .function
  nd : names.Nodup
  loc : ∀ x ∈ names, scope.names.lookup x = some .local ∧ (x == ("__debug__" : Str)) = false
  glk : ∀ x ∈ gn, scope.names.lookup x = some .globalImplicit ∧ (x == ("__debug__" : Str)) = false
  cell : ∀ x ∈ cn, scope.names.lookup x = some .cell ∧ (x == ("__debug__" : Str)) = false
  free : ∀ x ∈ fn, (scope.names.lookup x = some .cell ∨ (scope.names.lookup x = some .free ∧ (x == ("__classdict__" : Str)) = false)) ∧ (x == ("__debug__" : Str)) = false
  apart : (cn ++ fn).Nodup
noncomputable def frameB (scope : Scope) (names gn cn fn : List Str) : Bool :=
  scope.kind == .function && decide names.Nodup &&
  names.all (fun x => scope.names.lookup x == some .local && !(x == ("__debug__" : Str))) &&
  gn.all (fun x => scope.names.lookup x == some .globalImplicit && !(x == ("__debug__" : Str))) &&
  cn.all (fun x => scope.names.lookup x == some .cell && !(x == ("__debug__" : Str))) &&
  fn.all (fun x => scope.names.lookup x == some .free && !(x == ("__classdict__" : Str)) && !(x == ("__debug__" : Str))) &&
  decide (cn ++ fn).Nodup && (cellNames scope.names == cn)
theorem frameB_ok {scope : Scope} {names gn cn fn : List Str} (h : frameB scope names gn cn fn = true) : FrameOk scope names gn cn fn ∧ cellNames scope.names = cn ∧ ∀ x ∈ fn, scope.names.lookup x = some .free := by
  simp only [frameB, Bool.and_eq_true, List.all_eq_true, beq_iff_eq, Bool.not_eq_true', decide_eq_true_eq] at h
  obtain ⟨⟨⟨⟨⟨⟨⟨h1, h2⟩, h3⟩, h4⟩, h5⟩, h6⟩, h7⟩, h8⟩ := h
  exact ⟨⟨h1, h2, h3, h4, h5, fun x hx => ⟨.inr (h6 x hx).1, (h6 x hx).2⟩, h7⟩, h8, fun x hx => (h6 x hx).1.1⟩

noncomputable def clOf (n : Nat) (cn : List Str) (closure : List (Str × Addr)) : List (Str × Addr × Bool) := (cellsAt n cn).map (fun p => (p.1, p.2, true)) ++ closure.map (fun p => (p.1, p.2, false))
noncomputable abbrev cellOwn (n : Nat) (cn : List Str) : List (Addr × D) := (cellsAt n cn).map fun p => (p.2, D.cell none)

noncomputable def GlobAt (h : Heap) (g b : Addr) (gl : List (Str × Value)) : Prop := ∃ mg mb, h.Ns g mg ∧ h.Ns b mb ∧ ∀ p ∈ gl, mg p.1 = some p.2 ∨ (mg p.1 = none ∧ mb p.1 = some p.2)

theorem loc_none : ∀ (ns : List Str) (n : Nat), loc ns (List.replicate n none) = fun _ => none
  | [], _ => rfl
  | _ :: _, 0 => rfl
  | x :: ns, n + 1 => by
    funext y
    rw [List.replicate_succ]
    simp only [loc]
    split
    · rfl
    · rw [loc_none ns n]

theorem Sg.start {mt : List (Addr × D)} {env : Env} {names cn : List Str} {gl : List (Str × Value)} {names0 : List (Str × NameKind)} {closure : List (Str × Addr)} {T : String} {G : Heap} (hG : G = hideAll s.heap (mt.map (·.1)))
    (hm : ∀ p ∈ mt, D.At s.heap p.1 p.2) (hn : (mt.map (·.1)).Nodup)
    (e1 : env.locals = s.heap.objs.size) (e2 : env.cells = cellsFrom (s.heap.objs.size + 1) names0 closure) (e3 : cellNames names0 = cn) (k : FrameOk env.scope names (gl.map (·.1)) cn (closure.map (·.1)))
    (g : GlobAt G env.globals env.builtins gl) :
    Sg ⟨G, env, names, gl, s, clOf (s.heap.objs.size + 1) cn closure⟩ G (List.replicate names.length none) (mt ++ cellOwn (s.heap.objs.size + 1) cn) { s with heap := pushCells (s.heap.push { cls := .type T, data := .dict #[] }) names0 } := by
  have hsz : (s.heap.push { cls := .type T, data := .dict #[] }).objs.size = s.heap.objs.size + 1 := Heap.size_push ..
  have kk : s.heap.StaysIn (pushCells (s.heap.push { cls := .type T, data := .dict #[] }) names0) := fun b o e => pushCells_keeps _ _ _ _ (Heap.get?_push_of_some _ e)
  have hGs : ∀ b, s.heap.objs.size ≤ b → G.get? b = none := fun b hb => by
    cases q : G.get? b with
    | none => rfl
    | some o => have h1 := Heap.lt_size q; rw [hG, hideAll_size] at h1; exact absurd (Nat.lt_of_lt_of_le h1 hb) (Nat.lt_irrefl _)
  refine ⟨⟨k.kind, k.nd, k.loc, fun p hp => k.glk _ (List.mem_map_of_mem hp), fun p hp => ?_, g⟩, ?_, fun _ _ e => e, fun b o e => kk b o (of_hideAll _ (hG ▸ e)), ?_, fun p hp => ?_, ?_, Same.rfl⟩
  · have hk : (((cellsAt (s.heap.objs.size + 1) cn).reverse ++ closure).map (·.1)).Nodup := by
      rw [List.map_append, List.map_reverse, cellsAt_keys]
      have := k.apart
      exact ((List.reverse_perm cn).append_right (closure.map (·.1))).nodup_iff.mpr this
    have hc : env.cells = (cellsAt (s.heap.objs.size + 1) cn).reverse ++ closure := by rw [e2, cellsFrom_eq, e3]
    rcases List.mem_append.mp hp with hp | hp
    · obtain ⟨q, hq, rfl⟩ := List.mem_map.mp hp
      have hx : q.1 ∈ cn := by rw [← cellsAt_keys cn (s.heap.objs.size + 1)]; exact List.mem_map_of_mem hq
      refine ⟨.inl (k.cell _ hx).1, (k.cell _ hx).2, ?_, fun _ => (k.cell _ hx).1⟩
      show env.cells.lookup q.1 = some q.2
      rw [hc]
      exact lookup_mem hk (List.mem_append_left _ (List.mem_reverse.mpr hq))
    · obtain ⟨q, hq, rfl⟩ := List.mem_map.mp hp
      have hx : q.1 ∈ closure.map (·.1) := List.mem_map_of_mem hq
      refine ⟨(k.free _ hx).1, (k.free _ hx).2, ?_, fun e => Bool.noConfusion e⟩
      show env.cells.lookup q.1 = some q.2
      rw [hc]
      exact lookup_mem hk (List.mem_append_right _ hq)
  · show Heap.Ns _ env.locals (loc names _)
    rw [loc_none, e1]
    exact (Heap.Ns.new s.heap (.type T)).keeps (pushCells_keeps _ _)
  · show G.get? env.locals = none
    rw [e1]; exact hGs _ (Nat.le_refl _)
  · show D.At (pushCells _ names0) p.1 p.2 ∧ p.1 ≠ env.locals ∧ _
    rw [e1]
    rcases List.mem_append.mp hp with hp | hp
    · obtain ⟨o, ho⟩ := (hm p hp).some
      refine ⟨(hm p hp).keeps kk, Nat.ne_of_lt (Heap.lt_size ho), ?_⟩
      rw [hG]; exact hideAll_none _ (List.mem_map_of_mem hp)
    · obtain ⟨q, hq, rfl⟩ := List.mem_map.mp hp
      have hge := cellsAt_ge _ _ _ hq
      refine ⟨⟨_, cells_are names0 _ q (by rw [hsz, e3]; exact hq), rfl⟩, Nat.ne_of_gt hge, hGs _ (Nat.le_of_succ_le hge)⟩
  · rw [List.map_append]
    refine List.nodup_append.mpr ⟨hn, ?_, fun x hx y hy e => ?_⟩
    · have := cellsAt_nodup cn (s.heap.objs.size + 1)
      rwa [List.map_map]
    · obtain ⟨p, hp, rfl⟩ := List.mem_map.mp hx
      obtain ⟨q, hq, rfl⟩ := List.mem_map.mp hy
      obtain ⟨r, hr, rfl⟩ := List.mem_map.mp hq
      obtain ⟨o, ho⟩ := (hm p hp).some
      have h1 := Heap.lt_size ho
      have h2 := cellsAt_ge _ _ _ hr
      have h3 : p.1 = r.2 := e
      rw [h3] at h1
      exact Nat.lt_irrefl _ (Nat.lt_of_lt_of_le h1 (Nat.le_of_succ_le h2))

noncomputable def CodeIs (h : Heap) (f : Addr) (v : Value) : Prop := ∃ o fd, h.get? f = some o ∧ o.data = .func fd ∧ fd.code = v
/-- a def is called: with mutable objects, cells, a closure -/
theorem call_fnMX {Q : Value → Shared → Prop} {f : Addr} {params : Arguments} {body : List Stmt} {scope : Scope} {closure : List (Str × Addr)} {n : Nat} {args : List Value} {pn names cn : List Str} {gl : List (Str × Value)} (mt : List (Addr × D)) {G : Heap} (hG : G = hideAll s.heap (mt.map (·.1)))
    (hm : ∀ p ∈ mt, D.At s.heap p.1 p.2) (hn : (mt.map (·.1)).Nodup)
    (hf : IsFn s.heap f params body scope closure) (hlim : G.NoLimit) (r : Room A (n + 1)) (hb : Binds params args pn)
    (st : frameB scope names (gl.map (·.1)) cn (closure.map (·.1)) = true) (co : (scope.isCoroutine || scope.isGenerator) = false) (g : GlobV G gl)
    (h : ∀ env s₁, env.scope = scope → (env.globals = mainGlobals ∧ env.builtins = builtinsNs ∧ ∀ cdv, CodeIs s.heap f cdv → env.code = cdv) → Sg ⟨G, env, names, gl, s, clOf (s.heap.objs.size + 1) cn closure⟩ G (List.replicate names.length none) (mt ++ cellOwn (s.heap.objs.size + 1) cn) s₁ → Room (A.deeper env) n →
      BindW prog w A.in1 env (pn.zip args) (fun s₂ => G.StaysIn s₂.heap ∧ W prog w (A.deeper env) (execs body env) (fun fl s' => Q (match fl with | .ret v => v | _ => .none) s') s₂) s₁) :
    codeAny (model prog w) A (.call (.ref f) ⟨args, []⟩) (fun r s' => match r with | .ok (.ret v) => Q v s' | .ok _ => False | .error _ => False) s := by
  obtain ⟨fo, name, qual, doc, pm, an, cdv, ct, ho, hc, hd, hcd⟩ := hf
  obtain ⟨fk, fc, _⟩ := frameB_ok st
  have hro : A.depth < recursionLimit := by have := r.depth; exact zq14 this
  rw [Bool.or_eq_false_iff] at co
  refine codeAny_call_function (fd := fnX name qual params body scope closure .none .none doc pm an cdv ct) (body := body) hro ho hd co.1 co.2 rfl hcd ?_
  rw [hb]
  refine wpAny_pure (newEnv_W fun env he => ?_)
  have e0 : env.scope = scope := by rw [he]; rfl
  have hS := Sg.start (env := env) (T := "frame") (names := names) (gl := gl) hG hm hn (by rw [he]; rfl) (by rw [he]; rfl) fc (by rw [e0]; exact fk) (by rw [he]; exact g)
  have hci : ∀ v, CodeIs s.heap f v → env.code = v := fun v ⟨o, fd, a, b, d⟩ => by
    rw [ho] at a; cases a
    rw [hd] at b; cases b
    rw [← d, he]; rfl
  have := h env _ e0 ⟨by rw [he]; rfl, by rw [he]; rfl, hci⟩ hS (r.deeper _)
  exact BindW.mono _ _ this fun s h => ⟨hlim.keeps h.1, codeAny_func (h.2.any fun fl s' q => q)⟩
theorem call_fnMC {Q : Value → Shared → Prop} {f : Addr} {params : Arguments} {body : List Stmt} {scope : Scope} {closure : List (Str × Addr)} {n : Nat} {args : List Value} {pn names cn : List Str} {gl : List (Str × Value)} (mt : List (Addr × D)) {G : Heap} (hG : G = hideAll s.heap (mt.map (·.1)))
    (hm : ∀ p ∈ mt, D.At s.heap p.1 p.2) (hn : (mt.map (·.1)).Nodup)
    (hf : IsFn s.heap f params body scope closure) (hlim : G.NoLimit) (r : Room A (n + 1)) (hb : Binds params args pn)
    (st : frameB scope names (gl.map (·.1)) cn (closure.map (·.1)) = true) (co : (scope.isCoroutine || scope.isGenerator) = false) (g : GlobV G gl)
    (h : ∀ env s₁, env.scope = scope → Sg ⟨G, env, names, gl, s, clOf (s.heap.objs.size + 1) cn closure⟩ G (List.replicate names.length none) (mt ++ cellOwn (s.heap.objs.size + 1) cn) s₁ → Room (A.deeper env) n →
      BindW prog w A.in1 env (pn.zip args) (fun s₂ => G.StaysIn s₂.heap ∧ W prog w (A.deeper env) (execs body env) (fun fl s' => Q (match fl with | .ret v => v | _ => .none) s') s₂) s₁) :
    codeAny (model prog w) A (.call (.ref f) ⟨args, []⟩) (fun r s' => match r with | .ok (.ret v) => Q v s' | .ok _ => False | .error _ => False) s :=
  call_fnMX mt hG hm hn hf hlim r hb st co g fun env s₁ e _ H r => h env s₁ e H r
theorem call_fnM {Q : Value → Shared → Prop} {f : Addr} {params : Arguments} {body : List Stmt} {scope : Scope} {closure : List (Str × Addr)} {n : Nat} {args : List Value} {pn names cn : List Str} {gl : List (Str × Value)} (mt : List (Addr × D)) {G : Heap} (hG : G = hideAll s.heap (mt.map (·.1)))
    (hm : ∀ p ∈ mt, D.At s.heap p.1 p.2) (hn : (mt.map (·.1)).Nodup)
    (hf : IsFn s.heap f params body scope closure) (hlim : G.NoLimit) (r : Room A (n + 1)) (hb : Binds params args pn)
    (st : frameB scope names (gl.map (·.1)) cn (closure.map (·.1)) = true) (co : (scope.isCoroutine || scope.isGenerator) = false) (g : GlobV G gl)
    (h : ∀ env s₁, env.scope = scope → Sg ⟨G, env, names, gl, s, clOf (s.heap.objs.size + 1) cn closure⟩ G (List.replicate names.length none) (mt ++ cellOwn (s.heap.objs.size + 1) cn) s₁ → Room (A.deeper env) n →
      BindW prog w A.in1 env (pn.zip args) (fun s₂ => G.StaysIn s₂.heap ∧ W prog w (A.deeper env) (execs body env) (fun fl s' => Q (match fl with | .ret v => v | _ => .none) s') s₂) s₁) :
    W prog w A (call (.ref f) args) Q s := ⟨wpAny_call (call_fnMC mt hG hm hn hf hlim r hb st co g h)⟩
end
end Mine

end

section
open PySem PySem.Spec PySem.Calls PyProof.Rows PySem.W
set_option Elab.async false
set_option linter.all false
set_option maxRecDepth 100000
set_option autoImplicit false
namespace Mine

section
variable {c c' : Fx} {F G' : Heap} {vals vals' : List (Option Value)} {own own' : List (Addr × D)} {s s' : Shared}
theorem Sg.dropHead {x : Addr × D} (H : Sg c F vals (x :: own) s) : Sg c F vals own s ∧ x.1 ≠ c.env.locals ∧ F.get? x.1 = none ∧ (∀ p ∈ own, p.1 ≠ x.1) := by
  have hn : x.1 ∉ own.map (·.1) ∧ (own.map (·.1)).Nodup := List.nodup_cons.mp H.nd
  exact ⟨⟨H.ok, H.ns, H.sub, H.keep, H.hl, fun p hp => H.mine p (.tail _ hp), hn.2, H.same⟩, (H.mine _ (.head _)).2.1, (H.mine _ (.head _)).2.2, fun p hp e => hn.1 (e ▸ List.mem_map_of_mem hp)⟩
/-- fewer owned objects (no longer spoken of) -/
theorem Sg.less (H : Sg c F vals own s) (k : own'.Sublist own) : Sg c F vals own' s :=
  ⟨H.ok, H.ns, H.sub, H.keep, H.hl, fun p hp => H.mine p (k.subset hp), H.nd.sublist (k.map _), H.same⟩
theorem Sg.dropLast {a : Addr} {d : D} {h : Heap} {t : Nat} (H : Sg c F vals (own ++ [(a, d)]) s) (hs : Heap.SameBut a s.heap h) : Sg c F vals own { s with heap := h, toks := t } := by
  have hm := H.mine (a, d) (List.mem_append_right _ (.head _))
  have hn : ∀ p ∈ own, p.1 ≠ a := fun p hp e => by
    have := H.nd
    rw [List.map_append] at this
    exact (List.nodup_append.mp this).2.2 p.1 (List.mem_map_of_mem hp) a (by simp) e
  exact (H.less (List.sublist_append_left own _)).other hm.2.1 hm.2.2 hn hs.extBut
/-- all the owned, at the end of a call -/
theorem Sg.mt (H : Sg c F vals own s) (k : Nat) : ∀ p ∈ own.take k, D.At s.heap p.1 p.2 := fun p hp => (H.mine p (List.mem_of_mem_take hp)).1

noncomputable def NsO (m : Str → Option Value) (o : Obj) : Prop := ∃ es ep, o.data = .dict es ep ∧ StrKeys es ∧ ∀ name, nsFind es name = m name
theorem nsO {h : Heap} {a : Addr} {m : Str → Option Value} : D.At h a (.fact (NsO m)) ↔ h.Ns a m := ⟨fun ⟨o, e, es, ep, r⟩ => ⟨o, es, ep, e, r⟩, fun ⟨o, es, ep, e, r⟩ => ⟨o, e, es, ep, r⟩⟩

theorem Sg.back {I : Addr} (H : Sg c F vals own s) (H' : Sg c' G' vals' own' s') (hG : ∀ b o, s.heap.get? b = some o → b ≠ I → (∀ p ∈ own, p.1 ≠ b) → G'.get? b = some o) (h1 : I ≠ c.env.locals) (h2 : F.get? I = none) (h0 : c'.s0 = s) :
    Sg c F vals (own' ++ [(c'.env.locals, .fact (NsO (loc c'.names vals')))]) s' := by
  have fg : F.StaysIn G' := fun b o e => hG b o (H.keep b o e) (fun q => by rw [q, h2] at e; cases e) (fun p hp q => by rw [← q, (H.mine p hp).2.2] at e; cases e)
  have nf : ∀ a, G'.get? a = none → F.get? a = none := fun a e => by
    cases q : F.get? a with
    | none => rfl
    | some o => rw [fg a o q] at e; cases e
  obtain ⟨oL, es, ep, eL, rL⟩ := H.ns
  have gL : G'.get? c.env.locals = some oL := hG _ _ eL h1.symm fun p hp => (H.mine p hp).2.1
  have ne : ∀ a, G'.get? a = none → a ≠ c.env.locals := fun a e q => by rw [q, gL] at e; cases e
  refine ⟨H.ok, ⟨oL, es, ep, H'.keep _ _ gL, rL⟩, H.sub, fun b o e => H'.keep b o (fg b o e), H.hl, fun p hp => ?_, ?_, H.same.trans (h0 ▸ H'.same)⟩
  · rcases List.mem_append.mp hp with hp | hp
    · have := H'.mine p hp
      exact ⟨this.1, ne _ this.2.2, nf _ this.2.2⟩
    · rw [List.mem_singleton] at hp; subst hp
      exact ⟨nsO.mpr H'.ns, ne _ H'.hl, nf _ H'.hl⟩
  · rw [List.map_append]
    refine List.nodup_append.mpr ⟨H'.nd, by simp, fun x hx y hy e => ?_⟩
    rw [List.map_singleton, List.mem_singleton] at hy
    obtain ⟨p, hp, rfl⟩ := List.mem_map.mp hx
    exact (H'.mine p hp).2.1 (e.trans hy)
end

/-! contracts of calls that change objects -/
section
variable {prog : Program} {w : World} {A : Around} {c : Fx} {F : Heap} {vals : List (Option Value)} {s : Shared} {Q : Value → Shared → Prop}
noncomputable def CtM (prog : Program) (w : World) (n : Nat) (f : Value) (args : List Value) (s : Shared) (mt : List (Addr × D)) (P : Value → List (Addr × D) → Heap → Prop) : Prop :=
  ∀ (A : Around) (Q : Value → Shared → Prop), Room A n → (∀ v s' mt', mt'.map (·.1) = mt.map (·.1) → (hideAll s.heap (mt.map (·.1))).StaysIn s'.heap → Same s s' → (∀ p ∈ mt', D.At s'.heap p.1 p.2) → P v mt' s'.heap → Q v s') → W prog w A (call f args) Q s
/-- the ground that a call with the mutable objects mt stands on -/
theorem Sg.groundM {own : List (Addr × D)} (H : Sg c F vals own s) {mt : List (Addr × D)} (k : mt.Sublist own) : c.G.StaysIn (hideAll s.heap (mt.map (·.1))) := fun b o e =>
  hideAll_get _ (H.ground b o e) fun hm => by
    obtain ⟨p, hp, rfl⟩ := List.mem_map.mp hm
    have := H.sub _ _ e
    rw [(H.mine p (k.subset hp)).2.2] at this; cases this
theorem Sg.atM {own : List (Addr × D)} (H : Sg c F vals own s) {mt rest : List (Addr × D)} (e0 : own = mt ++ rest) {i : Nat} {a : Addr} {d : D} (e : rest[i]? = some (a, d)) : D.At (hideAll s.heap (mt.map (·.1))) a d := by
  subst e0
  have hm : (a, d) ∈ rest := List.mem_of_getElem? e
  have hd := (H.mine (a, d) (List.mem_append_right _ hm)).1
  obtain ⟨o, ho⟩ := hd.some
  refine hd.same ((hideAll_get _ ho fun q => ?_).trans ho.symm)
  obtain ⟨p, hp, e⟩ := List.mem_map.mp q
  have := H.nd
  rw [List.map_append] at this
  exact (List.nodup_append.mp this).2.2 p.1 (List.mem_map_of_mem hp) a (List.mem_map_of_mem (f := (·.1)) hm) e
theorem Sg.after {mt rest mt' : List (Addr × D)} {s' : Shared} (H : Sg c F vals (mt ++ rest) s) (em : mt'.map (·.1) = mt.map (·.1)) (st : (hideAll s.heap (mt.map (·.1))).StaysIn s'.heap) (sm : Same s s') (hm : ∀ p ∈ mt', D.At s'.heap p.1 p.2) : Sg c F vals (mt' ++ rest) s' := by
  have hnd := H.nd
  rw [List.map_append] at hnd
  have stay : ∀ b o, s.heap.get? b = some o → (∀ p ∈ mt, p.1 ≠ b) → s'.heap.get? b = some o := fun b o e q => st b o (hideAll_get _ e fun hm => by
    obtain ⟨p, hp, rfl⟩ := List.mem_map.mp hm
    exact q p hp rfl)
  have inMt : ∀ p ∈ mt', ∃ q ∈ mt, q.1 = p.1 := fun p hp => by
    have : p.1 ∈ mt'.map (·.1) := List.mem_map_of_mem hp
    rw [em] at this
    exact List.mem_map.mp this
  obtain ⟨oL, es, ep, eL, rL⟩ := H.ns
  refine ⟨H.ok, ⟨oL, es, ep, stay _ _ eL fun p hp => (H.mine p (List.mem_append_left _ hp)).2.1, rL⟩, H.sub, fun b o e => stay b o (H.keep b o e) fun p hp q => ?_, H.hl, fun p hp => ?_, ?_, H.same.trans sm⟩
  · have := (H.mine p (List.mem_append_left _ hp)).2.2
    rw [q, e] at this; cases this
  · rcases List.mem_append.mp hp with hp | hp
    · obtain ⟨q, hq, e⟩ := inMt p hp
      have := (H.mine q (List.mem_append_left _ hq)).2
      rw [e] at this
      exact ⟨hm p hp, this⟩
    · have := H.mine p (List.mem_append_right _ hp)
      obtain ⟨o, ho⟩ := this.1.some
      refine ⟨this.1.same ((stay _ _ ho fun q hq e => ?_).trans ho.symm), this.2⟩
      exact (List.nodup_append.mp hnd).2.2 q.1 (List.mem_map_of_mem hq) p.1 (List.mem_map_of_mem hp) e
  · rw [List.map_append, em]; exact hnd
theorem CtM.use {n : Nat} {f : Value} {args : List Value} {mt rest : List (Addr × D)} {P : Value → List (Addr × D) → Heap → Prop} (h : CtM prog w n f args s mt P) (H : Sg c F vals (mt ++ rest) s) (r : Room A n)
    (k : ∀ v s' mt', mt'.map (·.1) = mt.map (·.1) → Sg c F vals (mt' ++ rest) s' → (hideAll s.heap (mt.map (·.1))).StaysIn s'.heap → P v mt' s'.heap → Q v s') : W prog w A (call f args) Q s :=
  h A Q r fun v s' mt' em st sm hm hp => k v s' mt' em (H.after em st sm hm) st hp
/-- a new object, after a call that changed some -/
theorem Sg.addM {own own' : List (Addr × D)} {s' : Shared} (H : Sg c F vals own s) (H' : Sg c F vals own' s') (em : own'.map (·.1) = own.map (·.1)) {a : Addr} {d : D} (fr : s.heap.get? a = none) (hd : D.At s'.heap a d) : Sg c F vals (own' ++ [(a, d)]) s' := by
  refine ⟨H'.ok, H'.ns, H'.sub, H'.keep, H'.hl, fun p hp => ?_, ?_, H'.same⟩
  · rcases List.mem_append.mp hp with hp | hp
    · exact H'.mine p hp
    · rw [List.mem_singleton] at hp; subst hp
      refine ⟨hd, fun e => ?_, ?_⟩
      · obtain ⟨o, _, _, ho, _⟩ := H.ns
        rw [← e, fr] at ho; cases ho
      · cases q : F.get? a with
        | none => rfl
        | some o => have := H.keep a o q; rw [fr] at this; cases this
  · rw [List.map_append]
    refine List.nodup_append.mpr ⟨H'.nd, by simp, fun x hx y hy e => ?_⟩
    rw [List.map_singleton, List.mem_singleton] at hy
    rw [em] at hx
    obtain ⟨p, hp, rfl⟩ := List.mem_map.mp hx
    obtain ⟨o, ho⟩ := (H.mine p hp).1.some
    rw [e, hy, fr] at ho; cases ho
end

/-! comprehensions -/
theorem lookup_relabel (scope : Scope) (env : Env) (x : Str) : (relabel scope env).names.lookup x = (scope.names.lookup x).map fun k => if (k == NameKind.free && env.scope.kind == .function && env.kindOf x == some .cell) = true then .cell else k := by
  unfold relabel
  dsimp only
  generalize scope.names = l
  induction l with
  | nil => rfl
  | cons p r ih =>
    obtain ⟨n, k⟩ := p
    have key : ∀ (b : Bool) (l : List (Str × NameKind)), List.lookup x ((if b = true then (n, NameKind.cell) else (n, k)) :: l) = bif x == n then some (if b = true then .cell else k) else List.lookup x l := by
      intro b l
      cases b <;> simp only [if_true, Bool.false_eq_true, if_false, List.lookup_cons] <;> cases x == n <;> rfl
    rw [List.map_cons]
    refine (key _ _).trans ?_
    rw [List.lookup_cons, ih]
    cases hx : x == n with
    | true =>
      have : x = n := by simpa using hx
      subst this
      rfl
    | false => rfl
theorem relabel_ok {scope : Scope} {names gn cn fn : List Str} {env : Env} (k : FrameOk scope names gn cn fn) : FrameOk (relabel scope env) names gn cn fn := by
  have same : ∀ {x : Str} {kd : NameKind}, scope.names.lookup x = some kd → kd ≠ .free → (relabel scope env).names.lookup x = some kd := fun e hk => by
    rw [lookup_relabel, e, Option.map_some]
    rename_i x kd
    cases kd <;> first | rfl | exact absurd rfl hk
  refine ⟨k.kind, k.nd, fun x hx => ⟨same (k.loc x hx).1 (by decide), (k.loc x hx).2⟩, fun x hx => ⟨same (k.glk x hx).1 (by decide), (k.glk x hx).2⟩, fun x hx => ⟨same (k.cell x hx).1 (by decide), (k.cell x hx).2⟩, fun x hx => ⟨?_, (k.free x hx).2⟩, k.apart⟩
  rcases (k.free x hx).1 with e | ⟨e, e2⟩
  · exact .inl (same e (by decide))
  · rw [lookup_relabel, e, Option.map_some]
    split
    · exact .inl rfl
    · exact .inr ⟨rfl, e2⟩

theorem closure_ok {env : Env} : ∀ (names : List (Str × NameKind)) (fl acc : List (Str × Addr)), ((names.filter fun x => x.2 == NameKind.free).map (·.1)) = fl.map (·.1) → (∀ p ∈ fl, env.cells.lookup p.1 = some p.2) →
    (forIn names acc fun x (cs : List (Str × Addr)) => if (x.2 == NameKind.free) = true then do let a ← cellOf env x.1; pure (ForInStep.yield ((x.1, a) :: cs)) else (pure (ForInStep.yield cs) : Sem _)) = pure (fl.reverse ++ acc)
  | [], fl, acc, e, h => by
    have : fl = [] := by cases fl with | nil => rfl | cons _ _ => simp at e
    subst this; rfl
  | (x, k) :: r, fl, acc, e, h => by
    rw [List.forIn_cons]
    by_cases hk : (k == NameKind.free) = true
    · simp only [hk, if_true]
      simp only [List.filter_cons, hk, if_true, List.map_cons] at e
      cases fl with
      | nil => simp at e
      | cons p fl =>
        rw [List.map_cons] at e
        have e1 : x = p.1 := (List.cons.inj e).1
        have hl := h p (.head _)
        rw [← e1] at hl
        have : (do let a ← cellOf env x; pure (ForInStep.yield ((x, a) :: acc)) : Sem (ForInStep (List (Str × Addr)))) = pure (ForInStep.yield ((x, p.2) :: acc)) := by
          unfold cellOf; rw [hl]; rfl
        rw [this]
        refine Eq.trans (closure_ok r fl ((x, p.2) :: acc) (List.cons.inj e).2 fun q hq => h q (.tail _ hq)) ?_
        rw [e1]; simp
    · simp only [hk, Bool.false_eq_true, if_false]
      simp only [List.filter_cons, hk, Bool.false_eq_true, if_false] at e
      exact closure_ok r fl acc e h
theorem closureFor_ok {env : Env} {scope : Scope} {fl : List (Str × Addr)} (e : ((scope.names.filter fun x => x.2 == NameKind.free).map (·.1)) = fl.map (·.1)) (h : ∀ p ∈ fl, env.cells.lookup p.1 = some p.2) : closureFor scope env = pure fl.reverse := by
  unfold closureFor
  have := closure_ok (env := env) scope.names fl [] e h
  rw [List.append_nil] at this
  refine Eq.trans (b := (forIn scope.names ([] : List (Str × Addr)) (fun x (cs : List (Str × Addr)) => if (x.2 == NameKind.free) = true then do let a ← cellOf env x.1; pure (ForInStep.yield ((x.1, a) :: cs)) else (pure (ForInStep.yield cs) : Sem _)) : Sem (List (Str × Addr))) >>= fun cs => pure cs) rfl ?_
  rw [this]
  rfl
end Mine

end

section
open PySem PySem.Spec PySem.Calls PyProof.Rows PySem.W
set_option Elab.async false
set_option linter.all false
set_option maxRecDepth 100000
set_option autoImplicit false
namespace Mine

noncomputable abbrev compT (ifs : List PySem.Expr) (env : Env) : Sem Bool := forIn ifs true fun c r => if r = true then do let ok ← PySem.isTrue c env (eval c env); pure (ForInStep.yield ok) else pure (ForInStep.yield r)

section
variable {prog : Program} {w : World} {A : Around} {c : Fx} {F : Heap} {vals : List (Option Value)} {own : List (Addr × D)} {s : Shared}

theorem ct0 {env : Env} {Q : Bool → Shared → Prop} (h : Q true s) : W prog w A (compT [] env) Q s := ⟨wpAny_tests_nil h⟩
theorem ct1 {env : Env} {e : PySem.Expr} {Q : Bool → Shared → Prop} (h : W prog w A (PySem.isTrue e env (eval e env)) Q s) : W prog w A (compT [e] env) Q s := ⟨wpAny_tests_one h.out⟩

/-- what a comprehension's turns must show -/
structure Turns (prog : Program) (w : World) (A : Around) (c : Fx) (F : Heap) (vals : List (Option Value)) (elt : PySem.Expr) (x : Str) (ifs : List PySem.Expr) (I : Addr) (n : Nat) (o : Nat → Obj → Prop) (item : Nat → Tok → Value)
    (acc : Addr) (c' : Fx) (own₀ : List (Addr × D)) (R : Shared → Prop) (J : Nat → List (Option Value) → List (Addr × D) → Prop) : Prop where
  init : J 0 (List.replicate c'.names.length none) own₀
  nxt : ∀ k vals' own' s' (Q : Option Value → Shared → Prop), k < n → J k vals' own' → Sg c' c'.G vals' own' s' → (∃ ob, s'.heap.get? I = some ob ∧ o k ob) →
      (∀ t h' tk, Heap.SameBut I s'.heap h' → (∃ ob, h'.get? I = some ob ∧ o (k + 1) ob) → Q (some (item k t)) { s' with heap := h', toks := tk }) → W prog w A (pyNext (.ref I)) Q s'
  fin : ∀ vals' own' s' (Q : Option Value → Shared → Prop), J n vals' own' → Sg c' c'.G vals' own' s' → (∃ ob, s'.heap.get? I = some ob ∧ o n ob) →
      (∀ h' tk, Heap.ExtBut I s'.heap h' → Q none { s' with heap := h', toks := tk }) → W prog w A (pyNext (.ref I)) Q s'
  step : ∀ k t F' vals' own' s' (Qt : Shared → Prop), k < n → J k vals' own' → c'.G.StaysIn F' → Sg c' F' vals' own' s' → (∀ vals'' own'' s'', J (k + 1) vals'' own'' → Sg c' F' vals'' own'' s'' → Qt s'') →
      W prog w A (storeName c'.env x (item k t)) (fun _ s₂ => W prog w A (compT ifs c'.env) (fun b s₃ => if b = true then
        W prog w A (eval elt c'.env) (fun y s₄ => W prog w A (call (.builtin "list.append") [.ref acc, y]) (fun _ s₅ => Qt s₅) s₄) s₃
        else Qt s₃) s₂) s'
  done : ∀ vals' own' s', J n vals' own' → Sg c F vals own' s' → R s'

theorem comp_loop {elt iter : PySem.Expr} {x : Str} {px : Pos} {ifs : List PySem.Expr} {scope : Scope} {pos : Pos} {I : Addr} {n : Nat} {E : Value → Shared → Prop} {RR : Value → Addr → Result → Shared → Prop}
    {names cn : List Str} {gl : List (Str × Value)} {fl : List (Str × Addr)} (H : Sg c F vals own s)
    (h1 : I ≠ c.env.locals) (h2 : F.get? I = none) (h3 : ∀ p ∈ own, p.1 ≠ I) (o : Nat → Obj → Prop) (ho : ∃ ob, s.heap.get? I = some ob ∧ o 0 ob) (item : Nat → Tok → Value)
    (self : ∀ (s' : Shared) (Q : Value → Shared → Prop), (∃ ob, s'.heap.get? I = some ob ∧ o 0 ob) → Q (.ref I) s' → W prog w A (pyIter (.ref I)) Q s')
    (st : frameB scope names (gl.map (·.1)) cn (fl.map (·.1)) = true) (g : GlobAt F c.env.globals c.env.builtins gl)
    (R : Addr → Shared → Prop) (ve : Addr → List (Option Value))
    (body : ∀ (acc : Addr) (c' : Fx), c'.names = names → c'.gl = gl → c'.cl = clOf (c'.env.locals + 1) cn fl → F.StaysIn c'.G →
      c'.env.globals = c.env.globals → c'.env.builtins = c.env.builtins → c'.env.cells = cellsFrom (c'.env.locals + 1) scope.names fl → ∃ J, Turns prog w A c F (ve acc) elt x ifs I n o item acc c' ((own ++ [(acc, .list [])]) ++ cellOwn (c'.env.locals + 1) cn) (R acc) J)
    (hRR : ∀ acc C m own' s', Sg c F vals (own' ++ [(C, .fact (NsO m))]) s' → (∀ s'', Sg c F (ve acc) own' s'' → R acc s'') → RR (.ref acc) C (.ok .next) s') :
    wpAny (model prog w) A (newList []) (fun acc s₃ => wpAny (model prog w) A (newFunctionEnv scope c.env.globals fl [] c.env.qual none .none (some c.env)) (fun cenv s₄ =>
      codeAny (model prog w) A (.compStart (.ListComp elt [⟨.Name x px, iter, ifs, 0⟩] scope pos) 0 (.ref I) acc { cenv with scope := relabel scope c.env }) (RR acc cenv.locals) s₄) E s₃) E s := by
  refine wpAny_newObj_type ?_ (by show (0 : Nat) ≤ _; exact Nat.zero_le _)
  have H₃ : Sg c F vals (own ++ [(s.heap.objs.size, .list [])]) { s with heap := s.heap.push { cls := .type "list", data := .seq ([] : List Value).toArray } } :=
    H.add (H.heap (t := s.toks) push_get) fresh_size ⟨0, Heap.get?_push_size _ rfl⟩
  have hI : I < s.heap.objs.size := let ⟨ob, e, _⟩ := ho; Heap.lt_size e
  have h3' : ∀ p ∈ own ++ [(s.heap.objs.size, D.list [])], p.1 ≠ I := fun p hp => by
    rcases List.mem_append.mp hp with hp | hp
    · exact h3 p hp
    · rw [List.mem_singleton] at hp; subst hp; exact Nat.ne_of_gt hI
  have ho' : ∃ ob, (s.heap.push { cls := .type "list", data := .seq ([] : List Value).toArray }).get? I = some ob ∧ o 0 ob := let ⟨ob, e, q⟩ := ho; ⟨ob, Heap.get?_push_of_some _ e, q⟩
  generalize hs₃ : ({ s with heap := s.heap.push { cls := .type "list", data := .seq ([] : List Value).toArray } } : Shared) = s₃ at H₃
  have ho' : ∃ ob, s₃.heap.get? I = some ob ∧ o 0 ob := by rw [← hs₃]; exact ho'
  clear hs₃
  generalize s.heap.objs.size = acc at H₃ h3'
  obtain ⟨fk, fc, ff⟩ := frameB_ok st
  refine newEnv_W fun cenv he => ?_
  show codeAny _ _ _ _ _
  generalize hG : hideAll s₃.heap (((I, D.fact (o 0)) :: (own ++ [(acc, D.list [])])).map (·.1)) = G'
  have hGet : ∀ b ob, s₃.heap.get? b = some ob → b ≠ I → (∀ p ∈ own ++ [(acc, D.list [])], p.1 ≠ b) → G'.get? b = some ob := fun b ob e h4 h5 => by
    rw [← hG]
    refine hideAll_get _ e fun hm => ?_
    rw [List.map_cons] at hm
    rcases List.mem_cons.mp hm with q | q
    · exact h4 q
    · obtain ⟨p, hp, rfl⟩ := List.mem_map.mp q; exact h5 p hp rfl
  have fg : F.StaysIn G' := fun b ob e => hGet b ob (H₃.keep b ob e) (fun q => by rw [q, h2] at e; cases e) (fun p hp q => by rw [← q, (H₃.mine p hp).2.2] at e; cases e)
  have e2 : cenv.locals = s₃.heap.objs.size := by rw [he]; rfl
  have H₄ := Sg.start (s := s₃) (mt := (I, D.fact (o 0)) :: (own ++ [(acc, D.list [])])) (env := { cenv with scope := relabel scope c.env }) (T := "dict") (names := names) (gl := gl) (closure := fl) (names0 := scope.names) hG.symm
    (fun p hp => by
      rcases List.mem_cons.mp hp with rfl | hp
      · exact ho'
      · exact (H₃.mine p hp).1)
    (List.nodup_cons.mpr ⟨fun q => by obtain ⟨p, hp, e⟩ := List.mem_map.mp q; exact h3' p hp e, H₃.nd⟩)
    e2 (by show cenv.cells = _; rw [he]; rfl) fc (relabel_ok fk) (by
      obtain ⟨mg, mb, a, b, d⟩ := g
      refine ⟨mg, mb, ?_, ?_, d⟩
      · rw [he]; exact a.keeps fg
      · rw [he]; exact b.keeps fg)
  obtain ⟨H₅, q1, q2, q3⟩ := Sg.dropHead H₄
  have q1 : I ≠ cenv.locals := q1
  have q2 : G'.get? I = none := q2
  rw [← e2] at H₅ q3
  have eG : cenv.globals = c.env.globals := by rw [he]; rfl
  have eB : cenv.builtins = c.env.builtins := by rw [he]; rfl
  have eC : cenv.cells = cellsFrom (cenv.locals + 1) scope.names fl := by rw [e2, he]; rfl
  clear he
  generalize hc' : ({ G := G', env := { cenv with scope := relabel scope c.env }, names := names, gl := gl, s0 := s₃, cl := clOf (cenv.locals + 1) cn fl } : Fx) = c' at H₅
  have b1 := body acc c' (by rw [← hc']) (by rw [← hc']) (by rw [← hc']) (by rw [← hc']; exact fg) (by rw [← hc']; exact eG) (by rw [← hc']; exact eB) (by rw [← hc']; exact eC)
  have r1 : c'.env = { cenv with scope := relabel scope c.env } := by rw [← hc']
  have r2 : c'.G = G' := by rw [← hc']
  have r3 : c'.s0 = s₃ := by rw [← hc']
  have r4 : c'.env.locals = cenv.locals := by rw [r1]
  have r5 : c'.names = names := by rw [← hc']
  obtain ⟨J, T⟩ := b1
  have i0 := T.init
  rw [r4] at i0
  rw [← r5] at H₅
  rw [← r2] at H₅ hGet q2
  rw [← r4] at q1
  clear hc'
  have ho5 : ∃ ob, (pushCells (s₃.heap.push { cls := .type "dict", data := .dict #[] }) scope.names).get? I = some ob ∧ o 0 ob := let ⟨ob, e, q⟩ := ho'; ⟨ob, pushCells_keeps _ _ _ _ (Heap.get?_push_of_some _ e), q⟩
  rw [← r1, ← r4]
  have loop : codeAny (model prog w) A (.compLoop (.ListComp elt [⟨.Name x px, iter, ifs, 0⟩] scope pos) 0 (.ref I) (.ref acc) c'.env) (RR (.ref acc) c'.env.locals)
      { s₃ with heap := pushCells (s₃.heap.push { cls := .type "dict", data := .dict #[] }) scope.names } := by
    refine codeAny_compLoop_tests (fun m s' => ∃ k vals' own', m = n + 1 - k ∧ k ≤ n ∧ J k vals' own' ∧ Sg c' c'.G vals' own' s' ∧ (∃ ob, s'.heap.get? I = some ob ∧ o k ob) ∧ ∀ p ∈ own', p.1 ≠ I) ?_ (n + 1) ⟨0, _, _, rfl, Nat.zero_le _, i0, H₅, ho5, q3⟩
    rintro m s' ⟨k, vals', own', rfl, hk, hJ, H', ho', h3'⟩
    by_cases hlt : k < n
    · refine (T.nxt k vals' own' s' _ hlt hJ H' ho' fun t h' tk hs ⟨ob, hI, hP⟩ => ?_).any fun _ _ q => q
      have H2 : Sg c' c'.G vals' own' { s' with heap := h', toks := tk } := H'.other q1 q2 h3' hs.extBut
      obtain ⟨H3, fr⟩ := H2.to_rest
      have hIr : (Sg.rest c' own' { s' with heap := h', toks := tk }).get? I = some ob := H2.rest_get hI q1 h3'
      have next : ∀ s₃, (∃ vals'' own'', J (k + 1) vals'' own'' ∧ Sg c' (Sg.rest c' own' { s' with heap := h', toks := tk }) vals'' own'' s₃) →
          ∃ m, m < n + 1 - k ∧ ∃ k' vals' own', m = n + 1 - k' ∧ k' ≤ n ∧ J k' vals' own' ∧ Sg c' c'.G vals' own' s₃ ∧ (∃ ob, s₃.heap.get? I = some ob ∧ o k' ob) ∧ ∀ p ∈ own', p.1 ≠ I := by
        rintro s₃ ⟨v, w, hj, hg⟩
        refine ⟨n + 1 - (k + 1), by exact zq13 hlt, k + 1, v, w, rfl, hlt, hj, hg.weaken H'.sub fr, ⟨ob, hg.keep _ _ hIr, hP⟩, fun p hp e => ?_⟩
        have := (hg.mine p hp).2.2
        rw [e, hIr] at this; cases this
      refine wpAny_assign_Name ((T.step k t _ vals' own' _ (fun s₅ => ∃ vals'' own'', J (k + 1) vals'' own'' ∧ Sg c' _ vals'' own'' s₅) hlt hJ fr H3 (fun v o s'' a b => ⟨v, o, a, b⟩)).any fun _ s₂ h₂ => h₂.any fun b s₃ h₃ => ?_)
      cases b with
      | true =>
        simp only [if_true] at h₃ ⊢
        exact h₃.any fun y s₄ h₄ => h₄.any fun _ s₅ h₅ => next _ h₅
      | false =>
        simp only [Bool.false_eq_true, if_false] at h₃ ⊢
        exact next _ h₃
    · have hkn : k = n := by exact zq12 hk hlt
      subst hkn
      refine (T.fin vals' own' s' _ hJ H' ho' fun h' tk hs => ?_).any fun _ _ q => q
      have H2 : Sg c' c'.G vals' own' { s' with heap := h', toks := tk } := H'.other q1 q2 h3' hs
      exact hRR acc c'.env.locals _ own' _ (H₃.back H2 hGet h1 h2 r3) fun s'' q => T.done vals' own' s'' hJ q
  refine codeAny_compStart_list loop ((self _ _ ho5 loop).any fun _ _ q => q)

/-- what the turns of a comprehension must show, whatever it runs over -/
structure Steps (prog : Program) (w : World) (A : Around) (c : Fx) (F : Heap) (vals : List (Option Value)) (elt : PySem.Expr) (x : Str) (ifs : List PySem.Expr) (n : Nat) (item : Nat → Tok → Value)
    (acc : Addr) (c' : Fx) (own₀ : List (Addr × D)) (R : Shared → Prop) (J : Nat → List (Option Value) → List (Addr × D) → Prop) : Prop where
  init : J 0 (List.replicate c'.names.length none) own₀
  step : ∀ k t F' vals' own' s' (Qt : Shared → Prop), k < n → J k vals' own' → c'.G.StaysIn F' → Sg c' F' vals' own' s' → (∀ vals'' own'' s'', J (k + 1) vals'' own'' → Sg c' F' vals'' own'' s'' → Qt s'') →
      W prog w A (storeName c'.env x (item k t)) (fun _ s₂ => W prog w A (compT ifs c'.env) (fun b s₃ => if b = true then
        W prog w A (eval elt c'.env) (fun y s₄ => W prog w A (call (.builtin "list.append") [.ref acc, y]) (fun _ s₅ => Qt s₅) s₄) s₃
        else Qt s₃) s₂) s'
  done : ∀ vals' own' s', J n vals' own' → Sg c F vals own' s' → R s'
/-- what an iterator must show -/
structure Src (prog : Program) (w : World) (A : Around) (I : Addr) (n : Nat) (o : Nat → Obj → Prop) (item : Nat → Tok → Value) (c' : Fx) (J : Nat → List (Option Value) → List (Addr × D) → Prop) : Prop where
  nxt : ∀ k vals' own' s' (Q : Option Value → Shared → Prop), k < n → J k vals' own' → Sg c' c'.G vals' own' s' → (∃ ob, s'.heap.get? I = some ob ∧ o k ob) →
      (∀ t h' tk, Heap.SameBut I s'.heap h' → (∃ ob, h'.get? I = some ob ∧ o (k + 1) ob) → Q (some (item k t)) { s' with heap := h', toks := tk }) → W prog w A (pyNext (.ref I)) Q s'
  fin : ∀ vals' own' s' (Q : Option Value → Shared → Prop), J n vals' own' → Sg c' c'.G vals' own' s' → (∃ ob, s'.heap.get? I = some ob ∧ o n ob) →
      (∀ h' tk, Heap.ExtBut I s'.heap h' → Q none { s' with heap := h', toks := tk }) → W prog w A (pyNext (.ref I)) Q s'

noncomputable def compB (scope : Scope) (names gn cn fn : List Str) : Bool :=
  frameB scope names gn cn fn && ((scope.names.filter fun x => x.2 == NameKind.free).map (·.1) == fn.reverse) && scope.names.all (fun x => x.2 != .local || scope.names.lookup x.1 == some .local)

theorem comp_gen {Q : Value → Shared → Prop} {elt iter : PySem.Expr} {x : Str} {px : Pos} {ifs : List PySem.Expr} {scope : Scope} {pos pos' : Pos} {use : Option (Value → Sem Unit)} {vals₀ : List (Option Value)} {own₀ : List (Addr × D)}
    {names cn : List Str} {gl : List (Str × Value)} {fl : List (Str × Addr)} (H₀ : Sg c F vals₀ own₀ s)
    (st : compB scope names (gl.map (·.1)) cn (fl.map (·.1)) = true) (hfl : ∀ p ∈ fl, c.env.cells.lookup p.1 = some p.2)
    (R : Addr → Shared → Prop) (ve : List (Option Value) → Addr → List (Option Value)) (Pv : List (Option Value) → Prop)
    (hi : W prog w A (eval iter c.env) (fun xv s₁ => W prog w A (pyIter xv) (fun it s₂ => ∃ (vals : List (Option Value)) (own : List (Addr × D)) (I : Addr) (n : Nat) (o : Nat → Obj → Prop) (item : Nat → Tok → Value),
      it = .ref I ∧ Pv vals ∧ Sg c F vals own s₂ ∧ I ≠ c.env.locals ∧ F.get? I = none ∧ (∀ p ∈ own, p.1 ≠ I) ∧ (∃ ob, s₂.heap.get? I = some ob ∧ o 0 ob) ∧
      (∀ (s' : Shared) (Q : Value → Shared → Prop), (∃ ob, s'.heap.get? I = some ob ∧ o 0 ob) → Q (.ref I) s' → W prog w A (pyIter (.ref I)) Q s') ∧ GlobAt F c.env.globals c.env.builtins gl ∧
      (∀ (acc : Addr) (c' : Fx), c'.names = names → c'.gl = gl → c'.cl = clOf (c'.env.locals + 1) cn fl → F.StaysIn c'.G →
        c'.env.globals = c.env.globals → c'.env.builtins = c.env.builtins → c'.env.cells = cellsFrom (c'.env.locals + 1) scope.names fl → ∃ J, Steps prog w A c F (ve vals acc) elt x ifs n item acc c' ((own ++ [(acc, .list [])]) ++ cellOwn (c'.env.locals + 1) cn) (R acc) J ∧ Src prog w A I n o item c' J)) s₁) s)
    (hRR : ∀ acc C m vals own' s', Pv vals → Sg c F vals (own' ++ [(C, .fact (NsO m))]) s' → (∀ s'', Sg c F (ve vals acc) own' s'' → R acc s'') → compPost (model prog w) A (fun _ _ => False) use Q (.ref acc) C (.ok .next) s')
    (hs : ∀ x, foldedSetIterable iter c.env x = pure x := by intro _; rfl) :
    W prog w A (comprehension (.ListComp elt [⟨.Name x px, iter, ifs, 0⟩] scope pos) scope c.env pos' (newList []) false (eval iter c.env) use) Q s := by
  unfold compB at st
  rw [Bool.and_eq_true, Bool.and_eq_true] at st
  obtain ⟨⟨st, st2⟩, st3⟩ := st
  have hclos : closureFor scope c.env = pure fl := by
    have := closureFor_ok (env := c.env) (scope := scope) (fl := fl.reverse) (by rw [List.map_reverse]; exact by simpa using st2) fun p hp => hfl p (List.mem_reverse.mp hp)
    rw [List.reverse_reverse] at this; exact this
  refine ⟨wpAny_comprehension_free rfl hs hclos (frameB_ok st).1.kind (fun y hy hl => ?_) (hi.any fun xv s₁ h₁ => h₁.any fun it s₂ h₂ => ?_)⟩
  · have := List.all_eq_true.mp st3 y hy
    rw [hl] at this
    simpa using this
  · obtain ⟨vals, own, I, n, o, item, rfl, pv, H, h1, h2, h3, ho, self, g, body⟩ := h₂
    refine comp_loop (n := n) H h1 h2 h3 o ho item self st g R (ve vals) (fun acc c' a b d e f g h => ?_) fun acc C m own' s' H' k => hRR acc C m vals own' s' pv H' k
    obtain ⟨J, S, T⟩ := body acc c' a b d e f g h
    exact ⟨J, S.init, T.nxt, T.fin, S.step, S.done⟩

/-- a comprehension as a value -/
theorem post_none {Q : Value → Shared → Prop} : ∀ acc C m vals own' s', True → Sg c F vals (own' ++ [(C, .fact (NsO m))]) s' → (∀ s'', Sg c F vals own' s'' → Q (.ref acc) s'') → compPost (model prog w) A (fun _ _ => False) none Q (.ref acc) C (.ok .next) s' :=
  fun acc C m vals own' s' _ H k => ⟨m, nsO.mp (H.at (getLen _)), fun h' hs => k _ (H.dropLast (t := s'.toks) hs)⟩
/-- a comprehension put under a local name -/
theorem post_name {Q : Value → Shared → Prop} {y : Str} {py : Pos} {i : Nat} (e : c.names[i]? = some y) : ∀ acc C m vals own' s', (vals[i]?).isSome = true → Sg c F vals (own' ++ [(C, .fact (NsO m))]) s' → (∀ s'', Sg c F (vals.set i (some (.ref acc))) own' s'' → Q .none s'') →
    compPost (model prog w) A (fun _ _ => False) (some (assign (.Name y py) c.env)) Q (.ref acc) C (.ok .next) s' := fun acc C m vals own' s' hv H k => by
  show wpAny _ _ (assign (.Name y py) c.env (.ref acc)) _ _ _
  refine W.out (aName (stL H e hv fun s'' H'' => ?_))
  exact ⟨m, nsO.mp (H''.at (getLen _)), fun h' hs => k _ (H''.dropLast (t := s''.toks) hs)⟩

noncomputable abbrev Comp (prog : Program) (w : World) (A : Around) (c : Fx) (F : Heap) (elt iter : PySem.Expr) (x : Str) (ifs : List PySem.Expr) (scope : Scope) (names cn : List Str) (gl : List (Str × Value)) (fl : List (Str × Addr)) (R : Addr → Shared → Prop) (ve : List (Option Value) → Addr → List (Option Value)) (Pv : List (Option Value) → Prop) (s : Shared) : Prop :=
  W prog w A (eval iter c.env) (fun xv s₁ => W prog w A (pyIter xv) (fun it s₂ => ∃ (vals : List (Option Value)) (own : List (Addr × D)) (I : Addr) (n : Nat) (o : Nat → Obj → Prop) (item : Nat → Tok → Value),
      it = .ref I ∧ Pv vals ∧ Sg c F vals own s₂ ∧ I ≠ c.env.locals ∧ F.get? I = none ∧ (∀ p ∈ own, p.1 ≠ I) ∧ (∃ ob, s₂.heap.get? I = some ob ∧ o 0 ob) ∧
      (∀ (s' : Shared) (Q : Value → Shared → Prop), (∃ ob, s'.heap.get? I = some ob ∧ o 0 ob) → Q (.ref I) s' → W prog w A (pyIter (.ref I)) Q s') ∧ GlobAt F c.env.globals c.env.builtins gl ∧
      (∀ (acc : Addr) (c' : Fx), c'.names = names → c'.gl = gl → c'.cl = clOf (c'.env.locals + 1) cn fl → F.StaysIn c'.G →
        c'.env.globals = c.env.globals → c'.env.builtins = c.env.builtins → c'.env.cells = cellsFrom (c'.env.locals + 1) scope.names fl → ∃ J, Steps prog w A c F (ve vals acc) elt x ifs n item acc c' ((own ++ [(acc, .list [])]) ++ cellOwn (c'.env.locals + 1) cn) (R acc) J ∧ Src prog w A I n o item c' J)) s₁) s

theorem eComp {Q : Value → Shared → Prop} {elt iter : PySem.Expr} {x : Str} {px : Pos} {ifs : List PySem.Expr} {scope : Scope} {pos : Pos} {vals₀ : List (Option Value)} {own₀ : List (Addr × D)}
    (names cn : List Str) (gl : List (Str × Value)) (fl : List (Str × Addr)) (H₀ : Sg c F vals₀ own₀ s)
    (st : compB scope names (gl.map (·.1)) cn (fl.map (·.1)) = true) (hfl : ∀ p ∈ fl, c.env.cells.lookup p.1 = some p.2)
    (hi : Comp prog w A c F elt iter x ifs scope names cn gl fl (fun acc s => Q (.ref acc) s) (fun v _ => v) (fun _ => True) s)
    (hs : ∀ x, foldedSetIterable iter c.env x = pure x := by intro _; rfl) :
    W prog w A (eval (.ListComp elt [⟨.Name x px, iter, ifs, 0⟩] scope pos) c.env) Q s := by
  refine ⟨?_⟩
  rw [eval_ListComp]
  exact (comp_gen (pos' := _) (use := none) H₀ st hfl _ _ _ hi post_none hs).out

theorem swaps_true (H : Sg c F vals own s) {i : Nat} {y : Str} {py : Pos} {elt : PySem.Expr} {gs : List Comprehension} {scope : Scope} {pos : Pos} {l : Nat} (e : c.names[i]? = some y) (hl : (py.line == pos.line) = true)
    (hn : (scope.names.any fun x => x.1 == y && (x.2 == .local || x.2 == .cell)) = false) : swapsWith (.ListComp elt gs scope pos) (some (.Name y py)) l c.env = pure true := by
  have k := (H.ok.loc y (List.mem_of_getElem? e)).1
  have hf := H.ok.kind
  have hb : c.env.blockKind = .function := by unfold Env.blockKind; rw [hf]; rfl
  unfold swapsWith
  show (pure (c.env.blockKind == .function && c.env.kindOf y == some .local && py.line == pos.line && !(scope.names.any fun x => x.1 == y && (x.2 == .local || x.2 == .cell))) : Sem Bool) = pure true
  rw [hb, k, hl, hn]
  rfl
theorem swaps_false (H : Sg c F vals own s) {j : Nat} {y : Str} {a : Addr} {py : Pos} {elt : PySem.Expr} {gs : List Comprehension} {scope : Scope} {pos : Pos} {l : Nat} (e : c.cl[j]? = some (y, a, true)) : swapsWith (.ListComp elt gs scope pos) (some (.Name y py)) l c.env = pure false := by
  have k := (H.ok.cell _ (List.mem_of_getElem? e)).2.2.2 rfl
  unfold swapsWith
  show (pure (c.env.blockKind == .function && c.env.kindOf y == some .local && py.line == pos.line && !(scope.names.any fun x => x.1 == y && (x.2 == .local || x.2 == .cell))) : Sem Bool) = pure false
  rw [show c.env.kindOf y = some .cell from k]
  rw [show ((some NameKind.cell == some NameKind.local) = false) from rfl, Bool.and_false, Bool.false_and, Bool.false_and]
/-- y = [..], y a local -/
theorem xComp {Q : Flow → Shared → Prop} {elt iter : PySem.Expr} {x y : Str} {px py : Pos} {ifs : List PySem.Expr} {scope : Scope} {pos spos : Pos} {vals₀ : List (Option Value)} {own₀ : List (Addr × D)} {i : Nat}
    (names cn : List Str) (gl : List (Str × Value)) (fl : List (Str × Addr)) (H₀ : Sg c F vals₀ own₀ s) (e : c.names[i]? = some y)
    (st : compB scope names (gl.map (·.1)) cn (fl.map (·.1)) = true) (hfl : ∀ p ∈ fl, c.env.cells.lookup p.1 = some p.2) (hl : (py.line == pos.line) = true)
    (hn : (scope.names.any fun x => x.1 == y && (x.2 == .local || x.2 == .cell)) = false)
    (hi : Comp prog w A c F elt iter x ifs scope names cn gl fl (fun acc s => Q .next s) (fun v acc => v.set i (some (.ref acc))) (fun v => (v[i]?).isSome = true) s)
    (hs : ∀ x, foldedSetIterable iter c.env x = pure x := by intro _; rfl) :
    W prog w A (exec (.Assign [.Name y py] (.ListComp elt [⟨.Name x px, iter, ifs, 0⟩] scope pos) spos) c.env) Q s := by
  refine ⟨?_⟩
  rw [exec_Assign_Name_used _ _ _ _ (swaps_true H₀ e hl hn)]
  refine wpAny_bind (wpAny_standAt (wpAny_bind ?_))
  show wpAny _ A (do let _ ← comprehension (.ListComp elt [⟨.Name x px, iter, ifs, 0⟩] scope pos) scope c.env _ (newList []) false (eval iter c.env) (some (assign (.Name y py) c.env))) _ _ s
  refine wpAny_bind (wpAny_mono (comp_gen (pos' := _) (use := some (assign (.Name y py) c.env)) (Q := fun _ s' => Q .next s') H₀ st hfl _ _ _ hi (post_name (Q := fun _ s' => Q .next s') e) hs).out (fun _ s' hq => wpAny_pure (wpAny_pure hq)) fun _ _ e => e.elim)

theorem range_src {r : Addr} {a b : Int} {t u v : Tok} {n : Nat} (hh : A.handled = none) (H : Sg c F vals own s) (hr : IsRange s.heap r a b 1 t u v) (ha : -(2 ^ 62) ≤ a ∧ a < 2 ^ 62) (hb : -(2 ^ 62) ≤ b ∧ b < 2 ^ 62) (hn : n = (b - a).toNat) {Q : Value → Shared → Prop}
    (h : ∀ I s', Sg c F vals own s' → I ≠ c.env.locals → F.get? I = none → (∀ p ∈ own, p.1 ≠ I) → ∀ o : Nat → Obj → Prop, (∃ ob, s'.heap.get? I = some ob ∧ o 0 ob) →
      (∀ (s' : Shared) (Q : Value → Shared → Prop), (∃ ob, s'.heap.get? I = some ob ∧ o 0 ob) → Q (.ref I) s' → W prog w A (pyIter (.ref I)) Q s') →
      (∀ c' J, Src prog w A I n o (fun k t => .int (a + k) t) c' J) → Q (.ref I) s') : W prog w A (pyIter (.ref r)) Q s := by
  refine ⟨wpAny_pyIter_range hr (small_one ha.1 ha.2 hb.1 hb.2) ?_⟩
  have hsz : (Builtin.Range.rangeSize a b 1) = n := by rw [rangeSize_one]; split <;> omega
  obtain ⟨n1, n2, n3⟩ := H.newAt
  refine h s.heap.objs.size _ (H.heap (t := s.toks) push_get) n1 n2 n3 (fun k ob => ob = { cls := .type "range_iterator", data := .fields #[rawInt (a + k), rawInt (n - (k : Int)), rawInt 1] }) ⟨_, Heap.get?_push_size _ rfl, ?_⟩ ?_ fun c' J => ⟨?_, ?_⟩
  · rw [hsz]; simp
  · rintro s' Q' ⟨_, ho, rfl⟩ h
    exact ⟨wpAny_pyIter_rangeiter (x := a + (0 : Nat)) (left := n - ((0 : Nat) : Int)) (step := 1) ho h⟩
  · rintro k vals' own' s' Q' hk hJ H' ⟨_, ho, rfl⟩ h
    refine ⟨wpAny_pyNext_range_item ho (by exact zq11 hk) fun h' hit hs => h _ _ _ hs ⟨_, hit, ?_⟩⟩
    have e1 : a + ((k + 1 : Nat) : Int) = a + k + 1 := by push_cast; exact zq10
    have e2 : (n : Int) - ((k + 1 : Nat) : Int) = n - k - 1 := by push_cast; exact zq9
    rw [e1, e2]
  · rintro vals' own' s' Q' hJ H' ⟨_, ho, rfl⟩ h
    exact ⟨wpAny_pyNext_range_end hh ho (by exact zq8) fun h' hs => h _ _ hs⟩
theorem str_src {l : List Nat} {tk : Tok} (hh : A.handled = none) (H : Sg c F vals own s) (hl : ∀ c ∈ l, c < 128) {Q : Value → Shared → Prop}
    (h : ∀ I s', Sg c F vals own s' → I ≠ c.env.locals → F.get? I = none → (∀ p ∈ own, p.1 ≠ I) → ∀ o : Nat → Obj → Prop, (∃ ob, s'.heap.get? I = some ob ∧ o 0 ob) →
      (∀ (s' : Shared) (Q : Value → Shared → Prop), (∃ ob, s'.heap.get? I = some ob ∧ o 0 ob) → Q (.ref I) s' → W prog w A (pyIter (.ref I)) Q s') →
      (∀ c' J, Src prog w A I l.length o (fun k t => .str (tx [l.getD k 0]) t) c' J) → Q (.ref I) s') : W prog w A (pyIter (.str (tx l) tk)) Q s := by
  have ha : (tx l).cps.all (· < 128) = true := by
    rw [Array.all_eq_true_iff_forall_mem]
    intro c hc
    have : c ∈ l := by simpa using hc
    simpa using hl c this
  refine ⟨wpAny_pyIter_ascii ha ?_⟩
  obtain ⟨n1, n2, n3⟩ := H.newAt
  refine h s.heap.objs.size _ (H.heap (t := s.toks) push_get) n1 n2 n3 (fun k ob => ob.cls = .type "str_ascii_iterator" ∧ ob.data = .fields #[.str (tx l) tk, .int k 0]) ⟨_, Heap.get?_push_size _ rfl, rfl, rfl⟩ ?_ fun c' J => ⟨?_, ?_⟩
  · rintro s' Q' ho h
    exact ⟨wpAny_pyIter_striter_ascii ho h⟩
  · rintro k vals' own' s' Q' hk hJ H' ho h
    refine ⟨wpAny_pyNext_ascii_item (c := l.getD k 0) ho (by simp [hk]) fun h' hit hs => h _ _ _ hs hit⟩
  · rintro vals' own' s' Q' hJ H' ho h
    exact ⟨wpAny_pyNext_ascii_end hh ho (by simp) fun h' hs => h _ _ hs⟩
theorem list_src {r : Addr} {vs : List Value} (hh : A.handled = none) (H : Sg c F vals own s) (hl : s.heap.IsList r vs.toArray) {Q : Value → Shared → Prop}
    (h : ∀ I s', Sg c F vals own s' → I ≠ c.env.locals → F.get? I = none → (∀ p ∈ own, p.1 ≠ I) → ∀ o : Nat → Obj → Prop, (∃ ob, s'.heap.get? I = some ob ∧ o 0 ob) →
      (∀ (s' : Shared) (Q : Value → Shared → Prop), (∃ ob, s'.heap.get? I = some ob ∧ o 0 ob) → Q (.ref I) s' → W prog w A (pyIter (.ref I)) Q s') →
      (∀ (c' : Fx) J, (∀ k vals' own' s', J k vals' own' → Sg c' c'.G vals' own' s' → s'.heap.IsList r vs.toArray) → Src prog w A I vs.length o (fun k t => vs.getD k .none) c' J) → Q (.ref I) s') : W prog w A (pyIter (.ref r)) Q s := by
  refine ⟨wpAny_pyIter_list hl ?_⟩
  obtain ⟨n1, n2, n3⟩ := H.newAt
  refine h s.heap.objs.size _ (H.heap (t := s.toks) push_get) n1 n2 n3 (fun k ob => ob.cls = .type "list_iterator" ∧ ob.data = .fields #[.ref r, .int k 0]) ⟨_, Heap.get?_push_size _ rfl, rfl, rfl⟩ ?_ fun c' J hJL => ⟨?_, ?_⟩
  · rintro s' Q' ho h
    exact ⟨wpAny_pyIter_listiter (i := 0) ho h⟩
  · rintro k vals' own' s' Q' hk hJ H' ho h
    exact ⟨wpAny_pyNext_list_item (x := vs.getD k .none) ho (hJL k vals' own' s' hJ H') (by simp [hk]) fun h' hit hs => h 0 _ _ hs hit⟩
  · rintro vals' own' s' Q' hJ H' ho h
    exact ⟨wpAny_pyNext_list_end hh ho (hJL _ vals' own' s' hJ H') (by simp) fun h' hs => h _ _ hs⟩
end
end Mine

end

section
open PySem PySem.Spec PySem.Calls PyProof.Rows PySem.W
set_option Elab.async false
set_option linter.all false
set_option maxRecDepth 100000
set_option autoImplicit false
namespace Mine

section
variable {prog : Program} {w : World} {A : Around} {s : Shared} {env : Env} {Q : Bool → Shared → Prop}
theorem tOr {values : List PySem.Expr} {pos : Pos} {whole : Sem Value} (h : W prog w A (allTrue .Or values env) Q s) : W prog w A (PySem.isTrue (.BoolOp .Or values pos) env whole) Q s := ⟨wpAny_isTrue_BoolOp h.out⟩
theorem tOr0 (h : Q false s) : W prog w A (allTrue .Or [] env) Q s := ⟨wpAny_allTrue_Or_nil h⟩
theorem tOr1 {x : PySem.Expr} {rest : List PySem.Expr} (h : W prog w A (PySem.isTrue x env (eval x env)) (fun b s₁ => if b then Q true s₁ else W prog w A (allTrue .Or rest env) Q s₁) s) : W prog w A (allTrue .Or (x :: rest) env) Q s :=
  ⟨wpAny_allTrue_Or_cons (h.any fun b s h => by cases b <;> first | exact h | exact h.out)⟩
theorem tVal {e : PySem.Expr} {whole : Sem Value} (h : W prog w A whole (fun v s₁ => W prog w A (truthy v) Q s₁) s) (he : PySem.isTrue e env whole = (do let v ← whole; standAt e.pos; holding [v] (truthy v)) := by rfl) : W prog w A (PySem.isTrue e env whole) Q s :=
  ⟨wpAny_isTrue_value (h.any fun _ _ h => h.out) he⟩
theorem cNeB {a b : Bool} {Q : Value → Shared → Prop} (h : Q (.bool (a != b)) s) : W prog w A (compareOp .NotEq (.bool a) (.bool b)) Q s := ⟨@PyProof.Rows.ne_bool _ _ _ _ _ _ _ _ h⟩
theorem xIfT {test : PySem.Expr} {body orelse : List Stmt} {pos : Pos} {Q : Flow → Shared → Prop} (b : Bool) (s₂ : Shared) (h : if b then W prog w A (execs body env) Q s₂ else W prog w A (execs orelse env) Q s₂) : if b then W prog w A (execs body env) Q s₂ else W prog w A (execs orelse env) Q s₂ := h
end

theorem lkeep {h h' : Heap} {a : Addr} {vs : Array Value} (x : h.IsList a vs) (k : h.StaysIn h') : h'.IsList a vs := let ⟨o, e, r⟩ := x; ⟨o, k _ _ e, r⟩
theorem Sg.glob0 {c : Fx} {F : Heap} {vals : List (Option Value)} {own : List (Addr × D)} {s : Shared} (H : Sg c F vals own s) : GlobAt F c.env.globals c.env.builtins [] :=
  let ⟨mg, mb, a, b, _⟩ := H.ok.glv; ⟨mg, mb, a.keeps H.sub, b.keeps H.sub, fun _ h => nomatch h⟩
noncomputable def belowK (row : List Int) : Nat → List Bool
  | 0 => []
  | k + 1 => belowK row k ++ (if row.getD k 0 = 0 then [] else [decide (row.getD k 0 < 0)])
theorem belowK_length (row : List Int) : ∀ k, (belowK row k).length ≤ k
  | 0 => Nat.le_refl _
  | k + 1 => by
    rw [belowK, List.length_append]
    have := belowK_length row k
    split <;> simp <;> (first | exact zq131 this | exact zq132 this | omega)
noncomputable def flipsK (bs : List Bool) : Nat → Nat
  | 0 => 0
  | k + 1 => flipsK bs k + (if bs.getD k false != bs.getD (k + 1) false then 1 else 0)
theorem flipsK_le (bs : List Bool) : ∀ k, flipsK bs k ≤ k
  | 0 => Nat.le_refl _
  | k + 1 => by
    rw [flipsK]
    have := flipsK_le bs k
    split <;> (first | exact zq129 this | exact zq130 this | omega)
noncomputable def changes (row : List Int) : Nat := flipsK (belowK row row.length) ((belowK row row.length).length - 1)

section
variable {prog : Program} {w : World} {s : Shared} {ad : Ads} {t u : Tok}

theorem changes_ok {a : Addr} {row : List Int} {s0 : Shared} (hb : Base ad s0.heap) (ha : D.At s0.heap a (.ints row)) (hz : row.length < 1000) :
    Ct prog w 2 (.ref (ad.fn 14)) [.ref a] s0 (fun v _ => ∃ tk, v = .int (changes row) tk) := by
  intro A Q rm ret
  refine call_fnM (pn := ["row"]) (names := ["row", "number"]) (cn := ["below"]) (closure := []) [] rfl (fun _ h => nomatch h) List.nodup_nil (hb.fn 14 rfl) hb.lim rm (by intros _ _ _ _ _ _ _ _ _ _; rfl) (by kernel_rfl) (by decide +kernel) (hb.glob.pick [4, 2, 3, 19, 20]) fun env s _ H rm => ?_
  refine b1 (stL H (i := 0) rfl rfl fun s H => b0 ⟨H.ground, ?_⟩)
  -- below = []
  refine x1 (xAsg ?_)
  refine eList ?_
  refine sp0 ?_
  refine mkList H fun bl s H => ?_
  refine stC H (i := 0) (j := 0) rfl rfl fun s H => ?_
  -- for number in row:
  obtain ⟨vs, hvs, hi⟩ := D.isI ha
  refine x1 (for_list rm.handled H ?_)
  refine nL H (i := 0) rfl rfl ?_
  have hvl : vs.length = row.length := hi.length
  refine ⟨_, _, a, vs, fun k vals own => ∃ nv, vals = [some (.ref a), nv] ∧ own = [(s0.heap.objs.size + 1, .cell (some (.ref bl))), (bl, .list ((belowK row k).map .bool))], rfl, H, ⟨_, rfl, rfl⟩, fun k _ _ s _ H => lkeep hvs H.ground, ?_, ?_⟩
  · rintro k v F' _ _ s Qt hv ⟨nv, rfl, rfl⟩ hF H hQ hRt
    have hk : k < row.length := by rw [← hvl]; exact (List.getElem?_eq_some_iff.mp hv).1
    obtain ⟨tn, e⟩ := ints_get hi hk
    obtain rfl : v = .int (row.getD k 0) tn := Option.some.inj (hv.symm.trans e)
    generalize hx : row.getD k 0 = x at *
    refine aName (stL H (i := 1) rfl rfl fun s H => ?_)
    -- if ISTERMINAL(iadd(256, number)) or ISTERMINAL(isub(256, number)):
    refine x1 (xIf ?_)
    have hbl := belowK_length row k
    refine W.join H (fun b => b = !(x == 0)) ?_ ?_
    · refine tOr (tOr1 (tVal ?_))
      refine eCall ?_
      refine nG H (j := 0) rfl ?_
      refine cwF (sp1 ?_)
      refine eCall ?_
      refine nG H (j := 1) rfl ?_
      refine cwF (sp1 ?_)
      refine kI H fun t s H => ?_
      refine sp1 ?_
      refine nL H (i := 1) rfl rfl ?_
      refine sp0 ⟨(hb.keeps H.ground).obj 2 rfl, ?_⟩
      refine (iadd_ok (hb.keeps H.ground)).useI H (rm.le (by decide)) fun t s H => ?_
      refine sp0 ⟨(hb.keeps H.ground).obj 4 rfl, ?_⟩
      refine (isTerm_ok (hb.keeps H.ground)).use H (rm.le (by decide)) fun v s H _ hv => ?_
      subst hv
      refine tBool ?_
      refine iteD (fun hp => ?_) fun hp => ?_
      · exact ⟨by have : x ≠ 0 := by exact zq128 hp
                  simp [this], H⟩
      · refine tOr1 (tVal ?_)
        refine eCall ?_
        refine nG H (j := 0) rfl ?_
        refine cwF (sp1 ?_)
        refine eCall ?_
        refine nG H (j := 2) rfl ?_
        refine cwF (sp1 ?_)
        refine kI H fun t s H => ?_
        refine sp1 ?_
        refine nL H (i := 1) rfl rfl ?_
        refine sp0 ⟨(hb.keeps H.ground).obj 3 rfl, ?_⟩
        refine (isub_ok (hb.keeps H.ground)).useI H (rm.le (by decide)) fun t s H => ?_
        refine sp0 ⟨(hb.keeps H.ground).obj 4 rfl, ?_⟩
        refine (isTerm_ok (hb.keeps H.ground)).use H (rm.le (by decide)) fun v s H _ hv => ?_
        subst hv
        refine tBool ?_
        refine iteD (fun hp2 => ?_) fun hp2 => ?_
        · exact ⟨by have : x ≠ 0 := by exact zq127 hp2
                    simp [this], H⟩
        · refine tOr0 ⟨by have : x = 0 := by exact zq126 hp hp2
                          simp [this], H⟩
    · rintro b s rfl H
      by_cases h0 : x = 0
      · rw [show (!(x == 0)) = false by simp [h0], if_neg Bool.false_ne_true]
        refine x0 (x0 (hQ _ _ _ ⟨some (.int x tn), rfl, ?_⟩ H))
        rw [belowK, hx, if_pos h0, List.append_nil]
      · rw [show (!(x == 0)) = true by simp [h0], if_pos rfl]
        -- below.append(ISTERMINAL(iadd(256, number)))
        refine x1 (xE H ?_)
        refine eMeth ?_
        refine nC H (j := 0) rfl (H.at (i := 0) rfl) ?_
        refine gmAppend (H.at (i := 1) rfl) rfl ?_
        refine cwB (sp1 ?_)
        refine eCall ?_
        refine nG H (j := 0) rfl ?_
        refine cwF (sp1 ?_)
        refine eCall ?_
        refine nG H (j := 1) rfl ?_
        refine cwF (sp1 ?_)
        refine kI H fun t s H => ?_
        refine sp1 ?_
        refine nL H (i := 1) rfl rfl ?_
        refine sp0 ⟨(hb.keeps H.ground).obj 2 rfl, ?_⟩
        refine (iadd_ok (hb.keeps H.ground)).useI H (rm.le (by decide)) fun t s H => ?_
        refine sp0 ⟨(hb.keeps H.ground).obj 4 rfl, ?_⟩
        refine (isTerm_ok (hb.keeps H.ground)).use H (rm.le (by decide)) fun v s H _ hv => ?_
        subst hv
        refine sp0 ?_
        refine cAppend H (i := 1) rfl (by rw [sizeLine_eq, List.length_map]; exact zq125 hz hk hbl) fun s H => ?_
        refine x0 (x0 (hQ _ _ _ ⟨some (.int x tn), rfl, ?_⟩ H))
        rw [belowK, hx, if_neg h0, List.map_append]
        have : decide (256 + x < 256) = decide (x < 0) := by
          congr 1; apply propext; exact zq124
        rw [this]
        rfl
  · rintro _ _ s ⟨nv, rfl, rfl⟩ H
    rw [hvl] at H
    have hbl := belowK_length row row.length
    generalize hbs : belowK row row.length = bs at H hbl
    have hl2 : IsLst s.heap bl bs.length := by
      have := D.lst (H.at (i := 1) rfl)
      rwa [List.length_map] at this
    -- return len([k for k in range(1, len(below)) if below[k - 1] != below[k]])
    refine x1 (xRet ?_)
    refine eCall ?_
    refine nG H (j := 3) rfl ?_
    refine cwB (sp1 ?_)
    refine eComp ["k"] [] [] [("below", s0.heap.objs.size + 1)] H (by kernel_rfl) ?_ ?_
    · intro p hp
      rw [List.mem_singleton] at hp
      subst hp
      exact (H.ok.cell (_, _, true) (.head _)).2.2.1
    refine eCall ?_
    refine nG H (j := 4) rfl ?_
    refine cwT (sp1 ?_)
    refine kI H fun t s H => ?_
    refine sp1 ?_
    refine eCall ?_
    refine nG H (j := 3) rfl ?_
    refine cwB (sp1 ?_)
    refine nC H (j := 0) rfl (H.at (i := 0) rfl) ?_
    refine sp0 ?_
    refine cLen H (k := bs.length) (by have := D.lst (H.at (i := 1) rfl); rwa [List.length_map] at this) (by exact zq123 hz hbl) fun t s H => ?_
    refine sp0 ?_
    refine cRange2 H fun r t1 t2 t3 s H hr => ?_
    refine range_src (n := bs.length - 1) (A := A.deeper env) rm.handled H hr (by decide) (by exact zq122 hz hbl) (by exact zq121) fun I s H h1 h2 h3 o ho self src => ?_
    refine ⟨_, _, I, _, o, _, rfl, trivial, H, h1, h2, h3, ho, self, ?_, fun acc c' e1 e2 e3 e4 e5 e6 e7 => ⟨fun k vals own => ∃ kv vs, vals = [kv] ∧ vs.length = flipsK bs k ∧ own = [(s0.heap.objs.size + 1, .cell (some (.ref bl))), (bl, .list (bs.map .bool)), (acc, .list vs)], ⟨?_, ?_, ?_⟩, src _ _⟩⟩
    · exact H.glob0
    · rw [e1]; exact ⟨_, [], rfl, rfl, rfl⟩
    · obtain ⟨G', env', names', gl', s0', cl'⟩ := c'
      dsimp only at e1 e2 e3 e4 e5 e6 e7
      subst e1 e2 e3
      rintro k t F' _ _ s Qt hk ⟨kv, vs, rfl, hvs, rfl⟩ hF H hQ
      have q1 : ((1 : Int) + k - 1).toNat = k := by exact zq120
      have q2 : ((1 : Int) + k).toNat = k + 1 := by exact zq119
      refine stL H (i := 0) rfl rfl fun s H => ?_
      refine ct1 (tCmp (eSub ?_))
      refine nC H (j := 0) rfl (H.at (i := 0) rfl) ?_
      refine eBin ?_
      refine nL H (i := 0) rfl rfl ?_
      refine kI H fun t s H => ?_
      refine oSub H fun t s H => ?_
      refine subL (v := .bool (bs.getD k false)) (H.at (i := 1) rfl) (by exact zq118) (by exact zq117 hz hbl hk) (by rw [q1]; simp [show k < bs.length by exact zq116 hk]) ?_
      refine eSub ?_
      refine nC H (j := 0) rfl (H.at (i := 0) rfl) ?_
      refine nL H (i := 0) rfl rfl ?_
      refine subL (v := .bool (bs.getD (k + 1) false)) (H.at (i := 1) rfl) (by exact zq115) (by exact zq114 hz hbl hk) (by rw [q2]; simp [show k + 1 < bs.length by exact zq113 hk]) ?_
      refine cNeB (tBool ?_)
      by_cases hne : (bs.getD k false != bs.getD (k + 1) false) = true
      · rw [if_pos hne]
        refine nL H (i := 0) rfl rfl ?_
        have hfl := flipsK_le bs k
        refine cAppend H (i := 2) rfl (by rw [sizeLine_eq]; exact zq112 hz hbl hk hvs hfl) fun s H => ?_
        refine hQ _ _ _ ⟨_, _, rfl, ?_, rfl⟩ H
        rw [List.length_append, hvs, flipsK, if_pos hne]; rfl
      · rw [if_neg hne]
        refine hQ _ _ _ ⟨_, vs, rfl, ?_, rfl⟩ H
        rw [hvs, flipsK, if_neg hne]; rfl
    · rintro _ _ s ⟨kv, vs, _, hvs, rfl⟩ H
      have hfl := flipsK_le bs (bs.length - 1)
      refine sp0 ?_
      refine cLen H (D.lst (H.at (i := 2) rfl)) (by exact zq111 hz hbl hvs hfl) fun t s H => ?_
      refine ret _ _ H.keep H.same ⟨t, ?_⟩
      rw [hvs, changes, hbs]
end
end Mine

end

section
open PySem PySem.Spec PySem.Calls PyProof.Rows PySem.W
set_option Elab.async false
set_option linter.all false
set_option maxRecDepth 100000
set_option autoImplicit false
namespace Mine

/-- values that are texts -/
inductive TxAre : List Value → List (List Nat) → Prop
  | nil : TxAre [] []
  | cons (x : List Nat) (t : Tok) {vs ws} : TxAre vs ws → TxAre (.str (tx x) t :: vs) (x :: ws)
theorem TxAre.length : ∀ {vs : List Value} {ws : List (List Nat)}, TxAre vs ws → vs.length = ws.length
  | _, _, .nil => rfl
  | _, _, .cons _ _ h => by rw [List.length_cons, List.length_cons, h.length]
theorem TxAre.get : ∀ {vs : List Value} {ws : List (List Nat)} {k : Nat}, TxAre vs ws → k < ws.length → ∃ t, vs[k]? = some (.str (tx (ws.getD k [])) t)
  | _, _, 0, .cons _ t _, _ => ⟨t, rfl⟩
  | _, _, k + 1, .cons _ _ h, hk => by
    obtain ⟨t, e⟩ := h.get (k := k) (by simpa using hk)
    exact ⟨t, by simpa using e⟩
theorem TxAre.snoc {x : List Nat} {t : Tok} : ∀ {vs : List Value} {ws : List (List Nat)}, TxAre vs ws → TxAre (vs ++ [.str (tx x) t]) (ws ++ [x])
  | _, _, .nil => .cons x t .nil
  | _, _, .cons y u h => .cons y u h.snoc
theorem TxAre.strs : ∀ {vs : List Value} {ws : List (List Nat)}, TxAre vs ws → ∃ l : List (Str × Tok), vs = strValues l ∧ l.map (·.1) = ws.map tx
  | _, _, .nil => ⟨[], rfl, rfl⟩
  | _, _, .cons x t h => by
    obtain ⟨l, e1, e2⟩ := h.strs
    exact ⟨(tx x, t) :: l, by rw [e1]; rfl, by rw [List.map_cons, e2]; rfl⟩
theorem join_str : ∀ ws : List (List Nat), Str.join (tx []) (ws.map tx) = tx ws.flatten
  | [] => rfl
  | [x] => by show tx x = _; simp
  | x :: y :: r => by
    have ih := join_str (y :: r)
    show tx x ++ tx [] ++ Str.join (tx []) ((y :: r).map tx) = _
    rw [ih, tx_add, tx_add]
    simp
theorem join_tx (ws : List (List Nat)) : Txt.join (tx []) (ws.map tx) = tx ws.flatten := (StrLaws.glued_eq_join _ _).trans (join_str ws)
theorem W.joinS {prog : Program} {w : World} {A : Around} {c : Fx} {F : Heap} {vals : List (Option Value)} {own : List (Addr × D)} {s s₀ : Shared} {t : Sem Flow} {Q : Flow → Shared → Prop} (H : Sg c F vals own s₀) (P : List (Option Value) → List (Addr × D) → Prop)
    (h1 : W prog w A t (fun f s' => f = .next ∧ ∃ vals' own', P vals' own' ∧ Sg c F vals' own' s') s) (h2 : ∀ vals' own' s', P vals' own' → Sg c F vals' own' s' → Q .next s') : W prog w A t Q s :=
  h1.mono fun f s' ⟨e, v, o, p, h⟩ => by subst e; exact h2 v o s' p h

noncomputable def partK (way : Nat) (x : List Nat) : List Nat := if way = 0 then x else if way = 1 then [34] ++ x ++ [34] else x.flatMap fun c => [92, c]
noncomputable def pageK (ws : List (List Nat)) (turn : Nat) : Nat → List Nat
  | 0 => []
  | k + 1 => pageK ws turn k ++ partK ((turn + k) % 3) (ws.getD k []) ++ [[32, 10, 9, 13].getD ((turn / 3 + k) % 4) 0]
theorem partK_length (way : Nat) (x : List Nat) : (partK way x).length ≤ 2 * x.length + 2 := by
  unfold partK
  split
  · exact zq158
  · split
    · simp; exact zq157
    · have : (x.flatMap fun c => [92, c]).length = 2 * x.length := by
        induction x with
        | nil => rfl
        | cons c x ih => rw [List.flatMap_cons, List.length_append, ih]; simp; exact zq156
      exact zq155 this
theorem pageK_length {ws : List (List Nat)} {turn : Nat} (h : ∀ x ∈ ws, x.length ≤ 10000) : ∀ k, (pageK ws turn k).length ≤ k * 20003
  | 0 => by simp [pageK]
  | k + 1 => by
    have ih := pageK_length (turn := turn) h k
    have h1 := partK_length ((turn + k) % 3) (ws.getD k [])
    have h2 : (ws.getD k []).length ≤ 10000 := by
      by_cases hk : k < ws.length
      · rw [List.getD_eq_getElem?_getD, List.getElem?_eq_getElem hk]; exact h _ (List.getElem_mem hk)
      · rw [List.getD_eq_getElem?_getD, List.getElem?_eq_none (by exact zq154 hk)]; simp
    rw [pageK, List.length_append, List.length_append, List.length_singleton]
    exact zq153 ih h1 h2

section
variable {prog : Program} {w : World} {A : Around} {c : Fx} {F : Heap} {vals : List (Option Value)} {own : List (Addr × D)} {s : Shared} {Q : Value → Shared → Prop}
theorem iSAdd {a b : List Nat} {t u : Tok} (H : Sg c F vals own s) (hz : a.length + b.length ≤ sizeLine) (h : ∀ t s', Sg c F vals own s' → Q (.str (tx (a ++ b)) t) s') : W prog w A (inplaceOp .Add (.str (tx a) t) (.str (tx b) u)) Q s :=
  ⟨@SBL.iadd _ _ _ _ _ _ _ _ _ _ (fun t' k _ => by rw [tx_add]; exact h _ _ H.toks) (by simpa [Str.length] using hz)⟩
theorem gmJoin {x : Str} {t : Tok} {pl : Sem Bool} {Q : Value × List Value → Shared → Prop} (h : Q (.builtin "str.join", [.str x t]) s) : W prog w A (getMethod (.str x t) "join" pl) Q s := ⟨GM.join h⟩
theorem cJoin {a : Addr} {vs : List Value} {ws : List (List Nat)} {t : Tok} (H : Sg c F vals own s) (hl : s.heap.IsList a vs.toArray) (hw : TxAre vs ws) {B : Nat} (hB : ∀ x ∈ ws, x.length ≤ B) (hz : ws.length * B ≤ 16777216) (h : ∀ t s', Sg c F vals own s' → Q (.str (tx ws.flatten) t) s') :
    W prog w A (call (.builtin "str.join") [.str (tx []) t, .ref a]) Q s := by
  obtain ⟨l, rfl, e2⟩ := hw.strs
  refine ⟨SC.join hl e2 ?_ fun t' k => ?_⟩
  · unfold JoinOk
    rw [StrLaws.joinFits (B := B) ?_ ?_]; rfl
    · intro y hy
      obtain ⟨x, hx, rfl⟩ := List.mem_map.mp hy
      have := hB x hx
      show x.toArray.size ≤ B
      rw [List.size_toArray]; exact this
    · rw [List.length_map]
      show _ + _ * 0 ≤ _
      exact zq152 hz
  · rw [join_tx]; exact h _ _ H.toks
end

section
variable {prog : Program} {w : World} {s0 : Shared} {ad : Ads} {t u tt : Tok}

theorem page_ok {a : Addr} {vs : List Value} {ws : List (List Nat)} {turn : Nat} (hb : Base ad s0.heap) (ha : D.At s0.heap a (.list vs)) (hw : TxAre vs ws) (hz : ws.length ≤ 100) (hB : ∀ x ∈ ws, x.length ≤ 10000) (hc : ∀ x ∈ ws, ∀ c ∈ x, c < 128) :
    Ct prog w 2 (.ref (ad.fn 8)) [.ref a, .int turn tt] s0 (fun v _ => ∃ tk, v = .str (tx (pageK ws turn ws.length)) tk) := by
  intro A Q rm ret
  refine call_fn (pn := ["words", "turn"]) (rest := ["page", "k", "way"]) (hb.fn 8 rfl) hb.lim rm (by intros _ _ _ _ _ _ _ _ _ _; rfl) rfl (by kernel_rfl) (by decide +kernel) (hb.glob.pick [20, 19]) fun env s _ _ H rm => ?_
  have hl := hw.length
  -- page = ''
  refine x1 (xAsg ?_)
  refine kST [] H fun t s H => ?_
  refine stL H (i := 2) rfl rfl fun s H => ?_
  -- for k in range(len(words)):
  refine x1 (for_range0 rm.handled H ?_)
  refine eCall ?_
  refine nG H (j := 0) rfl ?_
  refine cwT (sp1 ?_)
  refine eCall ?_
  refine nG H (j := 1) rfl ?_
  refine cwB (sp1 ?_)
  refine nL H (i := 0) rfl rfl ?_
  refine sp0 ?_
  refine cLen H (D.lst (H.gr ha)) (by exact zq151 hz hl) fun t s H => ?_
  refine sp0 ?_
  refine cRange1 H fun r t u v s H hr => ?_
  refine ⟨_, _, r, _, t, u, v, ws.length, fun k vals own => ∃ tp kv wv, vals = [some (.ref a), some (.int turn tt), some (.str (tx (pageK ws turn k)) tp), kv, wv] ∧ own = [], rfl, H, hr, by exact zq150 hz hl, by exact zq149 hl, ⟨_, _, _, rfl, rfl⟩, ?_, ?_⟩
  · rintro k tk F' _ _ s Qt hk ⟨tp, kv, wv, rfl, rfl⟩ hF H hQ hRt
    have hpl := pageK_length (turn := turn) hB k
    have hkl : k < 100 := by exact zq148 hz hk
    obtain ⟨tw, hwv⟩ := hw.get hk
    have hx1 : (ws.getD k []).length ≤ 10000 := by
      rw [List.getD_eq_getElem?_getD, List.getElem?_eq_getElem hk]; exact hB _ (List.getElem_mem hk)
    have hx2 : ∀ c ∈ ws.getD k [], c < 128 := by
      rw [List.getD_eq_getElem?_getD, List.getElem?_eq_getElem hk]; exact hc _ (List.getElem_mem hk)
    refine stL H (i := 3) rfl rfl fun s H => ?_
    -- way = (turn + k) % 3
    refine x1 (xAsg ?_)
    refine eBin ?_
    refine eBin ?_
    refine nL H (i := 1) rfl rfl ?_
    refine nL H (i := 3) rfl rfl ?_
    refine oAdd H fun t s H => ?_
    refine kI H fun t s H => ?_
    refine oMod H (by decide) fun t s H => ?_
    refine stL H (i := 4) rfl rfl fun s H => ?_
    have hway : ((turn : Int) + k) % 3 = (((turn + k) % 3 : Nat) : Int) := by exact zq147
    rw [hway] at H
    have hpt := partK_length ((turn + k) % 3) (ws.getD k [])
    generalize hwayE : (turn + k) % 3 = way at H hpt
    -- if way == 0:
    refine x1 (W.joinS H (fun vals own => ∃ tp, vals = [some (.ref a), some (.int turn tt), some (.str (tx (pageK ws turn k ++ partK way (ws.getD k []))) tp), some (.int k tk), some (.int way t)] ∧ own = []) ?_ ?_)
    · refine xIf ?_
      refine tCmp ?_
      refine nL H (i := 4) rfl rfl ?_
      refine kI H fun t s H => ?_
      refine cEq ?_
      refine tBool ?_
      by_cases w0 : way = 0
      · rw [show ((way : Int) == 0) = true by simp [w0], if_pos rfl]
        -- page += words[k]
        refine x1 (xAug ?_)
        refine ldN H (i := 2) rfl rfl ?_
        refine eSub ?_
        refine nL H (i := 0) rfl rfl ?_
        refine nL H (i := 3) rfl rfl ?_
        refine subL (H.gr ha) (by exact zq38) (by exact zq141 hkl) hwv ?_
        refine iSAdd H (by rw [sizeLine_eq]; exact zq146 hpl hkl hx1) fun t s H => ?_
        refine stL H (i := 2) rfl rfl fun s H => ?_
        refine x0 ⟨rfl, _, _, ⟨t, rfl, rfl⟩, ?_⟩
        rw [show partK way (ws.getD k []) = ws.getD k [] by rw [partK, if_pos w0]]
        exact H
      rw [show ((way : Int) == 0) = false by simp [w0], if_neg Bool.false_ne_true]
      -- if way == 1:
      refine x1 (xIf ?_)
      refine tCmp ?_
      refine nL H (i := 4) rfl rfl ?_
      refine kI H fun t s H => ?_
      refine cEq ?_
      refine tBool ?_
      by_cases w1 : way = 1
      · rw [show ((way : Int) == 1) = true by simp [w1], if_pos rfl]
        -- page += '"' + words[k] + '"'
        refine x1 (xAug ?_)
        refine ldN H (i := 2) rfl rfl ?_
        refine eBin ?_
        refine eBin ?_
        refine kST [34] H fun t s H => ?_
        refine eSub ?_
        refine nL H (i := 0) rfl rfl ?_
        refine nL H (i := 3) rfl rfl ?_
        refine subL (H.gr ha) (by exact zq38) (by exact zq141 hkl) hwv ?_
        refine sAdd H (by rw [sizeLine_eq, List.length_singleton]; exact zq145 hx1) fun t s H => ?_
        refine kST [34] H fun t s H => ?_
        refine sAdd H (by rw [sizeLine_eq]; simp only [List.length_append, List.length_singleton, List.length_cons, List.length_nil]; exact zq144 hx1) fun t s H => ?_
        refine iSAdd H (by rw [sizeLine_eq]; simp only [List.length_append, List.length_singleton, List.length_cons, List.length_nil]; exact zq143 hpl hkl hx1) fun t s H => ?_
        refine stL H (i := 2) rfl rfl fun s H => ?_
        refine x0 (x0 ⟨rfl, _, _, ⟨t, rfl, rfl⟩, ?_⟩)
        rw [show partK way (ws.getD k []) = [34] ++ ws.getD k [] ++ [34] by rw [partK, if_neg w0, if_pos w1]]
        exact H
      rw [show ((way : Int) == 1) = false by simp; exact zq142 w1, if_neg Bool.false_ne_true]
      have e9 : partK way (ws.getD k []) = (ws.getD k []).flatMap fun c => [92, c] := by rw [partK, if_neg w0, if_neg w1]
      generalize ws.getD k [] = x at *
      -- page += ''.join(['\\\\' + sign for sign in words[k]])
      refine x1 (xAug ?_)
      refine ldN H (i := 2) rfl rfl ?_
      refine eMeth ?_
      refine kST [] H fun t s H => ?_
      refine gmJoin ?_
      refine cwB (sp1 ?_)
      refine eComp ["sign"] [] [] [] H (by kernel_rfl) (fun p hp => nomatch hp) ?_
      refine eSub ?_
      refine nL H (i := 0) rfl rfl ?_
      refine nL H (i := 3) rfl rfl ?_
      refine subL (H.gr ha) (by exact zq38) (by exact zq141 hkl) hwv ?_
      refine str_src rm.handled H hx2 fun I s H h1 h2 h3 o ho self src => ?_
      refine ⟨_, _, I, _, o, _, rfl, trivial, H, h1, h2, h3, ho, self, H.glob0, fun acc c' e1 e2 e3 e4 e5 e6 e7 => ⟨fun j vals own => ∃ sv vs, vals = [sv] ∧ TxAre vs ((x.take j).map fun c => [92, c]) ∧ own = [(acc, .list vs)], ⟨?_, ?_, ?_⟩, src _ _⟩⟩
      · rw [e1]; exact ⟨_, [], rfl, .nil, rfl⟩
      · obtain ⟨G', env', names', gl', s0', cl'⟩ := c'
        dsimp only at e1 e2 e3 e4 e5 e6 e7
        subst e1 e2 e3
        rintro j ts F' _ _ s Qt hj ⟨sv, vs, rfl, hvs, rfl⟩ hF H hQ
        refine stL H (i := 0) rfl rfl fun s H => ?_
        refine ct0 ?_
        rw [if_pos rfl]
        refine eBin ?_
        refine kST [92] H fun t s H => ?_
        refine nL H (i := 0) rfl rfl ?_
        refine sAdd H (by rw [sizeLine_eq]; simp) fun t s H => ?_
        have hvl := hvs.length
        refine cAppend H (i := 0) rfl (by rw [sizeLine_eq, hvl]; simp; exact zq140 hx1) fun s H => ?_
        refine hQ _ _ _ ⟨_, _, rfl, ?_, rfl⟩ H
        rw [List.take_succ_eq_append_getElem hj, List.map_append]
        have e8 : x.getD j 0 = x[j] := by simp [hj]
        rw [e8]
        exact hvs.snoc
      · rintro _ _ s ⟨sv, vs, _, hvs, rfl⟩ H
        rw [List.take_length] at hvs
        refine sp0 ?_
        refine cJoin H (D.isL (H.at (i := 0) rfl)) hvs (B := 2) (by intro y hy; obtain ⟨q, _, rfl⟩ := List.mem_map.mp hy; exact Nat.le_refl _) (by rw [List.length_map]; exact zq139 hx1) fun t s H => ?_
        have e10 : ((x.map fun c => [92, c])).flatten = x.flatMap fun c => [92, c] := rfl
        rw [e10, ← e9] at *
        refine iSAdd H (by rw [sizeLine_eq]; exact zq138 hpl hkl hx1 hpt) fun t s H => ?_
        refine stL H (i := 2) rfl rfl fun s H => ?_
        exact x0 (x0 ⟨rfl, _, _, ⟨t, rfl, rfl⟩, H.less (List.nil_sublist _)⟩)
    · rintro _ _ s ⟨tp, rfl, rfl⟩ H
      -- page += ' \\n\\t\\r'[(turn // 3 + k) % 4]
      refine x1 (xAug ?_)
      refine ldN H (i := 2) rfl rfl ?_
      refine eSub ?_
      refine kST [32, 10, 9, 13] H fun t s H => ?_
      refine eBin ?_
      refine eBin ?_
      refine eBin ?_
      refine nL H (i := 1) rfl rfl ?_
      refine kI H fun t s H => ?_
      refine oDiv H (by decide) (by decide) fun t s H => ?_
      refine nL H (i := 3) rfl rfl ?_
      refine oAdd H fun t s H => ?_
      refine kI H fun t s H => ?_
      refine oMod H (by decide) fun t s H => ?_
      have hm : (((turn : Int) / 3 + k) % 4).toNat = (turn / 3 + k) % 4 := by exact zq137
      have hm4 : (turn / 3 + k) % 4 < 4 := by exact zq136
      refine subS (ch := [32, 10, 9, 13].getD ((turn / 3 + k) % 4) 0) H (by exact zq135) (by exact zq134) ?_ fun t s H => ?_
      · rw [hm]
        generalize (turn / 3 + k) % 4 = m at hm4
        rcases m with _ | _ | _ | _ | m
        · rfl
        · rfl
        · rfl
        · rfl
        · omega
      refine iSAdd H (by rw [sizeLine_eq]; simp only [List.length_append, List.length_singleton, List.length_cons, List.length_nil]; exact zq133 hpl hkl hx1 hpt) fun t s H => ?_
      refine stL H (i := 2) rfl rfl fun s H => ?_
      have e : pageK ws turn (k + 1) = pageK ws turn k ++ partK way (ws.getD k []) ++ [[32, 10, 9, 13].getD ((turn / 3 + k) % 4) 0] := by rw [pageK, hwayE]
      rw [← e] at H
      exact x0 (hQ _ _ _ ⟨t, _, _, rfl, rfl⟩ H)
  · rintro _ _ s ⟨tp, kv, wv, rfl, rfl⟩ H
    -- return page
    refine x1 (xRet ?_)
    refine nL H (i := 2) rfl rfl ?_
    exact ret _ _ H.keep H.same ⟨_, rfl⟩
end
end Mine

end

section
open PySem PySem.Spec PySem.Calls PyProof.Rows PySem.W
set_option Elab.async false
set_option linter.all false
set_option maxRecDepth 100000
set_option autoImplicit false
namespace Mine

/-! attributes of a def's object -/
theorem fn_mro : mroOf (.type "function") = pure [.type "function", .type "object"] := by kernel_rfl
theorem fn_sa : Slot "function" "__setattr__" "object.__setattr__" :=
  .of (owner := "object") (n := "__setattr__") (by rw [typeLookup_type, builtinLookup_eq_fast]; kernel_rfl) (by decide +kernel) (by decide +kernel) (by decide +kernel)
    (by first | exact .inl (by decide +kernel) | exact .inr (by decide +kernel)) (by rw [isSubtype_type]; kernel_rfl)
theorem fn_ga : Slot "function" "__getattribute__" "object.__getattribute__" :=
  .of (owner := "object") (n := "__getattribute__") (by rw [typeLookup_type, builtinLookup_eq_fast]; kernel_rfl) (by decide +kernel) (by decide +kernel) (by decide +kernel)
    (by first | exact .inl (by decide +kernel) | exact .inr (by decide +kernel)) (by rw [isSubtype_type]; kernel_rfl)
theorem fn_read : typeLookup (.type "function") "read" = pure none := by rw [typeLookup_type, builtinLookup_eq_fast]; kernel_rfl
theorem fn_hook : typeLookup (.type "function") "__getattr__" = pure none := by rw [typeLookup_type, builtinLookup_eq_fast]; kernel_rfl
theorem fn_passes (self : Value) : refuseLoop self "__setattr__" [.type "function", .type "object"] = pure () := by kernel_rfl
theorem obj_ga_entry : entryFor table "object.__getattribute__" = some Builtin.«object.__getattribute__» := entryFor_of_tree (by kernel_rfl)
theorem obj_ga_args (a b : Value) : argsOk "object.__getattribute__" ⟨[a, b], []⟩ := by unfold argsOk; kernel_rfl

open Builtin Builtin.ObjectAttr in
theorem fn_store {prog : Program} {w : World} {A : Around} {E : Value → Shared → Prop} {h : Heap} {g : Array GenState} {d : Drawn} {t : Nat} {os : OsState} {f : Addr} {o : Obj} {v : Value} {Q : Unit → Shared → Prop}
    (ho : h.get? f = some o) (hc : o.cls = .type "function") (hd : o.dict = none) (hnc : ∀ c, o.data ≠ .cls c)
    (hq : ∀ h' tk', h'.get? f = some { o with dict := some h.objs.size } → h'.Ns h.objs.size (fun y => if y = Str.ofString "read" then some v else none) →
      (∀ b ob, b ≠ f → h.get? b = some ob → h'.get? b = some ob) → Q () ⟨h', g, d, tk', os⟩) : wpAny (model prog w) A (setAttr (.ref f) "read" v) Q E ⟨h, g, d, t, os⟩ := by
  have hT : (⟨h, g, d, t, os⟩ : Shared).TypeIs (.ref f) "function" := ⟨o, ho, hc⟩
  have hB := fn_read
  have hm := fn_mro
  have hpass := fn_passes (.ref f)
  unfold setAttr
  refine wpAny_bind (wpAny_mkText ?_)
  refine wpAny_bind ?_
  refine wpAny_callSpecial?_slot (T := "function") ⟨o, ho, hc⟩ fn_sa (wpAny_call_entry (T := "function") fn_sa ⟨o, ho, hc⟩ F.store_object.entry ?_ (F.store_object.args _ _ _))
  unfold Builtin.«object.__setattr__»
  repeat (first | rw [refuse_eq] | (rw [refuseLoop_ref, hpass]) | (with_reducible refine wpAny_loadPart_at ho ?_; rw [hc]) | wp_step)
  rw [hd, if_neg (by decide +kernel)]
  have hx₁ : (h.push { cls := .type "dict", data := .dict #[] }).get? f = some o := Heap.get?_push_of_some _ ho
  have hxs : f ≠ h.objs.size := Nat.ne_of_lt (Heap.lt_size ho)
  split
  · rename_i hcd; cases hcd
  split
  · rename_i c hcd; exact absurd hcd (hnc c)
  refine wpAny_bind (wpAny_alloc' ?_)
  refine wpAny_bind (wpAny_update' hx₁ ?_)
  have hdm : ∀ a, dictMade (.type "function") f a = pure (some a) := fun a => by kernel_rfl
  rw [hdm]
  refine wpAny_pure ?_
  have hgd : ((h.push { cls := .type "dict", data := .dict #[] }).update f fun o => { cls := o.cls, dict := some h.objs.size, data := o.data, slots := o.slots }).get? h.objs.size
      = some { cls := .type "dict", data := .dict #[] } := (Heap.get?_update_ne _ _ _ _ hxs.symm).trans (Heap.get?_push_at rfl rfl)
  have hnd : ((h.push { cls := .type "dict", data := .dict #[] }).update f fun o => { cls := o.cls, dict := some h.objs.size, data := o.data, slots := o.slots }).Ns h.objs.size (fun _ => none) :=
    ⟨_, #[], _, hgd, rfl, fun e he => absurd he (by simp), fun _ => rfl⟩
  show wpAny _ _ (storeInDict h.objs.size (.str "read" _) "read" v) _ _ _
  unfold storeInDict newKeyGuard
  refine wpAny_bind (wpAny_pure (wpAny_bind (wpAny_nsSet1EFk (Heap.Ns1.of_empty hnd) fun h' hn' hs hkeepD => ?_)))
  obtain ⟨oD, esD, epD, hoD, hdD, hcD⟩ := hn'.count (Within.cons "read" v Within.nil)
  refine wpAny_bind (wpAny_lookBehind hoD (by rw [hdD]; exact pastItsLine_dict (Nat.le_trans hcD (by rw [List.length_cons, List.length_nil, sizeLine_eq]; decide))) ?_)
  have hx' : h'.get? f = some { cls := o.cls, dict := some h.objs.size, data := o.data, slots := o.slots } := by
    refine (hs.2 f hxs).trans (Heap.get?_update_self _ hx₁ ?_)
    have hfr := (Heap.get?_some_iff.mp ho).2
    obtain ⟨oc, od, odt, osl⟩ := o
    cases odt <;> first | rfl | exact hfr
  refine wpAny_pure ⟨_, rfl, wpAny_pure (hq h' _ hx' ?_ fun b ob hbx hb => ?_)⟩
  · obtain ⟨o', es, ep, e1, e2, e3, eu, e4⟩ := hn'
    exact ⟨o', es, ep, e1, e2, e3, e4⟩
  · exact (hs.2 b (Nat.ne_of_lt (Heap.lt_size hb))).trans ((Heap.get?_update_ne _ _ _ _ hbx).trans (Heap.get?_push_of_some _ hb))

open Builtin Builtin.ObjectAttr in
theorem fn_load {prog : Program} {w : World} {A : Around} {E : Value → Shared → Prop} {h : Heap} {g : Array GenState} {d : Drawn} {t : Nat} {os : OsState} {f dx r : Addr} {o : Obj} {mA : Str → Option Value} {pl : Sem Bool} {Q : Value × List Value → Shared → Prop}
    (ho : h.get? f = some o) (hc : o.cls = .type "function") (hd : o.dict = some dx) (hnc : ∀ c, o.data ≠ .cls c) (hn : h.Ns dx mA) (hv : mA "read" = some (.ref r))
    (hq : ∀ tk', Q (.ref r, []) ⟨h, g, d, tk', os⟩) : wpAny (model prog w) A (getMethod (.ref f) "read" pl) Q E ⟨h, g, d, t, os⟩ := by
  have hT : ∀ t, (⟨h, g, d, t, os⟩ : Shared).TypeIs (.ref f) "function" := fun _ => ⟨o, ho, hc⟩
  have hB := fn_read
  have hm := fn_mro
  have hg := fn_ga.lookup
  have hk := fn_hook
  unfold getMethod
  refine wpAny_bind (wpAny_specialOf (hT t) hg ?_)
  have hcan : (Manifest.canonical "object.__getattribute__" != "object.__getattribute__") = false := by decide +kernel
  dsimp only
  rw [hcan, if_neg Bool.false_ne_true]
  refine wpAny_bind (wpAny_specialOf (hT t) hk ?_)
  refine wpAny_bind (wpAny_specialOf (hT t) hB ?_)
  dsimp only
  refine wpAny_bind ?_
  unfold getAttr getAttrBy
  refine wpAny_bind (wpAny_mkText (wpAny_holding ?_))
  dsimp only
  refine wpAny_bind (wpAny_typeOf (hT _) ?_)
  rw [hg]
  refine wpAny_bind (wpAny_pure ?_)
  dsimp only
  rw [show (onTheHeap (.type "function") && ((Value.builtin "object.__getattribute__") == .builtin "object.__getattribute__")) = false from rfl, if_neg Bool.false_ne_true]
  unfold getAttrByItsOwn
  refine wpAny_bind (wpAny_pure ?_)
  refine wpAny_bind (wpAny_attempt (wpAny_holding ?_))
  rw [show callGetattribute (Value.ref f) (Value.str "read" t) (.builtin "object.__getattribute__") false = boundAndCalled (.builtin "object.__getattribute__") (.ref f) (.str "read" t) from rfl]
  unfold boundAndCalled
  rw [fn_ga.bind]
  refine wpAny_bind (wpAny_pure ?_)
  refine wpAny_call_entry (T := "function") fn_ga (hT _) obj_ga_entry ?_ (obj_ga_args _ _)
  unfold Builtin.«object.__getattribute__»
  refine wpAny_bind (wpAny_pure ?_)
  dsimp only
  refine wpAny_bind (wpAny_pure ?_)
  refine wpAny_bind (wpAny_typeOf (hT _) ?_)
  refine wpAny_bind ?_
  unfold find
  rw [hB]
  refine wpAny_bind (wpAny_pure ?_)
  refine wpAny_bind (wpAny_pure ?_)
  refine wpAny_bind (wpAny_pure ?_)
  dsimp only
  unfold ownThenClass inOwnDict ObjectAttr.ownDict
  repeat (first | (with_reducible refine wpAny_loadPart_at ho ?_; rw [hc]) | wp_step)
  split
  · rename_i c hcd; exact absurd hcd (hnc c)
  unfold instanceDict
  refine wpAny_bind (wpAny_loadPart_at ho ?_)
  rw [hc, hd]
  show wpAny _ _ (pure (some dx)) _ _ _
  refine wpAny_pure ?_
  show wpAny _ _ (nsGet dx "read") _ _ _
  refine wpAny_nsGet hn ?_
  rw [hv]
  refine wpAny_bind (wpAny_rule (wpAny_pure ?_))
  exact wpAny_pure ⟨_, rfl, wpAny_pure (wpAny_pure (hq _))⟩
end Mine

end

section
open PySem PySem.Spec PySem.Calls PyProof.Rows PySem.W
set_option Elab.async false
set_option linter.all false
set_option maxRecDepth 100000
set_option autoImplicit false
namespace Mine

/-! bound methods, as values -/
theorem fn_set : typeLookup (.type "function") "__set__" = pure none := by rw [typeLookup_type, builtinLookup_eq_fast]; kernel_rfl
theorem fn_del : typeLookup (.type "function") "__delete__" = pure none := by rw [typeLookup_type, builtinLookup_eq_fast]; kernel_rfl

open Builtin Builtin.ObjectAttr in
theorem bound_load {prog : Program} {w : World} {A : Around} {E : Value → Shared → Prop} {h : Heap} {g : Array GenState} {d : Drawn} {t : Nat} {os : OsState} {nm q : Str} {C N x f : Addr} {bs : List Value} {sn : List Str} {sub : List Value} {ab : Bool} {col : Option Bool} {dd : Option Addr} {k0 k1 k2 k3 k5 : Option Value} {newId : String}
    {mN mA : Str → Option Value} {of : Obj} {expr : Bool} {Q : Value → Shared → Prop} (name : Str) (hname : (["__module__", "__name__", "__qualname__", "__doc__", "__annotations__"] : List Str).contains name = false)
    (hC : h.get? C = some (excClassObj nm q C N bs [.type "object"] true sn sub ab col dd k0 k1 k2 k3 k5 newId)) (hn : h.Ns N mN) (hng : mN "__getattribute__" = none) (hnh : mN "__getattr__" = none) (hf : mN name = some (.ref f)) (hfo : h.get? f = some of) (hfc : of.cls = .type "function")
    (hB : typeLookup (.type "object") name = pure none) {o : Obj} {dx : Addr} (hx : h.get? x = some o) (hc : o.cls = .ref C) (hnc : ∀ c, o.data ≠ .cls c) (hdx : o.dict = some dx) (hns : h.Ns dx mA) (hsh : mA name = none)
    (hq : ∀ tk', Q (.ref h.objs.size) ⟨h.push (methodObj (.ref f) (.ref x)), g, d, tk', os⟩) : wpAny (model prog w) A (getAttr (.ref x) name expr) Q E ⟨h, g, d, t, os⟩ := by
  unfold getAttr getAttrBy
  repeat (first | (with_reducible refine wpAny_loadPart_at hx ?_; rw [hc]) | (with_reducible refine wpAny_typeLookup_exc hC hn F.mro_object F.lk_object_ga ?_; rw [hng]) | wp_step)
  show wpAny _ _ ((runValue (.builtin "proto.getattr_hooked" ⟨[.ref x, .str name t], []⟩)).onRaise (noteIf true (.ref x) (.str name t))) _ _ _
  refine wpAny_onRaise (wpAny_runValue (codeAny_builtin F.plainObj_entry_getattr_hooked ?_))
  unfold Builtin.«proto.getattr_hooked»
  refine wpAny_bind (wpAny_pure ?_)
  refine wpAny_bind ?_
  refine wpAny_typeOf_ref hx ?_
  rw [hc]
  refine wpAny_bind ?_
  unfold find
  refine wpAny_bind (wpAny_typeLookup_exc hC hn F.mro_object hB ?_)
  rw [hf]
  dsimp only
  have hTf : (⟨h, g, d, t + 1, os⟩ : Shared).TypeIs (.ref f) "function" := ⟨_, hfo, hfc⟩
  refine wpAny_bind ?_
  unfold getOf
  refine wpAny_specialOf hTf KF.slot_fn.lookup ?_
  refine wpAny_bind ?_
  unfold dataDescriptor?
  refine wpAny_bind ?_
  unfold takesStores
  refine wpAny_bind (wpAny_specialOf hTf fn_set ?_)
  refine wpAny_bind (wpAny_specialOf hTf fn_del ?_)
  refine wpAny_pure ?_
  refine wpAny_pure ?_
  dsimp only
  unfold ownThenClass inOwnDict ObjectAttr.ownDict
  refine wpAny_bind ?_
  show wpAny _ _ (_ >>= _) _ _ _
  refine wpAny_bind ?_
  unfold loadHead
  refine wpAny_bind (wpAny_loadPart_at hx ?_)
  split
  · rename_i c hcd; exact absurd hcd (hnc c)
  unfold instanceDict
  repeat (first | (with_reducible refine wpAny_loadPart_at hx ?_; rw [hc]) | with_reducible refine wpAny_loadPart_at hC ?_ | wp_step)
  rw [hdx]
  refine wpAny_pure ?_
  show wpAny _ _ (nsGet dx name) _ _ _
  refine wpAny_nsGet hns ?_
  rw [hsh]
  dsimp only
  refine wpAny_bind ?_
  show wpAny _ _ (if (["__module__", "__name__", "__qualname__", "__doc__", "__annotations__"] : List Str).contains name = true then _ else _) _ _ _
  rw [hname, if_neg Bool.false_ne_true]
  refine wpAny_pure ?_
  show wpAny _ _ (rule "getattr.non-data-descriptor" >>= _) _ _ _
  refine wpAny_bind (wpAny_rule (wpAny_pure ?_))
  dsimp only
  refine wpAny_bind (wpAny_typeLookup_exc hC hn F.mro_object F.lk_object_getattr ?_)
  rw [hnh]
  unfold bindWithHook
  dsimp only
  unfold bindTo
  dsimp only
  refine wpAny_bind (wpAny_holding ?_)
  refine wpAny_call_entry KF.slot_fn hTf KF.entry_fn ?_ (KF.args_fn _ _ _)
  unfold Builtin.«function.__get__»
  refine wpAny_bind (wpAny_of_eq (a := (Value.ref f, some (Value.ref x), some (Value.ref C))) (by first | rfl | kernel_rfl) ?_)
  dsimp only
  refine wpAny_bind ?_
  unfold newFields
  refine wpAny_newObj_type (wpAny_pure ⟨_, rfl, wpAny_pure ?_⟩) (by size_fits)
  exact wpAny_pure (hq _)

/-- iter(f, sentinel) -/
theorem iter_entry : entryFor table "iter" = some Builtin.«iter» := entryFor_of_tree (by kernel_rfl)
theorem meth_call : ∃ b, typeLookup (.type "method") "__call__" = pure (some b) := ⟨.builtin "method.__call__", by rw [typeLookup_type, builtinLookup_eq_fast]; kernel_rfl⟩
open Builtin Builtin.SmallTypes in
theorem iter2 {prog : Program} {w : World} {A : Around} {E : Value → Shared → Prop} {s : Shared} {m : Addr} {f x v : Value} {Q : Value → Shared → Prop} (hm : s.heap.get? m = some (methodObj f x))
    (hq : Q (.ref s.heap.objs.size) { s with heap := s.heap.push { cls := .type "callable_iterator", data := .fields #[.ref m, v, .bool false] } }) : wpAny (model prog w) A (call (.builtin "iter") [.ref m, v]) Q E s := by
  refine call_function_meets (id := "iter") (S := fun _ R s => s.heap.get? m = some (methodObj f x) ∧ R (.ok (.ret (.ref s.heap.objs.size))) { s with heap := s.heap.push { cls := .type "callable_iterator", data := .fields #[.ref m, v, .bool false] } }) (by decide +kernel) (by decide +kernel) iter_entry (by unfold argsOk; kernel_rfl) (.of_wp fun prog w A R s h' => ?_) ⟨hm, hq⟩
  obtain ⟨h1, h2⟩ := h'
  obtain ⟨b, hb⟩ := meth_call
  have hT : s.TypeIs (.ref m) "method" := ⟨_, h1, rfl⟩
  unfold Builtin.«iter»
  refine wpAny_bind (wpAny_of_eq (a := [.ref m, v]) (by first | rfl | kernel_rfl) ?_)
  dsimp only
  refine wpAny_bind (wpAny_specialOf hT hb ?_)
  show wpAny _ _ (rule "iter.sentinel" >>= _) _ _ _
  refine wpAny_bind (wpAny_rule (wpAny_bind ?_))
  unfold newFields
  exact wpAny_newObj_type (wpAny_pure ⟨_, rfl, h2⟩) (by size_fits)
end Mine

end

section
open PySem PySem.Spec PySem.Calls PyProof.Rows PySem.W
set_option Elab.async false
set_option linter.all false
set_option maxRecDepth 100000
set_option autoImplicit false
namespace Mine

theorem ci_iter : Slot "callable_iterator" "__iter__" "callable_iterator.__iter__" :=
  .of (owner := "callable_iterator") (n := "__iter__") (by rw [typeLookup_type, builtinLookup_eq_fast]; kernel_rfl) (by decide +kernel) (by decide +kernel) (by decide +kernel)
    (by first | exact .inl (by decide +kernel) | exact .inr (by decide +kernel)) (by rw [isSubtype_type]; kernel_rfl)
theorem ci_next : Slot "callable_iterator" "__next__" "callable_iterator.__next__" :=
  .of (owner := "callable_iterator") (n := "__next__") (by rw [typeLookup_type, builtinLookup_eq_fast]; kernel_rfl) (by decide +kernel) (by decide +kernel) (by decide +kernel)
    (by first | exact .inl (by decide +kernel) | exact .inr (by decide +kernel)) (by rw [isSubtype_type]; kernel_rfl)
theorem ci_next_entry : entryFor table "callable_iterator.__next__" = some Builtin.«callable_iterator.__next__» := entryFor_of_tree (by kernel_rfl)
theorem ci_next_args (a : Value) : argsOk "callable_iterator.__next__" ⟨[a], []⟩ := by unfold argsOk; kernel_rfl
theorem ci_iter_args (a : Value) : argsOk "callable_iterator.__iter__" ⟨[a], []⟩ := by unfold argsOk; kernel_rfl
theorem ci_iter_entry : entryFor table "callable_iterator.__iter__" = some Builtin.«dict_keyiterator.__iter__» :=
  entryFor_alias (id' := "dict_keyiterator.__iter__") (by kernel_rfl) rfl (by decide +kernel) (by kernel_rfl)

noncomputable abbrev citObj (m : Addr) (u : Tok) : Obj := { cls := .type "callable_iterator", data := .fields #[.ref m, .str (tx []) u, .bool false] }

theorem wpAny_callBorrowed {M : Model} {A : Around} {E : Value → Shared → Prop} {s : Shared} {f : Value} {pos : List Value} {Q : Value → Shared → Prop}
    (hc : codeAny M A (.call f ⟨pos, []⟩) (fun r s' => match r with | .ok (.ret v) => Q v s' | .ok _ => False | .error e => E e s') s) : wpAny M A (callBorrowed f pos) Q E s := fun Γ p hΓ => by
  have := hc _ p rfl (hΓ.enter (.call f ⟨pos, []⟩) none p (by intro x; cases x))
  unfold callBorrowed
  rw [Sem.wp_call]
  refine wpCode_mono (fun r s' h => ?_) this
  cases r with
  | error e => exact h
  | ok f => cases f <;> exact h

section
variable {prog : Program} {w : World} {A : Around} {E : Value → Shared → Prop} {s : Shared} {I m f x : Addr} {u : Tok}
theorem cit_iter {m : Addr} {Q : Value → Shared → Prop} (hI : s.heap.get? I = some (citObj m u)) (h : Q (.ref I) s) : wpAny (model prog w) A (pyIter (.ref I)) Q E s := by
  have hT : s.TypeIs (.ref I) "callable_iterator" := ⟨_, hI, rfl⟩
  refine wpAny_pyIter_slot hT ci_iter (wpAny_call_entry ci_iter hT ci_iter_entry ?_ (ci_iter_args _))
  show wpAny _ _ (ret (.ref I)) _ _ s
  exact wpAny_pure ⟨_, rfl, "callable_iterator", _, hT, ci_next.lookup, h⟩

theorem tx_inj {a b : List Nat} : (tx a = tx b) = (a = b) := by
  apply propext
  constructor
  · intro h
    have := congrArg (fun z : Str => z.cps.toList) h
    simpa using this
  · rintro rfl; rfl

theorem borrows_meth {M : Model} {v : Value} {Q : Bool → Shared → Prop} (hm : s.heap.get? m = some (methodObj (.ref f) v)) (hf : FnObj s.heap f) (h : Q true s) : wpAny M A (borrowsExactly (.ref m)) Q E s := by
  obtain ⟨o, fd, ho, hd⟩ := hf
  unfold borrowsExactly
  refine wpAny_bind (wpAny_load hm ?_)
  show wpAny _ _ (do match (← load f).data with | .func _ => pure true | _ => pure false) _ _ _
  refine wpAny_bind (wpAny_load ho ?_)
  rw [hd]
  exact wpAny_pure h
theorem setF {M : Model} {fs : Array Value} {T : String} {i : Nat} {v : Value} {Q : Unit → Shared → Prop} (hI : s.heap.get? I = some { cls := .type T, data := .fields fs }) (hi : i < fs.size)
    (h : ∀ h', h'.get? I = some { cls := .type T, data := .fields (fs.setIfInBounds i v) } → Heap.SameBut I s.heap h' → Q () { s with heap := h' }) : wpAny M A (setField (.ref I) i v) Q E s := by
  refine wpAny_setField hI rfl hi (h _ ?_ (Heap.SameBut.update ..))
  exact Heap.get?_update_self _ hI rfl
theorem stop_next {s₀ : Shared} {Q : Option Value → Shared → Prop} {P : Fin → Shared → Prop} (hh : A.handled = none) (hQ : ∀ h', Heap.ExtBut I s.heap h' → Q none { s with heap := h' }) :
    wpAny (model prog w) A.in1 (Builtin.SmallTypes.stopIteration : Sem Fin) P (fun e s' => wpAny (model prog w) A (do if ← isInstance e (.type "StopIteration") then pure none else throw e) Q E s') s := by
  show wpAny _ _ (newExc (.type "StopIteration") [] >>= _) _ _ _
  refine wpAny_bind ?_
  simp only [newExc, newTuple]
  refine wpAny_bind (wpAny_newObj_type ?_ (by size_fits))
  refine wpAny_bind (m := firstArgMember _ _) (wpAny_of_eq (a := Value.none) (by first | rfl | (simp only [firstArgMember]; rfl)) ?_)
  refine wpAny_newObj_type ?_ (by size_fits)
  simp only [raiseNew]
  refine wpAny_bind (wpAny_handled ?_)
  rw [show A.in1.handled = none from hh]
  refine wpAny_bind (wpAny_pure (wpAny_throw ?_))
  refine wpAny_bind (wpAny_isInstance (T := "StopIteration") (b := true) ⟨_, Heap.get?_push_size _ rfl, rfl⟩ isSubtype_stop ?_)
  exact wpAny_pure (hQ _ (((Heap.SameBut.refl ..).extBut.push _).push _))
open Builtin Builtin.SmallTypes in
theorem cit_next {Q : Option Value → Shared → Prop} (hh : A.handled = none) (hI : s.heap.get? I = some (citObj m u)) (hm : s.heap.get? m = some (methodObj (.ref f) (.ref x))) (hf : FnObj s.heap f)
    (hc : codeAny (model prog w) A.in1 (.call (.ref f) ⟨[.ref x], []⟩) (fun r s' => match r with
      | .ok (.ret v) => ∃ l t, v = .str (tx l) t ∧ s'.heap.get? I = some (citObj m u) ∧ s'.heap.get? m = some (methodObj (.ref f) (.ref x)) ∧ FnObj s'.heap f ∧ (l ≠ [] → Q (some v) s') ∧ (l = [] → ∀ h', Heap.ExtBut I s'.heap h' → Q none { s' with heap := h' })
      | .ok _ => False
      | .error _ => False) s) : wpAny (model prog w) A (pyNext (.ref I)) Q E s := by
  have hT : s.TypeIs (.ref I) "callable_iterator" := ⟨_, hI, rfl⟩
  unfold pyNext
  refine wpAny_bind (wpAny_attempt (wpAny_callSpecial?_slot (name := Str.ofString "__next__") hT ci_next (wpAny_call_entry ci_next hT ci_next_entry ?_ (ci_next_args _))))
  unfold Builtin.«callable_iterator.__next__»
  refine wpAny_bind (wpAny_of_eq (a := (Value.ref I, [])) rfl ?_)
  dsimp only
  have hd : (citObj m u).data = .fields #[.ref m, .str (tx []) u, .bool false] := rfl
  refine wpAny_bind (wpAny_field hI hd (x := .bool false) rfl ?_)
  rw [if_neg (by decide +kernel)]
  refine wpAny_bind (wpAny_field hI hd (x := .ref m) rfl ?_)
  refine wpAny_bind (wpAny_attempt ?_)
  unfold callOutOfASlot
  refine wpAny_bind (borrows_meth hm hf ?_)
  rw [if_pos rfl]
  refine wpAny_callBorrowed (method_call hm (codeAny_mono hc fun r s' h => ?_))
  match r, h with
  | .ok (.ret v), h =>
    obtain ⟨l, t, rfl, hI', hm', hf', h1, h2⟩ := h
    dsimp only
    refine wpAny_bind (wpAny_field hI' hd (x := .bool false) rfl ?_)
    rw [if_neg (by decide +kernel)]
    refine wpAny_bind (wpAny_field hI' hd (x := .str (tx []) u) rfl ?_)
    refine wpAny_bind (wpAny_holding (wpAny_eqBool_str ?_))
    by_cases hl : l = []
    · subst hl
      rw [show decide (tx [] = tx []) = true from decide_eq_true rfl]
      show wpAny _ _ (rule "callable_iterator.__next__.sentinel" >>= _) _ _ _
      refine wpAny_bind (wpAny_rule (wpAny_bind ?_))
      show wpAny _ _ (field (.ref I) 0 >>= fun old => slotLetsGo _ old _ >>= fun _ => setField (.ref I) 0 .none >>= fun _ => setField (.ref I) 1 .none >>= fun _ => setField (.ref I) 2 (.bool true)) _ _ _
      refine wpAny_bind (wpAny_field hI' hd (x := .ref m) rfl (wpAny_bind ?_))
      unfold slotLetsGo
      refine wpAny_bind (borrows_meth hm' hf' ?_)
      rw [if_pos rfl]
      refine wpAny_pure ?_
      refine wpAny_bind (setF hI' (by simp) fun h₁ e₁ b₁ => wpAny_bind (setF e₁ (by simp) fun h₂ e₂ b₂ => setF e₂ (by simp) fun h₃ e₃ b₃ => ?_))
      exact stop_next (s₀ := s) hh fun h' hx => h2 rfl h' (fun b o hb e => hx b o hb (((b₃.2 b hb).trans ((b₂.2 b hb).trans (b₁.2 b hb))).trans e))
    · rw [show decide (tx [] = tx l) = false from decide_eq_false (by rw [tx_inj]; exact fun q => hl q.symm)]
      show wpAny _ _ (ret (.str (tx l) t)) _ _ _
      exact wpAny_pure ⟨_, rfl, wpAny_pure (h1 hl)⟩
end
end Mine

end

section
open PySem PySem.Spec PySem.Calls PyProof.Rows PySem.W
set_option Elab.async false
set_option linter.all false
set_option maxRecDepth 100000
set_option autoImplicit false
namespace Mine

/-! the class of the lexer, its instances -/
noncomputable def clsTab (ad : Ads) : List (Str × Option Value) := [
  ("__init__", some (.ref (ad.fn 16))), ("_read_char", some (.ref (ad.fn 17))), ("get_token", some (.ref (ad.fn 18))), ("push_token", some (.ref (ad.fn 19))),
  ("__getattribute__", none), ("__setattr__", none), ("__getattr__", none), ("lineno", none), ("instream", none), ("whitespace", none), ("pushback", none)]
noncomputable def ClsOk (ad : Ads) (h : Heap) : Prop := ∃ N mN, ClsAt h ad.cls N mN ∧ ∀ p ∈ clsTab ad, mN p.1 = p.2
theorem ClsOk.keeps {ad : Ads} {h h' : Heap} (k : h.StaysIn h') (x : ClsOk ad h) : ClsOk ad h' := let ⟨N, mN, a, b⟩ := x; ⟨N, mN, a.keeps k, b⟩

noncomputable def InO (C dx : Addr) (o : Obj) : Prop := o.cls = .ref C ∧ o.dict = some dx ∧ ∀ c, o.data ≠ .cls c
noncomputable def NsDO (f : Str → Option Value) (o : Obj) : Prop := o.cls = .type "dict" ∧ o.dict = none ∧ ∃ es ep, o.data = .dict es ep ∧ StrKeys es ∧ UniqKeys es ∧ ∀ name, nsFind es name = f name
theorem nsD1 {h : Heap} {a : Addr} {f : Str → Option Value} (x : D.At h a (.fact (NsDO f))) : h.Ns1 a f ∧ h.ExactDictFk a := let ⟨o, e, a, b, es, ep, r⟩ := x; ⟨⟨o, es, ep, e, r⟩, ⟨o, e, a, b⟩⟩
theorem nsD2 {h : Heap} {a : Addr} {f : Str → Option Value} (x : h.Ns1 a f) (y : h.ExactDictFk a) : D.At h a (.fact (NsDO f)) := by
  obtain ⟨o, es, ep, e, r⟩ := x
  obtain ⟨o', e', c, d⟩ := y
  rw [e] at e'; cases e'
  exact ⟨o, e, c, d, es, ep, r⟩
theorem inst_fk {h : Heap} {x dx C : Addr} {f : Str → Option Value} (a : D.At h x (.fact (InO C dx))) (b : D.At h dx (.fact (NsDO f))) (ne : dx ≠ x) : h.InstFk x C f :=
  let ⟨o, e, c, d, n⟩ := a; ⟨o, e, c, n, .inr ⟨dx, d, ne, nsD1 b⟩⟩

section
variable {c : Fx} {F : Heap} {vals : List (Option Value)} {own : List (Addr × D)} {s s' : Shared}
/-- an owned object is changed, new ones are made -/
theorem Sg.updX (H : Sg c F vals own s) {i : Nat} {a : Addr} {d d' : D} (e : own[i]? = some (a, d)) (hs : ∀ b o, b ≠ a → s.heap.get? b = some o → s'.heap.get? b = some o) (hd : D.At s'.heap a d') (es : Same s s') : Sg c F vals (own.set i (a, d')) s' := by
  have hm := H.mine _ (List.mem_of_getElem? e)
  have hlt : i < own.length := by
    rcases Nat.lt_or_ge i own.length with h | h
    · exact h
    · rw [List.getElem?_eq_none h] at e; cases e
  obtain ⟨oL, es', ep, eL, rL⟩ := H.ns
  refine ⟨H.ok, ⟨oL, es', ep, hs _ _ (Ne.symm hm.2.1) eL, rL⟩, H.sub, fun b o h => ?_, H.hl, fun p hp => ?_, ?_, H.same.trans es⟩
  · refine hs b o (fun q => ?_) (H.keep b o h)
    subst q; rw [hm.2.2] at h; cases h
  · obtain ⟨j, hj⟩ := List.getElem?_of_mem hp
    by_cases hij : i = j
    · subst hij
      rw [List.getElem?_set_self hlt] at hj; cases hj
      exact ⟨hd, hm.2⟩
    · rw [List.getElem?_set_ne hij] at hj
      have hpo := H.mine p (List.mem_of_getElem? hj)
      obtain ⟨o, ho⟩ := hpo.1.some
      refine ⟨hpo.1.same ((hs p.1 o (fun q => ?_) ho).trans ho.symm), hpo.2⟩
      have h1 : (own.map (·.1))[i]? = some a := by rw [List.getElem?_map, e]; rfl
      have h2 : (own.map (·.1))[j]? = some a := by rw [List.getElem?_map, hj, ← q]; rfl
      exact hij ((List.getElem?_inj (by simpa using hlt) H.nd).mp (h1.trans h2.symm))
  · have : (own.set i (a, d')).map (·.1) = own.map (·.1) := by
      rw [List.map_set]
      apply List.ext_getElem?
      intro j
      by_cases hij : i = j
      · subst hij
        rw [List.getElem?_set_self (by simpa using hlt), List.getElem?_map, e]; rfl
      · rw [List.getElem?_set_ne hij]
    rw [this]; exact H.nd
end

section
variable {prog : Program} {w : World} {A : Around} {c : Fx} {F : Heap} {vals : List (Option Value)} {own : List (Addr × D)} {s : Shared} {ad : Ads} {x dx : Addr} {f : Str → Option Value}

theorem eAttr {value : PySem.Expr} {attr : Str} {pos : Pos} {env : Env} {Q : Value → Shared → Prop} (h : W prog w A (eval value env) (fun o s₁ => W prog w A (getAttr o attr true) Q s₁) s)
    (he : eval (.Attribute value attr pos) env = (do
      let o ← eval value env
      standAt pos.atName
      let r ← holding [o] (getAttr o attr true)
      letTemporaryGo value o r
      pure r) := by with_unfolding_all rfl) : W prog w A (eval (.Attribute value attr pos) env) Q s := ⟨Attribute_any_ (h.any fun _ _ h => h.out) he⟩
theorem xAttr {o value : PySem.Expr} {attr : Str} {pos' pos : Pos} {env : Env} {Q : Flow → Shared → Prop} (h : W prog w A (eval value env) (fun v s₁ => W prog w A (eval o env) (fun ov s₂ => W prog w A (setAttr ov attr v) (fun _ => Q .next) s₂) s₁) s)
    (hs : swapsWith value (some (.Attribute o attr pos')) pos.line env = pure false := by rfl) : W prog w A (exec (.Assign [.Attribute o attr pos'] value pos) env) Q s :=
  ⟨plainObj_wpAny_Assign_Attribute (h.any fun _ _ h => h.any fun _ _ h => h.out) hs⟩
theorem xAugAttr {o value : PySem.Expr} {attr : Str} {tpos pos : Pos} {op : Operator} {env : Env} {Q : Flow → Shared → Prop} (h : W prog w A (eval o env) (fun ov s₁ => W prog w A (getAttr ov attr true) (fun old s₂ =>
          W prog w A (eval value env) (fun v s₃ => W prog w A (inplaceOp op old v) (fun new s₄ => W prog w A (setAttr ov attr new) (fun _ => Q .next) s₄) s₃) s₂) s₁) s) : W prog w A (exec (.AugAssign (.Attribute o attr tpos) op value pos) env) Q s :=
  ⟨wpAny_AugAssign_AttributeAny (h.any fun _ _ h => h.any fun _ _ h => h.any fun _ _ h => h.any fun _ _ h => h.out)⟩

theorem gaI {name : Str} {v : Value} {e : Bool} {Q : Value → Shared → Prop} (H : Sg c F vals own s) (hc : ClsOk ad s.heap) (hx : D.At s.heap x (.fact (InO ad.cls dx))) (hd : D.At s.heap dx (.fact (NsDO f))) (ne : dx ≠ x) (hv : f name = some v)
    (hm : (name, none) ∈ clsTab ad) (hB : typeLookup (.type "object") name = pure none) (h : ∀ s', Sg c F vals own s' → Q v s') (hh : handedOut v = pure v := by rfl) : W prog w A (getAttr (.ref x) name e) Q s := by
  obtain ⟨N, mN, X, hmN⟩ := hc
  obtain ⟨nm, q, bs, sn, sub, col, dd, k0, k1, k2, k3, k5, hC⟩ := X.obj
  obtain ⟨hh', g, d, t, os⟩ := s
  exact ⟨load_attrFk hC X.ns (hmN ("__getattribute__", none) (by simp [clsTab])) (hmN _ hm) hB (inst_fk hx hd ne) hv hh (h _ H.toks)⟩
theorem gmM {name : Str} {n : Nat} {pl : Sem Bool} {Q : Value × List Value → Shared → Prop} (hc : ClsOk ad s.heap) (hx : D.At s.heap x (.fact (InO ad.cls dx))) (hd : D.At s.heap dx (.fact (NsDO f))) (ne : dx ≠ x) (hv : f name = none)
    (hm : (name, some (.ref (ad.fn n))) ∈ clsTab ad) (hf : ∃ o, s.heap.get? (ad.fn n) = some o ∧ o.cls = .type "function") (hB : typeLookup (.type "object") name = pure none) (h : Q (.ref (ad.fn n), [.ref x]) s) : W prog w A (getMethod (.ref x) name pl) Q s := by
  obtain ⟨N, mN, X, hmN⟩ := hc
  obtain ⟨nm, q, bs, sn, sub, col, dd, k0, k1, k2, k3, k5, hC⟩ := X.obj
  obtain ⟨of, hfo, hfc⟩ := hf
  obtain ⟨hh', g, d, t, os⟩ := s
  exact ⟨method_ofFk hC X.ns (hmN ("__getattribute__", none) (by simp [clsTab])) (hmN ("__getattr__", none) (by simp [clsTab])) (hmN _ hm) hfo hfc hB (inst_fk hx hd ne) hv h⟩
theorem gaB {name : Str} {n : Nat} {e : Bool} {Q : Value → Shared → Prop} (H : Sg c F vals own s) (hc : ClsOk ad s.heap) (hx : D.At s.heap x (.fact (InO ad.cls dx))) (hd : D.At s.heap dx (.fact (NsDO f))) (hv : f name = none)
    (hm : (name, some (.ref (ad.fn n))) ∈ clsTab ad) (hf : ∃ o, s.heap.get? (ad.fn n) = some o ∧ o.cls = .type "function") (hB : typeLookup (.type "object") name = pure none) (hname : (["__module__", "__name__", "__qualname__", "__doc__", "__annotations__"] : List Str).contains name = false)
    (h : ∀ m s', Sg c F vals (own ++ [(m, .obj (methodObj (.ref (ad.fn n)) (.ref x)))]) s' → Q (.ref m) s') : W prog w A (getAttr (.ref x) name e) Q s := by
  obtain ⟨N, mN, X, hmN⟩ := hc
  obtain ⟨nm, q, bs, sn, sub, col, dd, k0, k1, k2, k3, k5, hC⟩ := X.obj
  obtain ⟨of, hfo, hfc⟩ := hf
  obtain ⟨o, ho, hc', hdx, hnc⟩ := hx
  have hadd : ∀ t, Sg c F vals (own ++ [(s.heap.objs.size, .obj (methodObj (.ref (ad.fn n)) (.ref x)))]) { s with heap := s.heap.push (methodObj (.ref (ad.fn n)) (.ref x)), toks := t } :=
    fun t => H.add (H.heap (t := t) push_get) fresh_size (Heap.get?_push_size _ rfl)
  obtain ⟨hh', g, d, t, os⟩ := s
  exact ⟨bound_load name hname hC X.ns (hmN ("__getattribute__", none) (by simp [clsTab])) (hmN ("__getattr__", none) (by simp [clsTab])) (hmN _ hm) hfo hfc hB ho hc' hnc hdx (nsD1 hd).1.ns hv (fun tk' => h _ _ (hadd tk'))⟩
theorem saI {name : Str} {v : Value} {i : Nat} {Q : Unit → Shared → Prop} {ns : List Str} (H : Sg c F vals own s) (hc : ClsOk ad s.heap) (hx : D.At s.heap x (.fact (InO ad.cls dx))) (e : own[i]? = some (dx, .fact (NsDO f))) (ne : dx ≠ x) (hw : PySem.Within f ns) (hsz : ns.length ≤ sizeLine)
    (hm : (name, none) ∈ clsTab ad) (hB : typeLookup (.type "object") name = pure none) (h : ∀ s', Sg c F vals (own.set i (dx, .fact (NsDO (fun y => if y = name then some v else f y)))) s' → Q () s') : W prog w A (setAttr (.ref x) name v) Q s := by
  obtain ⟨N, mN, X, hmN⟩ := hc
  obtain ⟨nm, q, bs, sn, sub, col, dd, k0, k1, k2, k3, k5, hC⟩ := X.obj
  have hd := H.at e
  have I := inst_fk hx hd ne
  obtain ⟨o, ho, hc', hdx, hnc⟩ := hx
  have hxC : x ≠ ad.cls := by
    rintro rfl
    rw [hC] at ho; cases ho
    cases hc'
  have up : ∀ h' tk', Heap.InstFk h' x ad.cls (fun y => if y = name then some v else f y) → (∀ b o, b ≠ x → (∀ o₀ dx, s.heap.get? x = some o₀ → o₀.dict = some dx → b ≠ dx) → s.heap.get? b = some o → h'.get? b = some o) →
      (∀ o₀, s.heap.get? x = some o₀ → ∃ o₁, h'.get? x = some o₁ ∧ o₁.cls = o₀.cls ∧ o₁.data = o₀.data ∧ o₁.slots = o₀.slots ∧ ∀ dx, o₀.dict = some dx → o₁.dict = some dx) →
      Sg c F vals (own.set i (dx, .fact (NsDO (fun y => if y = name then some v else f y)))) { s with heap := h', toks := tk' } := by
    intro h' tk' I' hk hsame
    obtain ⟨o₁, e₁, a1, a2, a3, a4⟩ := hsame o ho
    have a5 := a4 dx hdx
    have hoo : o₁ = o := by
      obtain ⟨b1, b2, b3, b4⟩ := o₁
      obtain ⟨d1, d2, d3, d4⟩ := o
      dsimp only at a1 a2 a3 a5 hdx
      subst a1 a2 a3 a5 hdx
      rfl
    refine H.updX e (fun b ob hb hbo => ?_) ?_ Same.rfl
    · by_cases hbx : b = x
      · subst hbx
        rw [ho] at hbo; cases hbo
        rw [← hoo]; exact e₁
      · exact hk b ob hbx (fun o₀ d' e₀ ed => by rw [ho] at e₀; cases e₀; rw [hdx] at ed; cases ed; exact hb) hbo
    · obtain ⟨o', e', _, _, hd'⟩ := I'
      rw [e₁] at e'; cases e'
      rcases hd' with ⟨hn0, _⟩ | ⟨d', hd', _, hns', hex'⟩
      · rw [a5] at hn0; cases hn0
      · rw [a5] at hd'; cases hd'
        exact nsD2 hns' hex'
  obtain ⟨hh', g, d, t, os⟩ := s
  exact ⟨store_attrFk PySem.F.store_object hC X.ns (hmN ("__setattr__", none) (by simp [clsTab])) (hmN _ hm) hB hxC I (fun h' tk' I' hk hsame => h _ (up h' tk' I' hk hsame)) hw hsz⟩
end
end Mine

end

section
open PySem PySem.Spec PySem.Calls PyProof.Rows PySem.W
set_option Elab.async false
set_option linter.all false
set_option maxRecDepth 100000
set_option autoImplicit false
namespace Mine

section
variable {prog : Program} {w : World} {A : Around} {c : Fx} {F : Heap} {vals : List (Option Value)} {own own' : List (Addr × D)} {s : Shared} {Q : Value → Shared → Prop}

theorem Sg.perm (H : Sg c F vals own s) (k : own.Perm own') : Sg c F vals own' s :=
  ⟨H.ok, H.ns, H.sub, H.keep, H.hl, fun p hp => H.mine p (k.symm.subset hp), (k.map _).nodup H.nd, H.same⟩
/-- objects that a call may change: they are there, apart -/
structure MtOk (h : Heap) (mt : List (Addr × D)) : Prop where
  at_ : ∀ p ∈ mt, D.At h p.1 p.2
  nd : (mt.map (·.1)).Nodup
theorem Sg.mtOk {mt rest : List (Addr × D)} (H : Sg c F vals (mt ++ rest) s) : MtOk s.heap mt :=
  ⟨fun p hp => (H.mine p (List.mem_append_left _ hp)).1, by have := H.nd; rw [List.map_append] at this; exact (List.nodup_append.mp this).1⟩
theorem Sg.ground' {mt rest : List (Addr × D)} (H : Sg c F vals (mt ++ rest) s) : c.G.StaysIn (hideAll s.heap (mt.map (·.1))) := H.groundM (List.sublist_append_left mt rest)
/-- a contract as the machine's own call -/
noncomputable def CtC (prog : Program) (w : World) (n : Nat) (f : Value) (args : List Value) (s : Shared) (mt : List (Addr × D)) (P : Value → List (Addr × D) → Heap → Prop) : Prop :=
  ∀ (A : Around) (R : Value → Shared → Prop), Room A n → (∀ v s' mt', mt'.map (·.1) = mt.map (·.1) → (hideAll s.heap (mt.map (·.1))).StaysIn s'.heap → Same s s' → (∀ p ∈ mt', D.At s'.heap p.1 p.2) → P v mt' s'.heap → R v s') →
    codeAny (model prog w) A (.call f ⟨args, []⟩) (fun r s' => match r with | .ok (.ret v) => R v s' | .ok _ => False | .error _ => False) s
theorem CtC.m {n : Nat} {f : Value} {args : List Value} {mt : List (Addr × D)} {P : Value → List (Addr × D) → Heap → Prop} (h : CtC prog w n f args s mt P) : CtM prog w n f args s mt P :=
  fun A Q r k => ⟨wpAny_call (h A Q r k)⟩

theorem cLenS {l : List Nat} {t : Tok} (H : Sg c F vals own s) (hz : l.length < 2 ^ 62) (h : ∀ t s', Sg c F vals own s' → Q (.int l.length t) s') : W prog w A (call (.builtin "len") [.str (tx l) t]) Q s :=
  ⟨P.len_str (by simp only [Str.length, List.size_toArray]; exact zq165 hz) (by simp only [Str.length, List.size_toArray]; exact h _ _ H.toks)⟩
theorem cEqS {a b : List Nat} {t u : Tok} (h : Q (.bool (decide (a = b))) s) : W prog w A (compareOp .Eq (.str (tx a) t) (.str (tx b) u)) Q s :=
  ⟨eq_str (by
    have : (tx a == tx b) = decide (a = b) := by
      rw [Bool.eq_iff_iff, beq_iff_eq, decide_eq_true_eq, tx_inj]
    rw [this]; exact h)⟩
theorem cInS {k : Nat} {b : List Nat} {t u : Tok} (h : Q (.bool (decide (k ∈ b))) s) : W prog w A (compareOp .In (.str (tx [k]) t) (.str (tx b) u)) Q s :=
  ⟨P.in_str (by
    have := StrLaws.found_one (tx b) k
    rw [show (tx [k]) = (⟨#[k]⟩ : Str) from rfl, this]
    have e : (tx b).cps.toList = b := by simp
    rw [e]; exact h)⟩
theorem tLst {a : Addr} {vs : List Value} {Q : Bool → Shared → Prop} (H : Sg c F vals own s) (hl : D.At s.heap a (.list vs)) (hz : vs.length < 2 ^ 62) (h : ∀ s', Sg c F vals own s' → Q (!vs.isEmpty) s') : W prog w A (truthy (.ref a)) Q s :=
  ⟨wpAny_truthy_list (D.isL hl) (by rw [List.size_toArray]; exact zq30 hz) (by
    rw [show vs.toArray.isEmpty = vs.isEmpty by simp]
    exact h _ H.toks)⟩
theorem cPop0 {i : Nat} {a : Addr} {vs : List Value} {v : Value} {t : Tok} (H : Sg c F vals own s) (e : own[i]? = some (a, .list (v :: vs))) (hz : vs.length < 1000) (h : ∀ s', Sg c F vals (own.set i (a, .list vs)) s' → Q v s') :
    W prog w A (call (.builtin "list.pop") [.ref a, .int 0 t]) Q s := by
  obtain ⟨n, e1⟩ := H.at e
  refine ⟨call_meets PySem.F.slot_list_pop ⟨_, e1, rfl⟩ PySem.F.entry_list_pop (PySem.F.args_list_pop_2 _ _) (MeetsSeq.list_pop_at a _ n 0 t 0 v (by decide) (by
    unfold seqIndex?
    simp) (by simp) (by rw [List.size_toArray, sizeLine_eq]; simp; exact zq164 hz)) ⟨e1, h _ (H.upd e (Heap.SameBut.update ..) ⟨n + 1, ?_⟩ Same.rfl)⟩⟩
  have q := PySem.IsL.update (n := n) e1 (fun xs : Array Value => xs.eraseIdxIfInBounds 0)
  have ee : (v :: vs).toArray.eraseIdxIfInBounds 0 = vs.toArray := by simp
  rw [ee, if_neg (by simp)] at q
  exact q
/-- for over an iterator that is there -/
theorem for_it {Q : Flow → Shared → Prop} {target iter : PySem.Expr} {body : List Stmt} {pos : Pos} {env : Env} (Inv : Nat → Shared → Prop) {I : Addr} {n : Nat}
    (turn : ∀ n s (Qt : Flow → Shared → Prop), Inv n s → (∀ m s₃, m < n → Inv m s₃ → Qt .next s₃ ∧ Qt .cont s₃) → (∀ v s₃, Q (.ret v) s₃ → Qt (.ret v) s₃) → W prog w A (pyNext (.ref I)) (fun r s₁ => match r with
      | none => Q .next s₁
      | some v => W prog w A (assign target env v) (fun _ s₂ => W prog w A (execs body env) Qt s₂) s₁) s)
    (hi : W prog w A (eval iter env) (fun xv s₁ => W prog w A (pyIter xv) (fun it s₂ => it = .ref I ∧ Inv n s₂) s₁) s)
    (hs : ∀ x, foldedSetIterable iter env x = pure x := by intro _; rfl) (ht : ∀ it v, letOwnedTupleGo target it v = pure () := by intro _ _; rfl) : W prog w A (exec (.For target iter body [] pos) env) Q s := by
  refine ⟨wpAny_For (hi.any fun xv s h => h.any fun it s₂ h₂ => ?_) hs⟩
  obtain ⟨rfl, h₂⟩ := h₂
  refine codeAny_forLoop Inv (fun n s hI => (turn n s (fun f s₃ => match f with
          | .next | .cont => ∃ m, m < n ∧ Inv m s₃
          | .brk => Q .next s₃
          | .ret v => Q (.ret v) s₃) hI (fun m s₃ a b => ⟨⟨m, a, b⟩, ⟨m, a, b⟩⟩) (fun _ _ q => q)).any fun r s₁ h₁ => ?_) n h₂ (ht _)
  cases r with
  | none => exact wpAny_execs_nil h₁
  | some v =>
    refine W.any h₁ fun _ s₂ h₂ => W.any h₂ fun f s₃ h₃ => ?_
    cases f <;> exact h₃
/-- o.read, o a def's object that holds it -/
theorem gmRead {st sd fr : Addr} {pl : Sem Bool} {m : Str → Option Value} {o : Obj} {Q : Value × List Value → Shared → Prop} (H : Sg c F vals own s) (ho : s.heap.get? st = some o) (hc : o.cls = .type "function") (hd : o.dict = some sd) (hnc : ∀ c, o.data ≠ .cls c) (hn : s.heap.Ns sd m) (hm : m "read" = some (.ref fr))
    (h : ∀ s', Sg c F vals own s' → Q (.ref fr, []) s') : W prog w A (getMethod (.ref st) "read" pl) Q s := by
  have hh : ∀ tk, Q (.ref fr, []) { s with toks := tk } := fun tk => h _ H.toks
  obtain ⟨hp, g, d, t, os⟩ := s
  exact ⟨fn_load ho hc hd hnc hn hm hh⟩
end

/-! the lexer -/
structure LexA where
  x : Addr
  dx : Addr
  pb : Addr
  al : Addr
  fr : Addr
  st : Addr
  sd : Addr
  cp : Addr
  ca : Addr
noncomputable def rdStm : Stmt := dStm (stm 62) 1
noncomputable def lexF (L : LexA) (line : Int) (t wt : Tok) : Str → Option Value := fun y =>
  if y = "lineno" then some (.int line t) else if y = "instream" then some (.ref L.st) else if y = "whitespace" then some (.str (tx [10, 9, 13, 32]) wt) else if y = "pushback" then some (.ref L.pb) else none
noncomputable def LexDO (L : LexA) (line : Int) (o : Obj) : Prop := ∃ t wt, NsDO (lexF L line t wt) o
/-- the line at a place -/
noncomputable def lnAt (page : List Nat) (pos : Nat) : Int := 1 + ((page.take pos).count 10 : Nat)
noncomputable abbrev rdM (L : LexA) (pos : Nat) : List (Addr × D) := [(L.al, .ints [(pos : Int)])]
noncomputable abbrev chM (L : LexA) (page : List Nat) (pos : Nat) : List (Addr × D) := [(L.al, .ints [(pos : Int)]), (L.dx, .fact (LexDO L (lnAt page pos)))]
noncomputable abbrev lexM (L : LexA) (page : List Nat) (pos : Nat) (pbs : List Value) : List (Addr × D) := [(L.al, .ints [(pos : Int)]), (L.dx, .fact (LexDO L (lnAt page pos))), (L.pb, .list pbs)]
noncomputable def StO (sd : Addr) (o : Obj) : Prop := o.cls = .type "function" ∧ o.dict = some sd ∧ ∀ c, o.data ≠ .cls c
structure RdOk (ad : Ads) (L : LexA) (page : List Nat) (h : Heap) : Prop where
  base : Base ad h
  fn : IsFn h L.fr (dArgs rdStm) (dBody rdStm) (dScope rdStm) [("page", L.cp), ("at", L.ca)]
  pg : ∃ t, D.At h L.cp (.cell (some (.str (tx page) t)))
  al : D.At h L.ca (.cell (some (.ref L.al)))
  small : page.length ≤ 1000000
structure LexOk (ad : Ads) (L : LexA) (page : List Nat) (h : Heap) : Prop where
  rd : RdOk ad L page h
  inst : D.At h L.x (.fact (InO ad.cls L.dx))
  ne : L.dx ≠ L.x
  st : ∃ o m, h.get? L.st = some o ∧ StO L.sd o ∧ h.Ns L.sd m ∧ m "read" = some (.ref L.fr)
  cls : ClsOk ad h
theorem RdOk.keeps {ad : Ads} {L : LexA} {page : List Nat} {h h' : Heap} (k : h.StaysIn h') (x : RdOk ad L page h) : RdOk ad L page h' :=
  ⟨x.base.keeps k, x.fn.keeps k, let ⟨t, e⟩ := x.pg; ⟨t, e.keeps k⟩, x.al.keeps k, x.small⟩
theorem LexOk.keeps {ad : Ads} {L : LexA} {page : List Nat} {h h' : Heap} (k : h.StaysIn h') (x : LexOk ad L page h) : LexOk ad L page h' :=
  ⟨x.rd.keeps k, x.inst.keeps k, x.ne, let ⟨o, m, a, b, d, e⟩ := x.st; ⟨o, m, k _ _ a, b, d.keeps k, e⟩, x.cls.keeps k⟩

section
variable {prog : Program} {w : World} {s0 : Shared} {ad : Ads} {L : LexA} {page : List Nat} {pos : Nat} {t : Tok}

/-- what is read -/
noncomputable def rdCh (page : List Nat) (pos : Nat) : List Nat := (page.drop pos).take 1

theorem readOn_ok (ok : RdOk ad L page (hideAll s0.heap ((rdM L pos).map (·.1)))) (hm : MtOk s0.heap (rdM L pos)) (hp : pos ≤ page.length) :
    CtM prog w 1 (.ref L.fr) [.int 1 t] s0 (rdM L pos) (fun v mt' _ => mt' = rdM L (pos + (rdCh page pos).length) ∧ ∃ u, v = .str (tx (rdCh page pos)) u) := by
  intro A Q rm ret
  obtain ⟨tp, hpg⟩ := ok.pg
  have hsm := ok.small
  have hch : (rdCh page pos).length ≤ 1 := by simp [rdCh]; exact zq163
  refine call_fnM (pn := ["size"]) (names := ["size", "signs"]) (cn := []) (closure := [("page", L.cp), ("at", L.ca)]) (rdM L pos) rfl hm.at_ hm.nd (ok.fn.keeps fun b o e => of_hideAll _ e) ok.base.lim rm (by intros _ _ _ _ _ _ _ _ _ _; rfl) (by kernel_rfl) (by decide +kernel) (ok.base.glob.pick [19]) fun env s _ H rm => ?_
  refine b1 (stL H (i := 0) rfl rfl fun s H => b0 ⟨H.keep, ?_⟩)
  -- signs = page[at[0]:at[0] + size]
  refine x1 (xAsg ?_)
  refine eSub ?_
  refine nC H (j := 0) rfl (H.gr hpg) ?_
  refine eSl ?_
  refine evP ?_
  refine eSub ?_
  refine nC H (j := 1) rfl (H.gr ok.al) ?_
  refine kI H fun t s H => ?_
  refine subI (H.at (i := 0) rfl) (by decide) (by simp) (by simp) fun t => ?_
  refine evP ?_
  refine eBin ?_
  refine eSub ?_
  refine nC H (j := 1) rfl (H.gr ok.al) ?_
  refine kI H fun t s H => ?_
  refine subI (H.at (i := 0) rfl) (by decide) (by simp) (by simp) fun t => ?_
  refine nL H (i := 0) rfl rfl ?_
  refine oAdd H fun t s H => ?_
  refine ⟨_, _, _, _, H, fun a s H hsl _ => ?_⟩
  refine subSSl (n := 0) (a := pos) (b := pos + 1) H hsl (by exact zq162) (by rw [sizeLine_eq]; exact zq161 hsm) fun t s H => ?_
  rw [show (page.drop pos).take (pos + 1 - pos) = rdCh page pos by rw [rdCh, Nat.add_sub_cancel_left]] at *
  refine stL H (i := 1) rfl rfl fun s H => ?_
  -- at[0] = at[0] + len(signs)
  refine x1 (xSub ?_)
  refine eBin ?_
  refine eSub ?_
  refine nC H (j := 1) rfl (H.gr ok.al) ?_
  refine kI H fun t s H => ?_
  refine subI (H.at (i := 0) rfl) (by decide) (by simp) (by simp) fun t => ?_
  refine eCall ?_
  refine nG H (j := 0) rfl ?_
  refine cwB (sp1 ?_)
  refine nL H (i := 1) rfl rfl ?_
  refine sp0 ?_
  refine cLenS H (by exact zq160 hch) fun t s H => ?_
  refine oAdd H fun t s H => ?_
  refine nC H (j := 1) rfl (H.gr ok.al) ?_
  refine kI H fun t s H => ?_
  refine setI H (i := 0) rfl (by decide) (by simp) (by simp) fun s H => ?_
  -- return signs
  refine x1 (xRet ?_)
  refine nL H (i := 1) rfl rfl ?_
  exact ret _ _ (rdM L (pos + (rdCh page pos).length)) rfl H.keep H.same (H.mt 1) ⟨rfl, _, rfl⟩
end
end Mine

end

section
open PySem PySem.Spec PySem.Calls PyProof.Rows PySem.W
set_option Elab.async false
set_option linter.all false
set_option maxRecDepth 100000
set_option autoImplicit false
namespace Mine

theorem tl_lineno : typeLookup (.type "object") "lineno" = pure none := by rw [typeLookup_type, builtinLookup_eq_fast]; kernel_rfl
theorem tl_instream : typeLookup (.type "object") "instream" = pure none := by rw [typeLookup_type, builtinLookup_eq_fast]; kernel_rfl
theorem tl_whitespace : typeLookup (.type "object") "whitespace" = pure none := by rw [typeLookup_type, builtinLookup_eq_fast]; kernel_rfl
theorem tl_pushback : typeLookup (.type "object") "pushback" = pure none := by rw [typeLookup_type, builtinLookup_eq_fast]; kernel_rfl
theorem tl_read_char : typeLookup (.type "object") "_read_char" = pure none := by rw [typeLookup_type, builtinLookup_eq_fast]; kernel_rfl
theorem tl_get_token : typeLookup (.type "object") "get_token" = pure none := by rw [typeLookup_type, builtinLookup_eq_fast]; kernel_rfl
theorem tl_push_token : typeLookup (.type "object") "push_token" = pure none := by rw [typeLookup_type, builtinLookup_eq_fast]; kernel_rfl
theorem Base.fnCls {ad : Ads} {h : Heap} (b : Base ad h) (i : Nat) {f : Addr} {st : Stmt} (e : (ftab ad)[i]? = some (f, st)) : ∃ o, h.get? f = some o ∧ o.cls = .type "function" := let ⟨fo, _, _, _, _, _, _, _, a, c, _, _⟩ := b.fn i e; ⟨fo, a, c⟩
theorem lexF_within (L : LexA) (line : Int) (t wt : Tok) : PySem.Within (lexF L line t wt) ["lineno", "instream", "whitespace", "pushback"] := fun y hy => by
  unfold lexF at hy
  split at hy
  · subst y; exact .head _
  split at hy
  · subst y; exact .tail _ (.head _)
  split at hy
  · subst y; exact .tail _ (.tail _ (.head _))
  split at hy
  · subst y; exact .tail _ (.tail _ (.tail _ (.head _)))
  · exact absurd rfl hy

section
variable {prog : Program} {w : World} {A : Around} {c : Fx} {F : Heap} {vals : List (Option Value)} {own : List (Addr × D)} {s : Shared} {ad : Ads} {L : LexA} {page : List Nat}

theorem LexOk.here (ok : LexOk ad L page c.G) (H : Sg c F vals own s) : LexOk ad L page s.heap := ok.keeps H.ground
theorem gaL {Q : Value → Shared → Prop} {name : Str} {e : Bool} {i : Nat} {line : Int} {v : Tok → Tok → Value} (H : Sg c F vals own s) (ok : LexOk ad L page c.G) (eo : own[i]? = some (L.dx, .fact (LexDO L line))) (hv : ∀ t wt, lexF L line t wt name = some (v t wt))
    (hm : (name, none) ∈ clsTab ad) (hB : typeLookup (.type "object") name = pure none) (h : ∀ t wt s', Sg c F vals own s' → Q (v t wt) s') (hh : ∀ t wt, handedOut (v t wt) = pure (v t wt) := by intros; rfl) : W prog w A (getAttr (.ref L.x) name e) Q s := by
  obtain ⟨o, ho, t, wt, hd⟩ := H.at eo
  have ok' := ok.here H
  exact gaI H ok'.cls ok'.inst ⟨o, ho, hd⟩ ok'.ne (hv t wt) hm hB (h t wt) (hh t wt)
theorem saLine {Q : Unit → Shared → Prop} {i : Nat} {line x : Int} {u : Tok} (H : Sg c F vals own s) (ok : LexOk ad L page c.G) (eo : own[i]? = some (L.dx, .fact (LexDO L line))) (h : ∀ s', Sg c F vals (own.set i (L.dx, .fact (LexDO L x))) s' → Q () s') :
    W prog w A (setAttr (.ref L.x) "lineno" (.int x u)) Q s := by
  obtain ⟨o, ho, t, wt, hd⟩ := H.at eo
  have ok' := ok.here H
  have hi : i < own.length := (List.getElem?_eq_some_iff.mp eo).1
  have H' := H.re eo (d' := .fact (NsDO (lexF L line t wt))) ⟨o, ho, hd⟩
  have e' : (own.set i (L.dx, D.fact (NsDO (lexF L line t wt))))[i]? = some (L.dx, D.fact (NsDO (lexF L line t wt))) := List.getElem?_set_self hi
  refine saI H' ok'.cls ok'.inst e' ok'.ne (lexF_within L line t wt) (by decide) (by simp [clsTab]) tl_lineno fun s' H'' => h s' ?_
  rw [List.set_set] at H''
  have e2 : (own.set i (L.dx, D.fact (NsDO fun y => if y = "lineno" then some (.int x u) else lexF L line t wt y)))[i]? = some (L.dx, D.fact (NsDO fun y => if y = "lineno" then some (.int x u) else lexF L line t wt y)) := List.getElem?_set_self hi
  have H3 := H''.re e2 (d' := .fact (LexDO L x)) (by
    obtain ⟨o', ho', hd'⟩ := H''.at e2
    refine ⟨o', ho', u, wt, ?_⟩
    have : (fun y : Str => if y = "lineno" then some (Value.int x u) else lexF L line t wt y) = lexF L x u wt := by
      funext y
      unfold lexF
      split <;> rfl
    rw [← this]; exact hd')
  rw [List.set_set] at H3
  exact H3
end

section
variable {prog : Program} {w : World} {s0 : Shared} {ad : Ads} {L : LexA} {page : List Nat} {pos : Nat} {t : Tok}

theorem rdCh_lt {page : List Nat} {pos : Nat} (h : pos < page.length) : rdCh page pos = [page.getD pos 0] := by
  unfold rdCh
  rw [List.drop_eq_getElem_cons h]
  show [page[pos]] = _
  simp [h]
theorem rdCh_ge {page : List Nat} {pos : Nat} (h : page.length ≤ pos) : rdCh page pos = [] := by
  unfold rdCh
  rw [List.drop_of_length_le h]; rfl
/-- where the place is, one sign on -/
noncomputable def nx (page : List Nat) (pos : Nat) : Nat := pos + (rdCh page pos).length
theorem nx_lt {page : List Nat} {pos : Nat} (h : pos < page.length) : nx page pos = pos + 1 := by rw [nx, rdCh_lt h]; rfl
theorem nx_ge {page : List Nat} {pos : Nat} (h : page.length ≤ pos) : nx page pos = pos := by rw [nx, rdCh_ge h]; rfl
theorem nx_le {page : List Nat} {pos : Nat} (h : pos ≤ page.length) : nx page pos ≤ page.length := by
  rcases Nat.lt_or_ge pos page.length with h' | h'
  · rw [nx_lt h']; exact h'
  · rw [nx_ge h']; exact h
theorem lnAt_nx {page : List Nat} {pos : Nat} (h : pos ≤ page.length) : lnAt page (nx page pos) = lnAt page pos + (if rdCh page pos = [10] then 1 else 0) := by
  rcases Nat.lt_or_ge pos page.length with h' | h'
  · rw [nx_lt h', rdCh_lt h']
    unfold lnAt
    rw [List.take_succ_eq_append_getElem h', List.count_append]
    have e : page.getD pos 0 = page[pos] := by simp [h']
    rw [e]
    by_cases hc : page[pos] = 10
    · simp [hc]; exact zq166
    · simp [hc, List.count_singleton]
  · rw [nx_ge h', rdCh_ge h']; simp

theorem readChar_ok (ok : LexOk ad L page (hideAll s0.heap ((chM L page pos).map (·.1)))) (hm : MtOk s0.heap (chM L page pos)) (hp : pos ≤ page.length) :
    CtC prog w 2 (.ref (ad.fn 17)) [.ref L.x] s0 (chM L page pos) (fun v mt' _ => mt' = chM L page (nx page pos) ∧ ∃ u, v = .str (tx (rdCh page pos)) u) := by
  intro A R rm ret
  refine codeAny_mono (call_fnMC (Q := R) (pn := ["self"]) (names := ["self", "ch"]) (cn := []) (closure := []) (gl := []) (chM L page pos) rfl hm.at_ hm.nd ((ok.rd.base.fn 17 rfl).keeps fun b o e => of_hideAll _ e) ok.rd.base.lim rm (by intros _ _ _ _ _ _ _ _ _ _; rfl) (by kernel_rfl) (by decide +kernel) (ok.rd.base.glob.pick []) fun env s _ H rm => ?_) (fun r s' h => h)
  refine b1 (stL H (i := 0) rfl rfl fun s H => b0 ⟨H.keep, ?_⟩)
  -- ch = self.instream.read(1)
  refine x1 (xAsg ?_)
  refine eMeth ?_
  refine eAttr ?_
  refine nL H (i := 0) rfl rfl ?_
  refine gaL H ok (i := 1) rfl (v := fun _ _ => .ref L.st) (fun _ _ => rfl) (by simp [clsTab]) tl_instream fun _ _ s H => ?_
  obtain ⟨o, m, ho, ⟨hc, hd, hnc⟩, hn, hm'⟩ := (ok.here H).st
  refine gmRead H ho hc hd hnc hn hm' fun s H => ?_
  refine cwF (sp1 ?_)
  refine kI H fun t s H => ?_
  refine sp0 ⟨(let ⟨fo, _, _, _, _, _, _, _, a, _, d, _⟩ := (ok.here H).rd.fn; ⟨fo, _, a, d⟩), ?_⟩
  refine (readOn_ok (page := page) (pos := pos) (ok.rd.keeps (Sg.ground' (mt := rdM L pos) (rest := [(L.dx, .fact (LexDO L (lnAt page pos)))]) H)) (Sg.mtOk (mt := rdM L pos) (rest := [(L.dx, .fact (LexDO L (lnAt page pos)))]) H) hp).use (rest := [(L.dx, .fact (LexDO L (lnAt page pos)))]) H (rm.le (by decide)) fun v s mt' em H _ hP => ?_
  obtain ⟨rfl, u, rfl⟩ := hP
  refine stL H (i := 1) rfl rfl fun s H => ?_
  -- if ch == '\n': self.lineno += 1
  have hln := lnAt_nx hp
  refine x1 (W.joinS H (fun vals own => vals = [some (.ref L.x), some (.str (tx (rdCh page pos)) u)] ∧ own = chM L page (nx page pos)) ?_ ?_)
  · refine xIf ?_
    refine tCmp ?_
    refine nL H (i := 1) rfl rfl ?_
    refine kST [10] H fun t s H => ?_
    refine cEqS (tBool ?_)
    refine iteD (fun hp => ?_) fun hp => ?_
    · rw [if_pos hp] at hln
      refine x1 (xAugAttr ?_)
      refine nL H (i := 0) rfl rfl ?_
      refine gaL H ok (i := 1) rfl (v := fun t _ => .int (lnAt page pos) t) (fun _ _ => rfl) (by simp [clsTab]) tl_lineno fun _ _ s H => ?_
      refine kI H fun t s H => ?_
      refine iAdd H fun t s H => ?_
      refine saLine H ok (i := 1) rfl fun s H => ?_
      refine x0 ⟨rfl, _, _, ⟨rfl, rfl⟩, ?_⟩
      show Sg _ _ _ (chM L page (nx page pos)) _
      unfold chM
      rw [hln]
      exact H
    · rw [if_neg hp, Int.add_zero] at hln
      refine x0 ⟨rfl, _, _, ⟨rfl, rfl⟩, ?_⟩
      unfold chM
      rw [hln]
      exact H
  · rintro _ _ s ⟨rfl, rfl⟩ H
    refine x1 (xRet ?_)
    refine nL H (i := 1) rfl rfl ?_
    exact ret _ _ (chM L page (nx page pos)) rfl H.keep H.same (H.mt 2) ⟨rfl, _, rfl⟩
end
end Mine

end

section
open PySem PySem.Spec PySem.Calls PyProof.Rows PySem.W
set_option Elab.async false
set_option linter.all false
set_option maxRecDepth 100000
set_option autoImplicit false
namespace Mine

theorem get2 {α : Type} {x y z : α} (pre : List α) : (x :: y :: (pre ++ [z]))[2 + pre.length]? = some z := by rw [Nat.add_comm]; simp
theorem get2j {α : Type} {x y z q : α} {pre : List α} {j : Nat} (h : pre[j]? = some q) : (x :: y :: (pre ++ [z]))[2 + j]? = some q := by
  have hj : j < pre.length := (List.getElem?_eq_some_iff.mp h).1
  rw [Nat.add_comm, List.getElem?_cons_succ, List.getElem?_cons_succ, List.getElem?_append_left hj, h]
section
variable {prog : Program} {w : World} {A : Around} {c : Fx} {F : Heap} {vals : List (Option Value)} {own : List (Addr × D)} {s : Shared} {ad : Ads} {L : LexA} {page : List Nat} {pos : Nat}

noncomputable abbrev rcObj (ad : Ads) (L : LexA) : Obj := methodObj (.ref (ad.fn 17)) (.ref L.x)
/-- the next sign, by the iterator -/
theorem nextCh {I m : Addr} {u : Tok} {pre : List (Addr × D)} {j n : Nat} {Q : Option Value → Shared → Prop} (H : Sg c F vals (chM L page pos ++ (pre ++ [(I, .obj (citObj m u))])) s) (ok : LexOk ad L page c.G) (hp : pos ≤ page.length)
    (hm : pre[j]? = some (m, .obj (rcObj ad L))) (r : Room A 3)
    (h1 : pos < page.length → ∀ u' s', Sg c F vals (chM L page (pos + 1) ++ (pre ++ [(I, .obj (citObj m u))])) s' → Q (some (.str (tx [page.getD pos 0]) u')) s')
    (h2 : page.length ≤ pos → ∀ s', Sg c F vals (chM L page pos ++ pre) s' → Q none s') : W prog w A (pyNext (.ref I)) Q s := by
  have hf : ∀ {s' : Shared} {own'}, Sg c F vals own' s' → FnObj s'.heap (ad.fn 17) := fun H' => (ok.here H').rd.base.obj 17 rfl
  refine ⟨cit_next r.handled (H.at (get2 pre)) (H.at (get2j hm)) (hf H) (readChar_ok (ok.keeps (Sg.ground' H)) H.mtOk hp A.in1 _ (Room.in1 (n := 2) r) fun v s' mt' em st sm at' hP => ?_)⟩
  have H' := H.after em st sm at'
  obtain ⟨rfl, u', rfl⟩ := hP
  refine ⟨_, _, rfl, H'.at (get2 pre), H'.at (get2j hm), hf H', fun hne => ?_, fun he h' hx => ?_⟩
  · rcases Nat.lt_or_ge pos page.length with q | q
    · rw [nx_lt q] at H'
      rw [rdCh_lt q]
      exact h1 q _ _ H'
    · exact absurd (rdCh_ge q) hne
  · rcases Nat.lt_or_ge pos page.length with q | q
    · rw [rdCh_lt q] at he; cases he
    · rw [nx_ge q] at H'
      refine h2 q _ ?_
      have hm1 := H'.mine (I, .obj (citObj m u)) (by simp)
      have hnd := H'.nd
      rw [← List.append_assoc] at H' hnd
      refine Sg.other (t := s'.toks) (H'.less (List.sublist_append_left _ _)) hm1.2.1 hm1.2.2 (fun p hp e => ?_) hx
      rw [List.map_append] at hnd
      exact (List.nodup_append.mp hnd).2.2 p.1 (List.mem_map_of_mem hp) I (by simp) e

/-- iter(self._read_char, '') -/
theorem cIter2 {m : Addr} {i : Nat} {u : Tok} {f x : Value} {Q : Value → Shared → Prop} (H : Sg c F vals own s) (e : own[i]? = some (m, .obj (methodObj f x))) (h : ∀ I s', Sg c F vals (own ++ [(I, .obj (citObj m u))]) s' → Q (.ref I) s') :
    W prog w A (call (.builtin "iter") [.ref m, .str (tx []) u]) Q s :=
  ⟨iter2 (H.at e) (h _ _ (H.add (H.heap (t := s.toks) push_get) fresh_size (Heap.get?_push_size _ rfl)))⟩
theorem itSelf {I m : Addr} {u : Tok} {i : Nat} {Q : Value → Shared → Prop} (H : Sg c F vals own s) (e : own[i]? = some (I, .obj (citObj m u))) (h : Q (.ref I) s) : W prog w A (pyIter (.ref I)) Q s := ⟨cit_iter (H.at e) h⟩
end

theorem drop_head {page : List Nat} {pos : Nat} {c : Nat} {r : List Nat} (h : page.drop pos = c :: r) : pos < page.length ∧ page.getD pos 0 = c ∧ page.drop (pos + 1) = r := by
  have hl : pos < page.length := by
    rcases Nat.lt_or_ge pos page.length with q | q
    · exact q
    · rw [List.drop_of_length_le q] at h; cases h
  rw [List.drop_eq_getElem_cons hl] at h
  have h1 := (List.cons.inj h).1
  refine ⟨hl, ?_, (List.cons.inj h).2⟩
  rw [← h1]; simp [hl]
theorem drop_nil {page : List Nat} {pos : Nat} (h : page.drop pos = []) : page.length ≤ pos := List.drop_eq_nil_iff.mp h

noncomputable def isWs (c : Nat) : Prop := c ∈ [10, 9, 13, 32]
noncomputable def wordy (c : Nat) : Prop := c ∉ [10, 9, 13, 32] ∧ c ≠ 34 ∧ c ≠ 92

section
variable {prog : Program} {w : World} {s0 : Shared} {ad : Ads} {L : LexA} {page : List Nat} {pos : Nat} {t : Tok}

theorem pushToken_ok {pbs : List Value} {v : Value} (ok : LexOk ad L page (hideAll s0.heap ((lexM L page pos pbs).map (·.1)))) (hm : MtOk s0.heap (lexM L page pos pbs)) (hz : pbs.length < 1000) :
    CtM prog w 2 (.ref (ad.fn 19)) [.ref L.x, v] s0 (lexM L page pos pbs) (fun r mt' _ => mt' = lexM L page pos (pbs ++ [v]) ∧ r = .none) := by
  intro A Q rm ret
  refine call_fnM (pn := ["self", "token"]) (names := ["self", "token"]) (cn := []) (closure := []) (gl := []) (lexM L page pos pbs) rfl hm.at_ hm.nd ((ok.rd.base.fn 19 rfl).keeps fun b o e => of_hideAll _ e) ok.rd.base.lim rm (by intros _ _ _ _ _ _ _ _ _ _; rfl) (by kernel_rfl) (by decide +kernel) (ok.rd.base.glob.pick []) fun env s _ H rm => ?_
  refine b1 (stL H (i := 0) rfl rfl fun s H => b1 (stL H (i := 1) rfl rfl fun s H => b0 ⟨H.keep, ?_⟩))
  refine x1 (xE H ?_)
  refine eMeth ?_
  refine eAttr ?_
  refine nL H (i := 0) rfl rfl ?_
  refine gaL H ok (i := 1) rfl (v := fun _ _ => .ref L.pb) (fun _ _ => rfl) (by simp [clsTab]) tl_pushback fun _ _ s H => ?_
  refine gmAppend (H.at (i := 2) rfl) rfl ?_
  refine cwB (sp1 ?_)
  refine nL H (i := 1) rfl rfl ?_
  refine sp0 ?_
  refine cAppend H (i := 2) rfl (by rw [sizeLine_eq]; exact zq168 hz) fun s H => ?_
  exact x0 (ret _ _ (lexM L page pos (pbs ++ [v])) rfl H.keep H.same (H.mt 3) ⟨rfl, rfl⟩)

theorem getPushed_ok {pbs : List Value} {v : Value} (ok : LexOk ad L page (hideAll s0.heap ((lexM L page pos (v :: pbs)).map (·.1)))) (hm : MtOk s0.heap (lexM L page pos (v :: pbs))) (hz : pbs.length < 1000) :
    CtM prog w 2 (.ref (ad.fn 18)) [.ref L.x] s0 (lexM L page pos (v :: pbs)) (fun r mt' _ => mt' = lexM L page pos pbs ∧ r = v) := by
  intro A Q rm ret
  refine call_fnM (pn := ["self"]) (names := ["self", "token", "fiter", "ch"]) (cn := []) (closure := []) (gl := []) (lexM L page pos (v :: pbs)) rfl hm.at_ hm.nd ((ok.rd.base.fn 18 rfl).keeps fun b o e => of_hideAll _ e) ok.rd.base.lim rm (by intros _ _ _ _ _ _ _ _ _ _; rfl) (by kernel_rfl) (by decide +kernel) (ok.rd.base.glob.pick []) fun env s _ H rm => ?_
  refine b1 (stL H (i := 0) rfl rfl fun s H => b0 ⟨H.keep, ?_⟩)
  -- if self.pushback:
  refine x1 (xIf ?_)
  refine tAttr ?_
  refine eAttr ?_
  refine nL H (i := 0) rfl rfl ?_
  refine gaL H ok (i := 1) rfl (v := fun _ _ => .ref L.pb) (fun _ _ => rfl) (by simp [clsTab]) tl_pushback fun _ _ s H => ?_
  refine tLst H (H.at (i := 2) rfl) (by simp; exact zq167 hz) fun s H => ?_
  rw [show (!(v :: pbs).isEmpty) = true from rfl, if_pos rfl]
  refine x1 (xRet ?_)
  refine eMeth ?_
  refine eAttr ?_
  refine nL H (i := 0) rfl rfl ?_
  refine gaL H ok (i := 1) rfl (v := fun _ _ => .ref L.pb) (fun _ _ => rfl) (by simp [clsTab]) tl_pushback fun _ _ s H => ?_
  refine gmList (H.at (i := 2) rfl) rfl PySem.F.slot_list_pop PySem.F.type_list_pop ?_
  refine cwB (sp1 ?_)
  refine kI H fun t s H => ?_
  refine sp0 ?_
  refine cPop0 H (i := 2) rfl hz fun s H => ?_
  exact ret _ _ (lexM L page pos pbs) rfl H.keep H.same (H.mt 3) ⟨rfl, rfl⟩
end
end Mine

end

section
open PySem PySem.Spec PySem.Calls PyProof.Rows PySem.W
set_option Elab.async false
set_option linter.all false
set_option maxRecDepth 100000
set_option autoImplicit false
namespace Mine

noncomputable abbrev TokO := Option (Nat × List Nat × Nat × List Nat)
noncomputable def restO : TokO → List Nat
  | none => []
  | some (way, w, sep, tail) => partK way w ++ sep :: tail
noncomputable def okO : TokO → Prop
  | none => True
  | some (_, w, sep, _) => w ≠ [] ∧ w.length ≤ 10000 ∧ (∀ c ∈ w, wordy c) ∧ isWs sep
noncomputable def tokO : TokO → List Nat
  | none => []
  | some (_, w, _, _) => w
noncomputable def tailO : TokO → List Nat
  | none => []
  | some (way, _, sep, tail) => if way = 1 then sep :: tail else tail
/-- what is left of a word, bare or escaped -/
noncomputable def leftK (way : Nat) (x : List Nat) : List Nat := if way = 0 then x else x.flatMap fun c => [92, c]

section
variable {prog : Program} {w : World} {A : Around} {c : Fx} {F : Heap} {vals : List (Option Value)} {rest : List (Addr × D)} {s : Shared} {ad : Ads} {L : LexA} {page : List Nat} {pos : Nat} {env : Env}
/-- self._read_char() -/
theorem mRead {pl : Sem Bool} {p : Pos} {Q : Value → Shared → Prop} (H : Sg c F vals (chM L page pos ++ rest) s) (ok : LexOk ad L page c.G) (hp : pos ≤ page.length) (r : Room A 2)
    (h : ∀ u s', Sg c F vals (chM L page (nx page pos) ++ rest) s' → Q (.str (tx (rdCh page pos)) u) s') :
    W prog w A (getMethod (.ref L.x) "_read_char" pl) (fun fx s₂ => W prog w A (callWith p fx.1 fx.2 (backTo p (starEach [] env)) []) Q s₂) s := by
  obtain ⟨ob, hob, tl, wt, hdx⟩ := H.at (i := 1) rfl
  have ok' := ok.here H
  refine gmM (n := 17) ok'.cls ok'.inst ⟨ob, hob, hdx⟩ ok'.ne (by rfl) (by simp [clsTab]) (ok'.rd.base.fnCls 17 rfl) tl_read_char ?_
  refine cwF0 (ok'.rd.base.obj 17 rfl) ?_
  refine (readChar_ok (ok.keeps (Sg.ground' H)) H.mtOk hp).m.use H r fun v s mt' em H _ hP => ?_
  obtain ⟨rfl, u, rfl⟩ := hP
  exact h u _ H
end
section
variable {prog : Program} {w : World} {s0 : Shared} {ad : Ads} {L : LexA} {page : List Nat} {pos : Nat} {t : Tok}

theorem getToken_ok {ws : List Nat} {o : TokO} (ok : LexOk ad L page (hideAll s0.heap ((lexM L page pos []).map (·.1)))) (hm : MtOk s0.heap (lexM L page pos [])) (hd : page.drop pos = ws ++ restO o) (hws : ∀ c ∈ ws, isWs c) (ho : okO o) (hp : pos ≤ page.length) :
    CtM prog w 4 (.ref (ad.fn 18)) [.ref L.x] s0 (lexM L page pos []) (fun v mt' _ => ∃ pos' u, pos' ≤ page.length ∧ mt' = lexM L page pos' [] ∧ v = .str (tx (tokO o)) u ∧ page.drop pos' = tailO o) := by
  intro A Q rm ret
  refine call_fnM (pn := ["self"]) (names := ["self", "token", "fiter", "ch"]) (cn := []) (closure := []) (lexM L page pos []) rfl hm.at_ hm.nd ((ok.rd.base.fn 18 rfl).keeps fun b o e => of_hideAll _ e) ok.rd.base.lim rm (by intros _ _ _ _ _ _ _ _ _ _; rfl) (by kernel_rfl) (by decide +kernel) (ok.rd.base.glob.pick [25]) fun env s _ H rm => ?_
  refine b1 (stL H (i := 0) rfl rfl fun s H => b0 ⟨H.keep, ?_⟩)
  -- if self.pushback:
  refine x1 (xIf ?_)
  refine tAttr ?_
  refine eAttr ?_
  refine nL H (i := 0) rfl rfl ?_
  refine gaL H ok (i := 1) rfl (v := fun _ _ => .ref L.pb) (fun _ _ => rfl) (by simp [clsTab]) tl_pushback fun _ _ s H => ?_
  refine tLst H (H.at (i := 2) rfl) (by simp) fun s H => ?_
  rw [show (!([] : List Value).isEmpty) = false from rfl, if_neg Bool.false_ne_true]
  refine x0 ?_
  -- token = ''
  refine x1 (xAsg ?_)
  refine kST [] H fun t0 s H => ?_
  refine stL H (i := 1) rfl rfl fun s H => ?_
  -- fiter = iter(self._read_char, '')
  refine x1 (xAsg ?_)
  refine eCall ?_
  refine nG H (j := 0) rfl ?_
  refine cwB (sp1 ?_)
  refine eAttr ?_
  refine nL H (i := 0) rfl rfl ?_
  obtain ⟨ob, hob, tl, wt, hdx⟩ := H.at (i := 1) rfl
  refine gaB (n := 17) H (ok.here H).cls (ok.here H).inst ⟨ob, hob, hdx⟩ (by rfl) (by simp [clsTab]) ((ok.here H).rd.base.fnCls 17 rfl) tl_read_char (by kernel_rfl) fun m s H => ?_
  refine sp1 ?_
  refine kST [] H fun u0 s H => ?_
  refine sp0 ?_
  refine cIter2 H (i := 3) rfl fun I s H => ?_
  refine stL H (i := 2) rfl rfl fun s H => ?_
  -- for ch in fiter:
  refine x1 (for_it (I := I) (n := ws.length) (fun n s => ∃ pos' ws' chv, n = ws'.length ∧ pos' ≤ page.length ∧ page.drop pos' = ws' ++ restO o ∧ (∀ c ∈ ws', isWs c) ∧
    Sg ⟨hideAll s0.heap ((lexM L page pos []).map (·.1)), env, ["self", "token", "fiter", "ch"], pick (gtab ad) [25], s0, clOf (s0.heap.objs.size + 1) [] []⟩ (hideAll s0.heap ((lexM L page pos []).map (·.1))) [some (.ref L.x), some (.str (tx []) t0), some (.ref I), chv] (lexM L page pos' [] ++ [(m, .obj (rcObj ad L)), (I, .obj (citObj m u0))]) s) ?_ ?_)
  · rintro n s Qt0 ⟨pos', ws', chv, rfl, hp', hd', hws', H⟩ hN0 hR0
    rcases ws' with _ | ⟨c, ws'⟩
    · rcases o with _ | ⟨way, wd, sep, tail⟩
      · -- the end: return token
        have hge := drop_nil hd'
        refine nextCh (pre := [(L.pb, .list []), (m, .obj (rcObj ad L))]) (j := 1) (n := 0) H ok hp' rfl rm (fun hlt => absurd hlt (by exact zq172 hge)) (fun _ s H => ?_)
        refine x1 (xRet ?_)
        refine nL H (i := 1) rfl rfl ?_
        exact ret _ _ (lexM L page pos' []) rfl H.keep H.same (H.mt 3) ⟨pos', _, hp', rfl, rfl, List.drop_of_length_le hge⟩
      obtain ⟨hne, hlen, hwd, hsep⟩ := ho
      have hd' : page.drop pos' = partK way wd ++ sep :: tail := hd'
      have hlt : pos' < page.length := by
        rcases Nat.lt_or_ge pos' page.length with q | q
        · exact q
        · rw [List.drop_of_length_le q] at hd'
          exact absurd (List.append_eq_nil_iff.mp hd'.symm).2 (by simp)
      refine nextCh (pre := [(L.pb, .list []), (m, .obj (rcObj ad L))]) (j := 1) (n := 0) H ok hp' rfl rm (fun _ u' s H => ?_) (fun hge => absurd hge (by exact zq75 hlt))
      have H : Sg ⟨hideAll s0.heap ((lexM L page pos []).map (·.1)), env, ["self", "token", "fiter", "ch"], pick (gtab ad) [25], s0, clOf (s0.heap.objs.size + 1) [] []⟩ _ _ (lexM L page (pos' + 1) [] ++ [(m, .obj (rcObj ad L)), (I, .obj (citObj m u0))]) s := H
      refine aName (stL H (i := 3) rfl rfl fun s H => ?_)
      by_cases w1 : way = 1
      · -- quoted
        subst w1
        rw [show partK 1 wd = 34 :: (wd ++ [34]) from rfl, List.cons_append, List.append_assoc] at hd'
        obtain ⟨_, hc, hd2⟩ := drop_head hd'
        rw [hc] at H
        refine x1 (xIf ?_)
        refine tCmp ?_
        refine nL H (i := 3) rfl rfl ?_
        refine eAttr ?_
        refine nL H (i := 0) rfl rfl ?_
        refine gaL H ok (i := 1) rfl (v := fun _ wt => .str (tx [10, 9, 13, 32]) wt) (fun _ _ => rfl) (by simp [clsTab]) tl_whitespace fun _ _ s H => ?_
        refine cInS (tBool ?_)
        refine iteD (fun hq => absurd hq (by decide)) fun _ => x0 ?_
        refine x1 (xIf ?_)
        refine tCmp ?_
        refine nL H (i := 3) rfl rfl ?_
        refine kST [34] H fun t s H => ?_
        refine cEqS (tBool ?_)
        refine iteD (fun _ => ?_) fun hq => absurd rfl hq
        refine x1 (for_it (I := I) (n := wd.length) (fun n s => ∃ done left pos2 chv t2, n = left.length ∧ wd = done ++ left ∧ pos2 ≤ page.length ∧ page.drop pos2 = left ++ ([34] ++ sep :: tail) ∧
          Sg ⟨hideAll s0.heap ((lexM L page pos []).map (·.1)), env, ["self", "token", "fiter", "ch"], pick (gtab ad) [25], s0, clOf (s0.heap.objs.size + 1) [] []⟩ (hideAll s0.heap ((lexM L page pos []).map (·.1))) [some (.ref L.x), some (.str (tx done) t2), some (.ref I), chv] (lexM L page pos2 [] ++ [(m, .obj (rcObj ad L)), (I, .obj (citObj m u0))]) s) ?_ ?_)
        · rintro n s Qt ⟨done, left, pos2, chv, t2, rfl, rfl, hp2, hd2, H⟩ hN hRt
          have hlt2 : pos2 < page.length := by
            rcases Nat.lt_or_ge pos2 page.length with q | q
            · exact q
            · rw [List.drop_of_length_le q] at hd2
              exact absurd (List.append_eq_nil_iff.mp hd2.symm).2 (by simp)
          refine nextCh (pre := [(L.pb, .list []), (m, .obj (rcObj ad L))]) (j := 1) (n := 0) H ok hp2 rfl rm (fun _ u' s H => ?_) (fun hge => absurd hge (by exact zq75 hlt2))
          have H : Sg ⟨hideAll s0.heap ((lexM L page pos []).map (·.1)), env, ["self", "token", "fiter", "ch"], pick (gtab ad) [25], s0, clOf (s0.heap.objs.size + 1) [] []⟩ _ _ (lexM L page (pos2 + 1) [] ++ [(m, .obj (rcObj ad L)), (I, .obj (citObj m u0))]) s := H
          refine aName (stL H (i := 3) rfl rfl fun s H => ?_)
          refine x1 (xIf ?_)
          refine tCmp ?_
          refine nL H (i := 3) rfl rfl ?_
          refine kST [34] H fun t s H => ?_
          refine cEqS (tBool ?_)
          rcases left with _ | ⟨c, left⟩
          · obtain ⟨_, hc, hd3⟩ := drop_head hd2
            rw [hc]
            refine iteD (fun _ => ?_) fun hq => absurd rfl hq
            refine x1 (xRet ?_)
            refine nL H (i := 1) rfl rfl ?_
            refine hRt _ _ (hR0 _ _ ?_)
            refine ret _ _ (lexM L page (pos2 + 1) []) rfl H.keep H.same (H.mt 3) ⟨pos2 + 1, t2, hlt2, rfl, ?_, hd3⟩
            show Value.str (tx done) t2 = Value.str (tx (done ++ [])) t2
            rw [List.append_nil]
          · obtain ⟨_, hc, hd3⟩ := drop_head hd2
            rw [hc] at H ⊢
            have hcw := hwd c (by simp)
            refine iteD (fun hq => absurd (List.cons.inj hq).1 hcw.2.1) fun _ => ?_
            refine x1 (xIf ?_)
            refine tCmp ?_
            refine nL H (i := 3) rfl rfl ?_
            refine kST [92] H fun t s H => ?_
            refine cEqS (tBool ?_)
            refine iteD (fun hq => absurd (List.cons.inj hq).1 hcw.2.2) fun _ => x0 (x0 ?_)
            refine x1 (xAug ?_)
            refine ldN H (i := 1) rfl rfl ?_
            refine nL H (i := 3) rfl rfl ?_
            refine iSAdd H (by rw [List.length_append] at hlen; rw [sizeLine_eq]; simp; exact zq171 hlen) fun t s H => ?_
            refine stL H (i := 1) rfl rfl fun s H => ?_
            exact x0 (hN left.length _ (by simp) ⟨done ++ [c], left, pos2 + 1, _, _, rfl, by simp, hlt2, hd3, H⟩).1
        · refine nL H (i := 2) rfl rfl ?_
          exact itSelf H (i := 4) rfl ⟨rfl, [], wd, pos' + 1, _, _, rfl, rfl, hlt, hd2, H⟩
      · -- bare or escaped
        rcases wd with _ | ⟨c0, w1'⟩
        · exact absurd rfl hne
        have hpk : partK way (c0 :: w1') = (if way = 0 then [c0] else [92, c0]) ++ leftK way w1' := by
          unfold partK leftK
          split
          · rfl
          · first | rfl | (rw [if_neg w1]; rfl)
        rw [hpk, List.append_assoc] at hd'
        have hc0 := hwd c0 (.head _)
        -- if ch in self.whitespace:
        have hcv : page.getD pos' 0 = if way = 0 then c0 else 92 := by
          split at hd'
          · rw [if_pos (by assumption)]; exact (drop_head hd').2.1
          · rw [if_neg (by assumption)]; exact (drop_head hd').2.1
        have hcv1 : page.getD pos' 0 ∉ [10, 9, 13, 32] := by rw [hcv]; split; exact hc0.1; decide
        have hcv2 : page.getD pos' 0 ≠ 34 := by rw [hcv]; split; exact hc0.2.1; decide
        refine x1 (xIf ?_)
        refine tCmp ?_
        refine nL H (i := 3) rfl rfl ?_
        refine eAttr ?_
        refine nL H (i := 0) rfl rfl ?_
        refine gaL H ok (i := 1) rfl (v := fun _ wt => .str (tx [10, 9, 13, 32]) wt) (fun _ _ => rfl) (by simp [clsTab]) tl_whitespace fun _ _ s H => ?_
        refine cInS (tBool ?_)
        refine iteD (fun hq => absurd hq hcv1) fun _ => x0 ?_
        refine x1 (xIf ?_)
        refine tCmp ?_
        refine nL H (i := 3) rfl rfl ?_
        refine kST [34] H fun t s H => ?_
        refine cEqS (tBool ?_)
        refine iteD (fun hq => absurd (List.cons.inj hq).1 hcv2) fun _ => ?_
        -- if ch == '\\': ch = self._read_char()
        refine x1 (W.joinS H (fun vals own => ∃ pos2 u, vals = [some (.ref L.x), some (.str (tx []) t0), some (.ref I), some (.str (tx [c0]) u)] ∧ own = lexM L page pos2 [] ++ [(m, .obj (rcObj ad L)), (I, .obj (citObj m u0))] ∧ pos2 ≤ page.length ∧ page.drop pos2 = leftK way w1' ++ sep :: tail) ?_ ?_)
        · refine xIf ?_
          refine tCmp ?_
          refine nL H (i := 3) rfl rfl ?_
          refine kST [92] H fun t s H => ?_
          refine cEqS (tBool ?_)
          by_cases w0 : way = 0
          · rw [if_pos w0] at hcv hd'
            rw [hcv] at H ⊢
            refine iteD (fun hq => absurd (List.cons.inj hq).1 hc0.2.2) fun _ => x0 ⟨rfl, _, _, ⟨pos' + 1, _, rfl, rfl, hlt, (drop_head hd').2.2⟩, H⟩
          · rw [if_neg w0] at hcv hd'
            rw [hcv] at H ⊢
            refine iteD (fun _ => ?_) fun hq => absurd rfl hq
            refine x1 (xAsg ?_)
            refine eMeth ?_
            refine nL H (i := 0) rfl rfl ?_
            obtain ⟨hlt2, hg2, hd2⟩ := drop_head (drop_head hd').2.2
            refine mRead (rest := [(L.pb, .list []), (m, .obj (rcObj ad L)), (I, .obj (citObj m u0))]) H ok hlt (rm.le (by decide)) fun u s H => ?_
            rw [rdCh_lt hlt2, hg2, nx_lt hlt2] at *
            refine stL H (i := 3) rfl rfl fun s H => ?_
            exact x0 ⟨rfl, _, _, ⟨pos' + 1 + 1, u, rfl, rfl, hlt2, hd2⟩, H⟩
        rintro _ _ s ⟨pos2, u, rfl, rfl, hp2, hd2⟩ H
        refine x1 (xAug ?_)
        refine ldN H (i := 1) rfl rfl ?_
        refine nL H (i := 3) rfl rfl ?_
        refine iSAdd H (by rw [sizeLine_eq]; simp) fun t s H => ?_
        refine stL H (i := 1) rfl rfl fun s H => ?_
        -- for ch in fiter:
        refine x1 (for_it (I := I) (n := w1'.length) (fun n s => ∃ done left pos2 chv t2, n = left.length ∧ c0 :: w1' = done ++ left ∧ pos2 ≤ page.length ∧ page.drop pos2 = leftK way left ++ sep :: tail ∧
          Sg ⟨hideAll s0.heap ((lexM L page pos []).map (·.1)), env, ["self", "token", "fiter", "ch"], pick (gtab ad) [25], s0, clOf (s0.heap.objs.size + 1) [] []⟩ (hideAll s0.heap ((lexM L page pos []).map (·.1))) [some (.ref L.x), some (.str (tx done) t2), some (.ref I), chv] (lexM L page pos2 [] ++ [(m, .obj (rcObj ad L)), (I, .obj (citObj m u0))]) s) ?_ ?_)
        · rintro n s Qt ⟨done, left, pos2, chv, t2, rfl, hwd2, hp2, hd2, H⟩ hN hRt
          have hlt2 : pos2 < page.length := by
            rcases Nat.lt_or_ge pos2 page.length with q | q
            · exact q
            · rw [List.drop_of_length_le q] at hd2
              exact absurd (List.append_eq_nil_iff.mp hd2.symm).2 (by simp)
          refine nextCh (pre := [(L.pb, .list []), (m, .obj (rcObj ad L))]) (j := 1) (n := 0) H ok hp2 rfl rm (fun _ u' s H => ?_) (fun hge => absurd hge (by exact zq75 hlt2))
          have H : Sg ⟨hideAll s0.heap ((lexM L page pos []).map (·.1)), env, ["self", "token", "fiter", "ch"], pick (gtab ad) [25], s0, clOf (s0.heap.objs.size + 1) [] []⟩ _ _ (lexM L page (pos2 + 1) [] ++ [(m, .obj (rcObj ad L)), (I, .obj (citObj m u0))]) s := H
          refine aName (stL H (i := 3) rfl rfl fun s H => ?_)
          refine x1 ?_
          refine xIf ?_
          refine tCmp ?_
          refine nL H (i := 3) rfl rfl ?_
          refine eAttr ?_
          refine nL H (i := 0) rfl rfl ?_
          refine gaL H ok (i := 1) rfl (v := fun _ wt => .str (tx [10, 9, 13, 32]) wt) (fun _ _ => rfl) (by simp [clsTab]) tl_whitespace fun _ _ s H => ?_
          refine cInS (tBool ?_)
          rcases left with _ | ⟨c, left⟩
          · have hd2 : page.drop pos2 = sep :: tail := by
              rw [hd2]; unfold leftK; split <;> rfl
            obtain ⟨_, hc, hd3⟩ := drop_head hd2
            rw [hc]
            refine iteD (fun _ => ?_) fun hq => absurd hsep hq
            refine x1 (xRet ?_)
            refine nL H (i := 1) rfl rfl ?_
            refine hRt _ _ (hR0 _ _ ?_)
            refine ret _ _ (lexM L page (pos2 + 1) []) rfl H.keep H.same (H.mt 3) ⟨pos2 + 1, t2, hlt2, rfl, ?_, ?_⟩
            · show Value.str (tx done) t2 = Value.str (tx (c0 :: w1')) t2
              rw [hwd2, List.append_nil]
            · show _ = if way = 1 then sep :: tail else tail
              rw [if_neg w1]; exact hd3
          · have hcw := hwd c (by rw [hwd2]; simp)
            have hlk : leftK way (c :: left) ++ sep :: tail = (if way = 0 then [c] else [92, c]) ++ (leftK way left ++ sep :: tail) := by
              unfold leftK
              split
              · rfl
              · rfl
            rw [hlk] at hd2
            have hcv : page.getD pos2 0 = if way = 0 then c else 92 := by
              split at hd2
              · rw [if_pos (by assumption)]; exact (drop_head hd2).2.1
              · rw [if_neg (by assumption)]; exact (drop_head hd2).2.1
            have hcv1 : page.getD pos2 0 ∉ [10, 9, 13, 32] := by rw [hcv]; split; exact hcw.1; decide
            refine iteD (fun hq => absurd hq hcv1) fun _ => x1 (W.joinS H (fun vals own => ∃ pos3 u, vals = [some (.ref L.x), some (.str (tx done) t2), some (.ref I), some (.str (tx [c]) u)] ∧ own = lexM L page pos3 [] ++ [(m, .obj (rcObj ad L)), (I, .obj (citObj m u0))] ∧ pos3 ≤ page.length ∧ page.drop pos3 = leftK way left ++ sep :: tail) ?_ ?_)
            · refine xIf ?_
              refine tCmp ?_
              refine nL H (i := 3) rfl rfl ?_
              refine kST [92] H fun t s H => ?_
              refine cEqS (tBool ?_)
              by_cases w0 : way = 0
              · rw [if_pos w0] at hcv hd2
                rw [hcv] at H ⊢
                refine iteD (fun hq => absurd (List.cons.inj hq).1 hcw.2.2) fun _ => x0 ⟨rfl, _, _, ⟨pos2 + 1, _, rfl, rfl, hlt2, (drop_head hd2).2.2⟩, H⟩
              · rw [if_neg w0] at hcv hd2
                rw [hcv] at H ⊢
                refine iteD (fun _ => ?_) fun hq => absurd rfl hq
                refine x1 (xAsg ?_)
                refine eMeth ?_
                refine nL H (i := 0) rfl rfl ?_
                obtain ⟨hlt3, hg2, hd3⟩ := drop_head (drop_head hd2).2.2
                refine mRead (rest := [(L.pb, .list []), (m, .obj (rcObj ad L)), (I, .obj (citObj m u0))]) H ok hlt2 (rm.le (by decide)) fun u s H => ?_
                rw [rdCh_lt hlt3, hg2, nx_lt hlt3] at *
                refine stL H (i := 3) rfl rfl fun s H => ?_
                exact x0 ⟨rfl, _, _, ⟨pos2 + 1 + 1, u, rfl, rfl, hlt3, hd3⟩, H⟩
            rintro _ _ s ⟨pos3, u, rfl, rfl, hp3, hd3⟩ H
            have hl2 : done.length + (left.length + 1) ≤ 10000 := by
              have := congrArg List.length hwd2
              simp only [List.length_append, List.length_cons] at this hlen
              exact zq170 hlen this
            refine x0 (x1 (xAug ?_))
            refine ldN H (i := 1) rfl rfl ?_
            refine nL H (i := 3) rfl rfl ?_
            refine iSAdd H (by rw [sizeLine_eq]; simp; exact zq169 hl2) fun t s H => ?_
            refine stL H (i := 1) rfl rfl fun s H => ?_
            exact x0 (hN left.length _ (by simp) ⟨done ++ [c], left, pos3, _, _, rfl, by rw [hwd2]; simp, hp3, hd3, H⟩).1
        · refine nL H (i := 2) rfl rfl ?_
          exact itSelf H (i := 4) rfl ⟨rfl, [c0], w1', pos2, _, _, rfl, rfl, hp2, hd2, H⟩
    · obtain ⟨hlt, hc, hd2⟩ := drop_head hd'
      refine nextCh (pre := [(L.pb, .list []), (m, .obj (rcObj ad L))]) (j := 1) (n := 0) H ok hp' rfl rm (fun _ u' s H => ?_) (fun hge => absurd hge (by exact zq75 hlt))
      have H : Sg ⟨hideAll s0.heap ((lexM L page pos []).map (·.1)), env, ["self", "token", "fiter", "ch"], pick (gtab ad) [25], s0, clOf (s0.heap.objs.size + 1) [] []⟩ _ _ (lexM L page (pos' + 1) [] ++ [(m, .obj (rcObj ad L)), (I, .obj (citObj m u0))]) s := H
      rw [hc]
      refine aName (stL H (i := 3) rfl rfl fun s H => ?_)
      -- if ch in self.whitespace: continue
      refine x1 (xIf ?_)
      refine tCmp ?_
      refine nL H (i := 3) rfl rfl ?_
      refine eAttr ?_
      refine nL H (i := 0) rfl rfl ?_
      refine gaL H ok (i := 1) rfl (v := fun _ wt => .str (tx [10, 9, 13, 32]) wt) (fun _ _ => rfl) (by simp [clsTab]) tl_whitespace fun _ _ s H => ?_
      refine cInS (tBool ?_)
      refine iteD (fun hq => ?_) fun hq => absurd (hws' c (.head _)) hq
      exact x1 (xCont (hN0 ws'.length _ (by simp) ⟨pos' + 1, ws', _, rfl, hlt, hd2, fun c hc => hws' c (.tail _ hc), H⟩).2)
  · refine nL H (i := 2) rfl rfl ?_
    refine itSelf H (i := 4) rfl ⟨rfl, pos, ws, _, rfl, hp, hd, hws, H⟩
end
end Mine

end

section
open PySem PySem.Spec PySem.Calls PyProof.Rows PySem.W
set_option Elab.async false
set_option linter.all false
set_option maxRecDepth 100000
set_option autoImplicit false
namespace Mine

theorem Room.under {A : Around} {n : Nat} {C : Addr} {vs : List Value} (r : Room A (n + 1)) : Room (A.under (.builtin "type.__call__" ⟨.ref C :: vs, []⟩)) n := by
  obtain ⟨h, d, u⟩ := r
  have e2 : Code.weight (.builtin "type.__call__" ⟨.ref C :: vs, []⟩) = 1 := by kernel_rfl
  refine ⟨h, ?_, ?_⟩
  · show A.depth + Code.weight _ + 2 * n < _
    rw [e2]; exact zq6 d
  · show A.units + 1 + 16 * n < _; exact zq3 u

theorem Sg.addsM {c : Fx} {F : Heap} {vals : List (Option Value)} {own own' : List (Addr × D)} {s s' : Shared} (H : Sg c F vals own s) (H' : Sg c F vals own' s') (em : own'.map (·.1) = own.map (·.1)) {l : List (Addr × D)} (n : NewL s l s'.heap) : Sg c F vals (own' ++ l) s' := by
  refine ⟨H'.ok, H'.ns, H'.sub, H'.keep, H'.hl, fun p hp => ?_, ?_, H'.same⟩
  · rcases List.mem_append.mp hp with hp | hp
    · exact H'.mine p hp
    · obtain ⟨fr, hd⟩ := n.1 p hp
      refine ⟨hd, fun e => ?_, ?_⟩
      · obtain ⟨o, _, _, ho, _⟩ := H.ns
        rw [← e, fr] at ho; cases ho
      · cases q : F.get? p.1 with
        | none => rfl
        | some o => have := H.keep p.1 o q; rw [fr] at this; cases this
  · rw [List.map_append, em]
    refine List.nodup_append.mpr ⟨H.nd, n.2, fun x hx y hy e => ?_⟩
    obtain ⟨p, hp, rfl⟩ := List.mem_map.mp hx
    obtain ⟨q, hq, rfl⟩ := List.mem_map.mp hy
    obtain ⟨o, ho⟩ := (H.mine p hp).1.some
    have := (n.1 q hq).1
    rw [← e, ho] at this; cases this
theorem set_keys {own : List (Addr × D)} {i : Nat} {a : Addr} {d d' : D} (e : own[i]? = some (a, d)) : (own.set i (a, d')).map (·.1) = own.map (·.1) := by
  rw [List.map_set]
  apply List.ext_getElem?
  intro j
  have hlt : i < own.length := (List.getElem?_eq_some_iff.mp e).1
  by_cases hij : i = j
  · subst hij
    rw [List.getElem?_set_self (by simpa using hlt), List.getElem?_map, e]; rfl
  · rw [List.getElem?_set_ne hij]

/-- what defs made in a body want -/
structure MkOk (cc P : Addr) (h : Heap) : Prop where
  code : CodeHd h cc P
  bm : ∃ mg bm ob, h.Ns mainGlobals mg ∧ mg "__builtins__" = some (.ref bm) ∧ bm ≠ builtinsNs ∧ bm ≠ mainGlobals ∧ h.get? bm = some ob ∧ ob.cls = .type "module" ∧ ob.dict = some builtinsNs ∧ ob.data = .plain
theorem MkOk.keeps {cc P : Addr} {h h' : Heap} (k : h.StaysIn h') (x : MkOk cc P h) : MkOk cc P h' :=
  ⟨x.code.keeps k, let ⟨mg, bm, ob, a, b, c, d, e, f⟩ := x.bm; ⟨mg, bm, ob, a.keeps k, b, c, d, k _ _ e, f⟩⟩
noncomputable def CodeO (q : Str) (o : Obj) : Prop := ∃ vs t, o.data = .fields vs ∧ vs[1]? = some (.str q t)

section
variable {prog : Program} {w : World} {A : Around} {c : Fx} {F : Heap} {vals : List (Option Value)} {own : List (Addr × D)} {s : Shared} {cc P : Addr} {ps : Array Value} {i : Nat}

theorem mk_step {qual : Str} (H : Sg c F vals own s) (e : own[i]? = some (P, .obj (tabObj ps)))
    {c' : Addr} {fobj : Obj} {h' : Heap} {tk : Nat} (hx : Heap.ExtBut P s.heap h') (hge : s.heap.objs.size ≤ c') (hlt : c' < h'.objs.size) (hrec : h'.CodeRec (.ref c') qual) {ps' : Array Value} (htb : h'.get? P = some (tabObj ps')) (hfr : fobj.isFreed = false) :
    Sg c F vals (own.set i (P, .obj (tabObj ps')) ++ [(c', .fact (CodeO qual)), (h'.objs.size, .obj fobj)]) { s with heap := h'.push fobj, toks := tk } := by
  have H' : Sg c F vals (own.set i (P, .obj (tabObj ps'))) { s with heap := h'.push fobj, toks := tk } :=
    H.updX e (fun b o hb hbo => Heap.get?_push_of_some _ (hx b o hb hbo)) (Heap.get?_push_of_some _ htb) Same.rfl
  have none_of : ∀ b : Nat, s.heap.objs.size ≤ b → s.heap.get? b = none := fun b hb => Heap.get?_none_of_le hb
  refine H.addsM H' (set_keys e) ⟨fun p hp => ?_, ?_⟩
  · rcases List.mem_cons.mp hp with rfl | hp
    · obtain ⟨c2, oc, vs, t, e1, e2, e3, e4⟩ := hrec
      cases e1
      exact ⟨none_of _ hge, oc, Heap.get?_push_of_some _ e2, vs, t, e3, e4⟩
    · rw [List.mem_singleton] at hp; subst hp
      exact ⟨none_of _ (Nat.le_trans hge (Nat.le_of_lt hlt)), Heap.get?_push_size _ hfr⟩
  · simp only [List.map_cons, List.map_nil, List.nodup_cons, List.mem_singleton, List.not_mem_nil, not_false_eq_true, List.nodup_nil, and_true]
    exact Nat.ne_of_lt hlt

/-- a def made in a body -/
theorem xDef {name : Str} {params : Arguments} {body : List Stmt} {scope : Scope} {pos : Pos} {Q : Flow → Shared → Prop} {fl : List (Str × Addr)} (H : Sg c F vals own s) (ok : MkOk cc P c.G) (hcode : c.env.code = .ref cc) (hge : c.env.globals = mainGlobals)
    (e : own[i]? = some (P, .obj (tabObj ps))) (ht : TriplesOk ps.toList) (hnf : codeAmong pos ps.toList = none) (hcl : ((scope.names.filter fun x => x.2 == NameKind.free).map (·.1)) = fl.map (·.1)) (hfl : ∀ p ∈ fl, c.env.cells.lookup p.1 = some p.2)
    (hd0 : params.defaults = []) (hk0 : params.kw_defaults = []) (ha : annTrees params none c.env = [])
    (h : ∀ (f c' : Addr) qual doc pm ctv ps' s', Sg c F vals (own.set i (P, .obj (tabObj ps')) ++ [(c', .fact (CodeO qual)), (f, .obj (fnMade name qual params body scope fl.reverse doc pm c' ctv))]) s' →
      ps' = ps ++ #[rawInt pos.line, rawInt pos.col, .ref c'] → W prog w A (storeName c.env name (.ref f)) (fun _ => Q .next) s') :
    W prog w A (exec (.FunctionDef name params body [] none [] scope none name pos) c.env) Q s := by
  have ok' := ok.keeps H.ground
  obtain ⟨mg, bm, ob, g, b1, b2, b3, b4, b5, b6, b7⟩ := ok'.bm
  have hP := H.at e
  have hgP : mainGlobals ≠ P := fun q => by
    obtain ⟨o, es, ep, e', hd, _⟩ := g
    rw [q, hP] at e'; cases e'; cases hd
  have hbP : bm ≠ P := fun q => by
    rw [q, hP] at b4; cases b4; cases b5
  refine ⟨nestDef_K hd0 hk0 ha (makeFunction_K (closureFor_ok hcl hfl) hge g hcode ok'.code hP ht hnf hgP ⟨bm, ob, b1, b2, b3, hbP, b4, b5, b6, b7⟩ fun c' ctv doc h' tk hx hge' hlt hrec htb => ?_)⟩
  exact (h _ c' _ doc _ ctv _ _ (mk_step H e hx hge' hlt hrec htb rfl) rfl).out

/-- a lambda made in a body -/
theorem eLam {params : Arguments} {body : PySem.Expr} {scope : Scope} {pos : Pos} {Q : Value → Shared → Prop} {fl : List (Str × Addr)} (H : Sg c F vals own s) (ok : MkOk cc P c.G) (hcode : c.env.code = .ref cc) (hge : c.env.globals = mainGlobals)
    (e : own[i]? = some (P, .obj (tabObj ps))) (ht : TriplesOk ps.toList) (hnf : codeAmong pos ps.toList = none) (hcl : ((scope.names.filter fun x => x.2 == NameKind.free).map (·.1)) = fl.map (·.1)) (hfl : ∀ p ∈ fl, c.env.cells.lookup p.1 = some p.2)
    (hdef : defaultsOf params c.env = ([], []))
    (h : ∀ (f c' : Addr) qual lo ps' s', lo.cls = .type "function" → lo.dict = none → (∀ c, lo.data ≠ .cls c) → Sg c F vals (own.set i (P, .obj (tabObj ps')) ++ [(c', .fact (CodeO qual)), (f, .obj lo)]) s' → Q (.ref f) s') :
    W prog w A (eval (.Lambda params body scope pos) c.env) Q s := by
  have ok' := ok.keeps H.ground
  obtain ⟨mg, bm, ob, g, b1, b2, b3, b4, b5, b6, b7⟩ := ok'.bm
  have hP := H.at e
  have hgP : mainGlobals ≠ P := fun q => by
    obtain ⟨o, es, ep, e', hd, _⟩ := g
    rw [q, hP] at e'; cases e'; cases hd
  have hbP : bm ≠ P := fun q => by
    rw [q, hP] at b4; cases b4; cases b5
  refine ⟨kla_eval hdef (kla_makeFunction (closureFor_ok hcl hfl) hge g hcode ok'.code hP ht hnf hgP ⟨bm, ob, b1, b2, b3, hbP, b4, b5, b6, b7⟩ fun c' ctv h' tk hx hge' hlt hrec htb => ?_)⟩
  exact h _ c' _ (kla_obj "<lambda>" _ params body scope fl.reverse ((mg "__name__").getD .none) c' ctv) _ _ rfl rfl (by intro _ e; cases e) (mk_step H e hx hge' hlt hrec htb rfl)

/-- f.read = v -/
theorem saRead {f : Addr} {o : Obj} {v : Value} {Q : Unit → Shared → Prop} (H : Sg c F vals own s) (e : own[i]? = some (f, .obj o)) (hc : o.cls = .type "function") (hd : o.dict = none) (hnc : ∀ c, o.data ≠ .cls c)
    (h : ∀ sd s', Sg c F vals (own.set i (f, .obj { o with dict := some sd }) ++ [(sd, .fact (NsO fun y => if y = Str.ofString "read" then some v else none))]) s' → Q () s') : W prog w A (setAttr (.ref f) "read" v) Q s := by
  have ho := H.at e
  have up : ∀ h' tk', h'.get? f = some { o with dict := some s.heap.objs.size } → h'.Ns s.heap.objs.size (fun y => if y = Str.ofString "read" then some v else none) → (∀ b ob, b ≠ f → s.heap.get? b = some ob → h'.get? b = some ob) →
      Sg c F vals (own.set i (f, .obj { o with dict := some s.heap.objs.size }) ++ [(s.heap.objs.size, .fact (NsO fun y => if y = Str.ofString "read" then some v else none))]) { s with heap := h', toks := tk' } := by
    intro h' tk' a1 a2 a3
    have H' : Sg c F vals (own.set i (f, .obj { o with dict := some s.heap.objs.size })) { s with heap := h', toks := tk' } := H.updX e a3 a1 Same.rfl
    exact H.addM H' (set_keys e) fresh_size (nsO.mpr a2)
  obtain ⟨hp, g, d, t, os⟩ := s
  exact ⟨fn_store ho hc hd hnc fun h' tk' a1 a2 a3 => h _ _ (up h' tk' a1 a2 a3)⟩

/-- a class called by its name -/
theorem cwC {ad : Ads} {G : Heap} {e : PySem.Expr} {rest : List PySem.Expr} {pos : Pos} {env : Env} {Q : Value → Shared → Prop} (ok : ClsOk ad G)
    (h : W prog w A (spliced (backTo pos (starEach (e :: rest) env))) (fun vs s₁ => G.StaysIn s₁.heap ∧ W prog w A (call (.ref ad.cls) vs) Q s₁) s)
    (he : starEach (e :: rest) env = (false, eval e env) :: starEach rest env := by rfl) (hplain : (backTo pos (starEach rest env)).any (·.1) = false := by rfl) :
    W prog w A (callWith pos (.ref ad.cls) [] (backTo pos (starEach (e :: rest) env)) []) Q s := by
  obtain ⟨N, mN, X, _⟩ := ok
  exact ⟨PyProof.Rows.callWith_cls X (h.any fun vs s₁ h₁ => ⟨h₁.1, h₁.2.out⟩) he hplain⟩
end
end Mine

end

section
open PySem PySem.Spec PySem.Calls PyProof.Rows PySem.W
set_option Elab.async false
set_option linter.all false
set_option maxRecDepth 100000
set_option autoImplicit false
namespace Mine

theorem Sg.newM {c : Fx} {F : Heap} {vals : List (Option Value)} {s : Shared} {mt mt' rest : List (Addr × D)} (H : Sg c F vals (mt' ++ rest) s) (hF : F = hideAll c.s0.heap (mt.map (·.1))) (em : mt'.map (·.1) = mt.map (·.1)) : NewL c.s0 rest s.heap := by
  have hnd := H.nd
  rw [List.map_append] at hnd
  refine ⟨fun p hp => ?_, (List.nodup_append.mp hnd).2.1⟩
  have m := H.mine p (List.mem_append_right _ hp)
  refine ⟨?_, m.1⟩
  cases q : c.s0.heap.get? p.1 with
  | none => rfl
  | some o =>
    have := m.2.2
    rw [hF, hideAll_get _ q fun hm => ?_] at this
    · cases this
    · rw [← em] at hm
      exact (List.nodup_append.mp hnd).2.2 p.1 hm p.1 (List.mem_map_of_mem hp) rfl

/-- what the lexer stands on, that no call changes -/
noncomputable def lexI (ad : Ads) (L : LexA) (page : List Nat) (tp : Tok) (c2 : Addr) (q : Str) (doc pm ctv : Value) (so : Obj) : List (Addr × D) :=
  [(L.x, .fact (InO ad.cls L.dx)), (L.cp, .cell (some (.str (tx page) tp))), (L.ca, .cell (some (.ref L.al))), (c2, .fact (CodeO q)),
   (L.fr, .obj (fnMade "_law_read_on" q (dArgs rdStm) (dBody rdStm) (dScope rdStm) [("page", L.cp), ("at", L.ca)] doc pm c2 ctv)), (L.st, .obj so), (L.sd, .fact (NsO fun y => if y = Str.ofString "read" then some (.ref L.fr) else none))]
noncomputable def Imm (ad : Ads) (L : LexA) (page : List Nat) (l : List (Addr × D)) : Prop := ∃ tp c2 q doc pm ctv so, StO L.sd so ∧ l = lexI ad L page tp c2 q doc pm ctv so

section
variable {prog : Program} {w : World} {A : Around} {c : Fx} {F : Heap} {vals : List (Option Value)} {own : List (Addr × D)} {s : Shared} {ad : Ads} {L : LexA} {page : List Nat} {pos : Nat}
theorem LexOk.of {pbs : List Value} {l rest : List (Addr × D)} (H : Sg c F vals (lexM L page pos pbs ++ (l ++ rest)) s) (im : Imm ad L page l) (hb : Base ad c.G) (hc : ClsOk ad c.G) (hz : page.length ≤ 1000000) : LexOk ad L page (hideAll s.heap ((lexM L page pos pbs).map (·.1))) := by
  obtain ⟨tp, c2, q, doc, pm, ctv, so, hso, rfl⟩ := im
  have g := Sg.ground' H
  refine ⟨⟨hb.keeps g, ?_, ⟨tp, H.atM rfl (i := 1) rfl⟩, H.atM rfl (i := 2) rfl, hz⟩, H.atM rfl (i := 0) rfl, ?_, ⟨so, _, H.atM rfl (i := 5) rfl, hso, nsO.mp (H.atM rfl (i := 6) rfl), if_pos rfl⟩, hc.keeps g⟩
  · obtain ⟨o, ho, vs, t, hd, hv⟩ := H.atM rfl (i := 3) rfl
    exact ⟨_, "_law_read_on", q, doc, pm, none, .ref c2, ctv, H.atM rfl (i := 4) rfl, rfl, rfl, c2, o, vs, t, rfl, ho, hd, hv⟩
  · intro e
    have := H.nd
    simp only [lexI, lexM, List.cons_append, List.nil_append, List.map_cons, List.nodup_cons, List.mem_cons] at this
    exact this.2.1 (.inr (.inl e))
end

theorem ne_str {a b : String} (h : (Str.ofString a == Str.ofString b) = false := by decide +kernel) : Str.ofString a ≠ Str.ofString b := beq_eq_false_iff_ne.mp h
theorem lexF_made (L : LexA) (t wt : Tok) : (fun y : Str => if y = "pushback" then some (Value.ref L.pb) else if y = "whitespace" then some (.str (tx [10, 9, 13, 32]) wt) else if y = "instream" then some (.ref L.st) else if y = "lineno" then some (.int 1 t) else none) = lexF L 1 t wt := by
  funext y
  unfold lexF
  by_cases h1 : y = "lineno"
  · subst h1; rfl
  by_cases h2 : y = "instream"
  · subst h2; rfl
  by_cases h3 : y = "whitespace"
  · subst h3; rfl
  by_cases h4 : y = "pushback"
  · subst h4; rfl
  simp only [if_neg h1, if_neg h2, if_neg h3, if_neg h4]

section
variable {prog : Program} {w : World} {s0 : Shared} {ad : Ads} {t : Tok}
theorem init_ok {x dx st : Addr} (L0 : LexA) (hb : Base ad (hideAll s0.heap [dx])) (hc : ClsOk ad (hideAll s0.heap [dx])) (hi : D.At (hideAll s0.heap [dx]) x (.fact (InO ad.cls dx))) (ne : dx ≠ x) (hm : MtOk s0.heap [(dx, .fact (NsDO fun _ => none))]) :
    CtM prog w 1 (.ref (ad.fn 16)) [.ref x, .ref st] s0 [(dx, .fact (NsDO fun _ => none))] (fun v mt' h' => v = .none ∧ ∃ pb, s0.heap.get? pb = none ∧ D.At h' pb (.list []) ∧ mt' = [(dx, .fact (LexDO { L0 with st := st, pb := pb } 1))]) := by
  intro A Q rm ret
  refine call_fnM (pn := ["self", "fp"]) (names := ["self", "fp"]) (cn := []) (closure := []) (gl := []) [(dx, .fact (NsDO fun _ => none))] rfl hm.at_ hm.nd ((hb.fn 16 rfl).keeps fun b o e => of_hideAll _ e) hb.lim rm (by intros _ _ _ _ _ _ _ _ _ _; rfl) (by kernel_rfl) (by decide +kernel) (hb.glob.pick []) fun env s _ H rm => ?_
  refine b1 (stL H (i := 0) rfl rfl fun s H => b1 (stL H (i := 1) rfl rfl fun s H => b0 ⟨H.keep, ?_⟩))
  have w0 := PySem.Within.nil
  -- self.lineno = 1
  refine x1 (xAttr ?_)
  refine kI H fun t1 s H => ?_
  refine nL H (i := 0) rfl rfl ?_
  have w1 := PySem.Within.cons "lineno" (.int 1 t1) w0
  refine saI H (hc.keeps H.ground) (H.gr hi) (i := 0) rfl ne w0 (by decide) (by simp [clsTab]) tl_lineno fun s H => ?_
  -- self.instream = fp
  refine x1 (xAttr ?_)
  refine nL H (i := 1) rfl rfl ?_
  refine nL H (i := 0) rfl rfl ?_
  have w2 := PySem.Within.cons "instream" (.ref st) w1
  refine saI H (hc.keeps H.ground) (H.gr hi) (i := 0) rfl ne w1 (by decide) (by simp [clsTab]) tl_instream fun s H => ?_
  -- self.whitespace = ..
  refine x1 (xAttr ?_)
  refine kST [10, 9, 13, 32] H fun t2 s H => ?_
  refine nL H (i := 0) rfl rfl ?_
  have w3 := PySem.Within.cons "whitespace" (.str (tx [10, 9, 13, 32]) t2) w2
  refine saI H (hc.keeps H.ground) (H.gr hi) (i := 0) rfl ne w2 (by decide) (by simp [clsTab]) tl_whitespace fun s H => ?_
  -- self.pushback = []
  refine x1 (xAttr ?_)
  refine eList (sp0 ?_)
  refine mkList H fun pb s H => ?_
  refine nL H (i := 0) rfl rfl ?_
  refine saI H (hc.keeps H.ground) (H.gr hi) (i := 0) rfl ne w3 (by decide) (by simp [clsTab]) tl_pushback fun s H => ?_
  have hd := H.at (i := 0) rfl
  have em := lexF_made { L0 with st := st, pb := pb } t1 t2
  have nw := H.newM (mt := [(dx, .fact (NsDO fun _ => none))]) (mt' := [_]) rfl rfl
  refine x0 (ret _ _ [(dx, .fact (LexDO { L0 with st := st, pb := pb } 1))] rfl H.keep H.same (fun p hp => ?_) ⟨rfl, pb, (nw.1 (pb, .list []) (by simp)).1, H.at (i := 1) rfl, rfl⟩)
  rw [List.mem_singleton] at hp
  subst hp
  obtain ⟨o, ho, hd⟩ := hd
  exact ⟨o, ho, t1, t2, by rw [← em]; exact hd⟩
end
end Mine

end

section
open PySem PySem.Spec PySem.Calls PyProof.Rows PySem.W
set_option Elab.async false
set_option linter.all false
set_option maxRecDepth 100000
set_option autoImplicit false
set_option maxHeartbeats 400000
namespace Mine

section
variable {prog : Program} {w : World} {A : Around} {c : Fx} {F : Heap} {vals : List (Option Value)} {own : List (Addr × D)} {s : Shared} {ad : Ads}

/-- _netrclex(stream) -/
theorem cNew {st : Addr} {Q : Value → Shared → Prop} (L0 : LexA) (H : Sg c F vals own s) (hb : Base ad c.G) (hc : ClsOk ad c.G) (r : Room A 2)
    (h : ∀ x dx pb s', Sg c F vals ((dx, .fact (LexDO { L0 with st := st, pb := pb } 1)) :: (own ++ [(x, .fact (InO ad.cls dx)), (pb, .list [])])) s' → Q (.ref x) s') : W prog w A (call (.ref ad.cls) [.ref st]) Q s := by
  obtain ⟨N, mN, X, hmN⟩ := hc.keeps H.ground
  obtain ⟨nm, q, bs, sn, sub, col, dd, k0, k1, k2, k3, k5, hC⟩ := X.obj
  obtain ⟨of, hfo, hfc⟩ := (hb.keeps H.ground).fnCls 16 rfl
  have go : ∀ h' x dx, Heap.MadeObjFk s.heap h' x dx ad.cls → W prog w (A.under (.builtin "type.__call__" ⟨.ref ad.cls :: [.ref st], []⟩)) (call (.ref (ad.fn 16)) [.ref x, .ref st]) (fun r s' => r = .none ∧ Q (.ref x) s') { s with heap := h' } := by
    intro h' x dx m
    have H1 : Sg c F vals own { s with heap := h' } := H.grow (s' := { s with heap := h' }) m.keeps Same.rfl
    obtain ⟨o, ho, e1, e2, e3⟩ := m.inst
    have hdx := m.dict o ho
    have hx' : D.At h' x (.fact (InO ad.cls dx)) := ⟨o, ho, e1, hdx, e2⟩
    have ⟨hne, hd'⟩ : dx ≠ x ∧ D.At h' dx (.fact (NsDO fun _ => none)) := by
      rcases e3 with ⟨hn0, _⟩ | ⟨d', hd', hne, hns', hex'⟩
      · rw [hdx] at hn0; cases hn0
      · rw [hdx] at hd'; cases hd'
        exact ⟨hne, nsD2 hns' hex'⟩
    have H2 : Sg c F vals (own ++ [(dx, .fact (NsDO fun _ => none)), (x, .fact (InO ad.cls dx))]) { s with heap := h' } := by
      refine H.addsM H1 rfl ⟨fun p hp => ?_, ?_⟩
      · rcases List.mem_cons.mp hp with rfl | hp
        · exact ⟨m.newD, hd'⟩
        · rw [List.mem_singleton] at hp; subst hp
          exact ⟨m.newX, hx'⟩
      · simp only [List.map_cons, List.map_nil, List.nodup_cons, List.mem_singleton, List.not_mem_nil, not_false_eq_true, List.nodup_nil, and_true]
        exact hne
    have H3 : Sg c F vals ([(dx, .fact (NsDO fun _ => none))] ++ ((x, .fact (InO ad.cls dx)) :: own)) { s with heap := h' } := by
      refine H2.perm ?_
      exact (List.perm_append_comm (l₁ := own) (l₂ := [(dx, D.fact (NsDO fun _ => none)), (x, D.fact (InO ad.cls dx))]))
    have g := Sg.ground' H3
    refine (init_ok L0 (hb.keeps g) (hc.keeps g) (H3.atM rfl (i := 0) rfl) hne H3.mtOk).use H3 (r.under.le (by decide)) fun v s' mt' em H4 hst hP => ?_
    obtain ⟨rfl, pb, fr, hpb, rfl⟩ := hP
    refine ⟨rfl, h x dx pb s' ?_⟩
    have H5 := H3.addM H4 rfl fr hpb
    refine H5.perm ?_
    show List.Perm ((dx, _) :: ((x, _) :: own) ++ [(pb, _)]) _
    refine .cons _ ?_
    show List.Perm ((x, D.fact (InO ad.cls dx)) :: (own ++ [(pb, D.list [])])) _
    exact List.perm_middle.symm
  obtain ⟨hp, g, d, t, os⟩ := s
  exact ⟨wpAny_call_obj_initFk PySem.F.objNew hC X.ns (hmN ("__init__", some (.ref (ad.fn 16))) (by simp [clsTab])) hfo hfc fun h' x dx m => (go h' x dx m).out⟩
end

noncomputable def nth {α : Type} : List α → Nat → α → α
  | [], _, d => d
  | a :: _, 0, _ => a
  | _ :: l, n + 1, d => nth l n d
theorem nth_eq {α : Type} : ∀ (l : List α) (i : Nat) (d : α), nth l i d = l.getD i d
  | [], _, _ => rfl
  | _ :: _, 0, _ => rfl
  | _ :: l, n + 1, d => by rw [nth, nth_eq l n d]; rfl
/-- owned objects, in an order of one's own, or fewer -/
theorem Sg.pick {c : Fx} {F : Heap} {vals : List (Option Value)} {own : List (Addr × D)} {s : Shared} (H : Sg c F vals own s) (n : Nat) (is : List Nat) (e : own.length = n) (h : (is.all (· < n) && decide is.Nodup) = true) :
    Sg c F vals (is.map fun i => nth own i (0, .list [])) s := by
  simp only [nth_eq]
  rw [Bool.and_eq_true, List.all_eq_true, decide_eq_true_eq] at h
  have hlt : ∀ i ∈ is, i < own.length := fun i hi => by
    have := h.1 i hi
    rw [decide_eq_true_eq] at this
    exact zq173 e this
  have hg : ∀ i, i < own.length → own[i]? = some (own.getD i (0, .list [])) := fun i hi => by
    rw [List.getD_eq_getElem?_getD, List.getElem?_eq_getElem hi]; rfl
  refine ⟨H.ok, H.ns, H.sub, H.keep, H.hl, fun p hp => ?_, ?_, H.same⟩
  · obtain ⟨i, hi, rfl⟩ := List.mem_map.mp hp
    exact H.mine _ (List.mem_of_getElem? (hg i (hlt i hi)))
  · rw [List.map_map, List.nodup_iff_pairwise_ne, List.pairwise_map]
    refine (List.nodup_iff_pairwise_ne.mp h.2).imp_of_mem fun {i j} hi hj hne q => hne ?_
    have h1 : (own.map (·.1))[i]? = some (own.getD i (0, .list [])).1 := by rw [List.getElem?_map, hg i (hlt i hi)]; rfl
    have h2 : (own.map (·.1))[j]? = some (own.getD j (0, .list [])).1 := by rw [List.getElem?_map, hg j (hlt j hj)]; rfl
    have q : (own.getD i (0, D.list [])).1 = (own.getD j (0, D.list [])).1 := q
    rw [← q] at h2
    exact (List.getElem?_inj (by rw [List.length_map]; exact hlt i hi) H.nd).mp (h1.trans h2.symm)

section
variable {prog : Program} {w : World} {s0 : Shared} {ad : Ads} {tg : Tok} {cc P : Addr} {page : List Nat}
theorem lexer_ok (hb : Base ad (hideAll s0.heap [P])) (hc : ClsOk ad (hideAll s0.heap [P])) (mk : MkOk cc P (hideAll s0.heap [P])) (hcd : CodeIs s0.heap (ad.fn 15) (.ref cc)) (hm : MtOk s0.heap [(P, .obj (tabObj #[]))]) (hz : page.length ≤ 1000000) :
    CtM prog w 3 (.ref (ad.fn 15)) [.str (tx page) tg] s0 [(P, .obj (tabObj #[]))] (fun v mt' h' => ∃ L l ps, v = .ref L.x ∧ mt' = [(P, .obj (tabObj ps))] ∧ Imm ad L page l ∧ NewL s0 (lexM L page 0 [] ++ l) h') := by
  intro A Q rm ret
  refine ⟨wpAny_call (call_fnMX (Q := Q) (pn := ["page"]) (names := ["_law_read_on", "stream"]) (cn := ["page", "at"]) (closure := []) [(P, .obj (tabObj #[]))] rfl hm.at_ hm.nd ((hb.fn 15 rfl).keeps fun b o e => of_hideAll _ e) hb.lim rm (by intros _ _ _ _ _ _ _ _ _ _; rfl) (by kernel_rfl) (by decide +kernel) (hb.glob.pick [18]) fun env s _ he H rm => ?_)⟩
  have hcode := he.2.2 _ hcd
  refine b1 (stC H (i := 1) (j := 0) rfl rfl fun s H => b0 ⟨H.keep, ?_⟩)
  -- at = [0]
  refine x1 (xAsg ?_)
  refine eList (sp1 ?_)
  refine kI H fun t s H => ?_
  refine sp0 ?_
  refine mkInts H (.cons _ _ .nil) fun al s H => ?_
  refine stC H (i := 2) (j := 1) rfl rfl fun s H => ?_
  -- def _law_read_on(size):
  have l0 := (H.ok.cell _ (.head _)).2.2.1
  have l1 := (H.ok.cell _ (.tail _ (.head _))).2.2.1
  have X := fun name params body scope pos Q => @xDef prog w (A.deeper env) _ _ _ _ _ cc P #[] 0 name params body scope pos Q [("at", s0.heap.objs.size + 1 + 1), ("page", s0.heap.objs.size + 1)] H mk hcode he.1 rfl
  refine x1 (X _ _ _ _ _ _ trivial rfl (by kernel_rfl) (fun p hp => ?_) rfl rfl rfl fun f1 c1 q1 doc1 pm1 ctv1 ps1 s H hps => ?_)
  · rcases List.mem_cons.mp hp with rfl | hp
    · exact l1
    · rw [List.mem_singleton] at hp; subst hp; exact l0
  refine stL H (i := 0) rfl rfl fun s H => ?_
  -- stream = lambda: None
  refine x1 (xAsg ?_)
  have X := fun params body scope pos Q => @eLam prog w (A.deeper env) _ _ _ _ _ cc P ps1 0 params body scope pos Q [] H mk hcode he.1 rfl
  refine X _ _ _ _ _ (by subst hps; exact trivial) (by subst hps; rfl) (by kernel_rfl) (fun p hp => nomatch hp) rfl fun f2 c2 q2 lo ps2 s lo1 lo2 lo3 H => ?_
  refine stL H (i := 1) rfl rfl fun s H => ?_
  -- stream.read = _law_read_on
  refine x1 (xAttr ?_)
  refine nL H (i := 0) rfl rfl ?_
  refine nL H (i := 1) rfl rfl ?_
  refine saRead H (i := 7) rfl lo1 lo2 lo3 fun sd s H => ?_
  -- return _netrclex(stream)
  refine x1 (xRet ?_)
  refine eCall ?_
  refine nG H (j := 0) rfl ?_
  refine cwC hc (sp1 ?_)
  refine nL H (i := 1) rfl rfl ?_
  refine sp0 ⟨H.ground, ?_⟩
  refine cNew ⟨0, 0, 0, al, f1, f2, sd, s0.heap.objs.size + 1, s0.heap.objs.size + 1 + 1⟩ H hb hc rm fun x dx pb s H => ?_
  have H2 := H.pick 12 [1, 4, 0, 11, 10, 2, 3, 5, 6, 8, 9] rfl (by decide)
  have nw := (Sg.newM (mt := [(P, .obj (tabObj #[]))]) (mt' := [(P, .obj (tabObj ps2))]) H2 rfl rfl)
  refine ret _ _ [(P, .obj (tabObj ps2))] rfl H.keep H.same (fun p hp => ?_) ⟨⟨x, dx, pb, al, f1, f2, sd, s0.heap.objs.size + 1, s0.heap.objs.size + 1 + 1⟩, _, ps2, rfl, rfl, ⟨tg, c1, q1, doc1, pm1, ctv1, { lo with dict := some sd }, ⟨lo1, rfl, lo3⟩, rfl⟩, nw⟩
  rw [List.mem_singleton] at hp; subst hp
  exact H2.at (i := 0) rfl
end
end Mine

end

section
open PySem PySem.Spec PySem.Calls PyProof.Rows PySem.W
set_option Elab.async false
set_option linter.all false
set_option maxRecDepth 100000
set_option autoImplicit false
namespace Mine

theorem pick_any (vs : Array Value) (lo hi : Option Int) : slicePick vs lo hi none = slicePick vs (some (lo.elim 0 (clipAt vs.size) : Nat)) (some (hi.elim vs.size (clipAt vs.size) : Nat)) none := by
  have h1 : clipAt vs.size ((lo.elim 0 (clipAt vs.size) : Nat) : Int) = lo.elim 0 (clipAt vs.size) := by
    rw [clipAt_nat]
    cases lo with
    | none => exact Nat.zero_min _
    | some x =>
      show min (clipAt vs.size x) vs.size = clipAt vs.size x
      unfold clipAt; exact zq198
  have h2 : clipAt vs.size ((hi.elim vs.size (clipAt vs.size) : Nat) : Int) = hi.elim vs.size (clipAt vs.size) := by
    rw [clipAt_nat]
    cases hi with
    | none => exact Nat.min_self _
    | some x =>
      show min (clipAt vs.size x) vs.size = clipAt vs.size x
      unfold clipAt; exact zq198
  unfold slicePick
  rw [sliceBounds_plain, sliceBounds_plain]
  simp only [Option.elim_some, h1, h2]
noncomputable def cutK (l : List Int) (lo hi : Option Int) : List Int := (l.drop (lo.elim 0 (clipAt l.length))).take (hi.elim l.length (clipAt l.length) - lo.elim 0 (clipAt l.length))
theorem clip_le (n : Nat) (o : Option Int) (d : Nat) (h : d ≤ n) : o.elim d (clipAt n) ≤ n := by
  cases o with
  | none => exact h
  | some x => show clipAt n x ≤ n; unfold clipAt; exact zq197
theorem ints_cut {vs : List Value} {ns : List Int} (hi : IntsAre vs ns) (lo hi' : Option Int) : IntsAre (slicePick vs.toArray lo hi' none).toList (cutK ns lo hi') := by
  rw [pick_any, List.size_toArray, hi.length]
  have h := slice_ints_plain hi ((lo.elim 0 (clipAt ns.length) : Nat) : Int) ((hi'.elim ns.length (clipAt ns.length) : Nat) : Int)
  have e1 : clipAt ns.length ((lo.elim 0 (clipAt ns.length) : Nat) : Int) = lo.elim 0 (clipAt ns.length) := by
    rw [clipAt_nat]; exact Nat.min_eq_left (clip_le _ _ _ (Nat.zero_le _))
  have e2 : clipAt ns.length ((hi'.elim ns.length (clipAt ns.length) : Nat) : Int) = hi'.elim ns.length (clipAt ns.length) := by
    rw [clipAt_nat]; exact Nat.min_eq_left (clip_le _ _ _ (Nat.le_refl _))
  rw [e1, e2] at h
  exact h

section
variable {prog : Program} {w : World} {A : Around} {c : Fx} {F : Heap} {vals : List (Option Value)} {own : List (Addr × D)} {s : Shared} {Q : Value → Shared → Prop}
/-- a part of a list of ints -/
theorem subISl {value slice : PySem.Expr} {a r : Addr} {ns : List Int} {vl vu : Value} {lo hi : Option Int} (H : Sg c F vals own s) (hl : D.At s.heap a (.ints ns)) (hsl : s.heap.IsSliceOf r vl vu .none) (pl : IsPart vl lo) (pu : IsPart vu hi) (hz : ns.length ≤ 1000000)
    (h : ∀ q s', Sg c F vals (own ++ [(q, .ints (cutK ns lo hi))]) s' → Q (.ref q) s')
    (hs : subscripted slice false (.ref a) (.ref r) = operate [.ref r, .ref a] (getItem (.ref a) (.ref r)) := by rfl)
    (ht : ∀ q, letTemporaryGo value (.ref a) q = pure () := by intro _; rfl) : W prog w A (subscriptTail value slice (.ref a) (.ref r)) Q s := by
  obtain ⟨vs, e, i⟩ := D.isI hl
  refine ⟨subscriptTail_ops e.typeIs list_getitem_lookup (wpAny_getItem_list_slice e hsl pl pu .none (by simp) ?_ (by rw [List.size_toArray, i.length, sizeLine_eq]; exact zq161 hz)) hs ht⟩
  refine h _ _ (H.add (H.heap (t := s.toks) push_get) fresh_size ⟨(slicePick vs.toArray lo hi none).toList, 0, ?_, ints_cut i lo hi⟩)
  exact Heap.get?_push_size _ rfl

/-- the newest owned object goes behind the first n -/
theorem Sg.tuck (n : Nat) {x : Addr × D} (H : Sg c F vals (own ++ [x]) s) : Sg c F vals (own.take n ++ x :: own.drop n) s := by
  refine H.perm ?_
  have e : own = own.take n ++ own.drop n := (List.take_append_drop n own).symm
  conv => lhs; rw [e]
  rw [List.append_assoc]
  exact (List.perm_append_comm (l₁ := own.drop n) (l₂ := [x])).append_left _
/-- of the first n owned objects those that is says, the others as they are -/
theorem Sg.pickN (H : Sg c F vals own s) (n : Nat) (is : List Nat) (e : n ≤ own.length) (h : (is.all (· < n) && decide is.Nodup) = true) : Sg c F vals ((is.map fun i => nth own i (0, .list [])) ++ own.drop n) s := by
  simp only [nth_eq]
  have h' := h
  rw [Bool.and_eq_true, List.all_eq_true, decide_eq_true_eq] at h'
  have hlt : ∀ i ∈ is, i < n := fun i hi => by
    have := h'.1 i hi
    rw [decide_eq_true_eq] at this
    exact this
  have K := H.pick own.length (is ++ List.range' n (own.length - n)) rfl (by
    rw [Bool.and_eq_true, List.all_eq_true, decide_eq_true_eq]
    refine ⟨fun i hi => ?_, List.nodup_append.mpr ⟨h'.2, List.nodup_range', fun i hi j hj e => ?_⟩⟩
    · rw [decide_eq_true_eq]
      rcases List.mem_append.mp hi with hi | hi
      · have := hlt i hi; exact zq196 e this
      · have := List.mem_range'_1.mp hi; exact zq195 this
    · have h1 := hlt i hi
      have h2 := List.mem_range'_1.mp hj
      exact zq194 e h1 h2)
  simp only [nth_eq] at K
  rw [List.map_append] at K
  have e2 : (List.range' n (own.length - n)).map (fun i => own.getD i (0, .list [])) = own.drop n := by
    apply List.ext_getElem?
    intro i
    rw [List.getElem?_map, List.getElem?_drop]
    by_cases hi : i < own.length - n
    · rw [List.getElem?_range' hi, Option.map_some, List.getD_eq_getElem?_getD, Nat.one_mul, List.getElem?_eq_getElem (show n + i < own.length by exact zq193 hi)]; rfl
    · rw [List.getElem?_eq_none (by rw [List.length_range']; exact zq192 hi), List.getElem?_eq_none (by exact zq191 hi)]; rfl
  rw [e2] at K
  exact K
end

/-! the characteristic polynomials of the corners -/
noncomputable def colV (B : List (List Int)) (n : Nat) : Nat → List Int
  | 0 => (List.range n).map fun i => (B.getD i []).getD n 0
  | t + 1 => (List.range n).map fun i => dotK (B.getD i []) (colV B n t) n
noncomputable def serV (B : List (List Int)) (n t : Nat) : List Int := 1 :: -((B.getD n []).getD n 0) :: (List.range t).map fun j => -(dotK (B.getD n []) (colV B n j) n)
noncomputable def ser1 (ser : List Int) (i m : Nat) : List Int := (List.range m).map fun k => ser.getD (i - k) 0
noncomputable def rowNext (row ser : List Int) (m : Nat) : List Int := (List.range m).map fun i => dotK (row.take (i + 1)) (ser1 ser i (row.take (i + 1)).length) (row.take (i + 1)).length
noncomputable def rowV (B : List (List Int)) : Nat → List Int
  | 0 => [1]
  | n + 1 => rowNext (rowV B n) (serV B n n) (n + 2)
theorem colV_length (B : List (List Int)) (n : Nat) : ∀ t, (colV B n t).length = n
  | 0 => by simp [colV]
  | t + 1 => by simp [colV]
theorem serV_length (B : List (List Int)) (n t : Nat) : (serV B n t).length = t + 2 := by simp [serV]
theorem rowV_length (B : List (List Int)) : ∀ n, (rowV B n).length = n + 1
  | 0 => rfl
  | n + 1 => by simp [rowV, rowNext]

theorem Sm.neg {k : Nat} {x : Int} (h : Sm k x) : Sm k (-x) := by unfold Sm at *; exact zq190 h
theorem dot_sm {a b : Nat} {rs cs : List Int} (h1 : ∀ x ∈ rs, Sm a x) (h2 : ∀ x ∈ cs, Sm b x) : ∀ k, k ≤ rs.length → k ≤ cs.length → (dotK rs cs k).natAbs ≤ k * 2 ^ (a + b)
  | 0, _, _ => by simp [dotK]
  | k + 1, hr, hc => by
    have ih := dot_sm h1 h2 k (by exact zq110 hr) (by exact zq110 hc)
    have e1 : Sm a (rs.getD k 0) := getD_all h1 (by exact zq189 hr)
    have e2 : Sm b (cs.getD k 0) := getD_all h2 (by exact zq189 hc)
    rw [dotK]
    have h3 : (rs.getD k 0 * cs.getD k 0).natAbs ≤ 2 ^ (a + b) := by
      rw [Int.natAbs_mul, Nat.pow_add]
      exact Nat.mul_le_mul (Nat.le_of_lt e1) (Nat.le_of_lt e2)
    have h4 := Int.natAbs_add_le (dotK rs cs k) (rs.getD k 0 * cs.getD k 0)
    rw [Nat.succ_mul]
    exact zq188 ih h3
theorem dot_sm3 {a b : Nat} {rs cs : List Int} (h1 : ∀ x ∈ rs, Sm a x) (h2 : ∀ x ∈ cs, Sm b x) {k : Nat} (hr : k ≤ rs.length) (hc : k ≤ cs.length) (h7 : k ≤ 7) : Sm (a + b + 3) (dotK rs cs k) := by
  have := dot_sm h1 h2 k hr hc
  unfold Sm
  have e : 2 ^ (a + b + 3) = 8 * 2 ^ (a + b) := by rw [Nat.pow_add]; exact zq187
  have p : 0 < 2 ^ (a + b) := Nat.two_pow_pos _
  rw [e]
  have : k * 2 ^ (a + b) ≤ 7 * 2 ^ (a + b) := Nat.mul_le_mul_right _ h7
  omega

/-- a square of four rows of small numbers -/
structure SqOk (B : List (List Int)) : Prop where
  len : B.length = 4
  row : ∀ r ∈ B, r.length = 4 ∧ ∀ x ∈ r, Sm 200 x
theorem SqOk.at {B : List (List Int)} (h : SqOk B) {i : Nat} (hi : i < 4) : (B.getD i []).length = 4 ∧ ∀ x ∈ B.getD i [], Sm 200 x := by
  have : B.getD i [] ∈ B := by
    rw [List.getD_eq_getElem?_getD, List.getElem?_eq_getElem (by rw [h.len]; exact hi)]
    exact List.getElem_mem _
  exact h.row _ this
theorem SqOk.el {B : List (List Int)} (h : SqOk B) {i j : Nat} (hi : i < 4) (hj : j < 4) : Sm 200 ((B.getD i []).getD j 0) := getD_all (h.at hi).2 (by rw [(h.at hi).1]; exact hj)
theorem colV_sm {B : List (List Int)} (h : SqOk B) {n : Nat} (hn : n < 4) : ∀ t, ∀ x ∈ colV B n t, Sm (210 * (t + 1)) x
  | 0, x, hx => by
    obtain ⟨i, hi, rfl⟩ := List.mem_map.mp hx
    exact (h.el (by have := List.mem_range.mp hi; exact zq185 hn this) hn).le (by decide)
  | t + 1, x, hx => by
    obtain ⟨i, hi, rfl⟩ := List.mem_map.mp hx
    have hi := List.mem_range.mp hi
    have hb := h.at (i := i) (by exact zq185 hn hi)
    exact (dot_sm3 hb.2 (colV_sm h hn t) (by rw [hb.1]; exact zq183 hn) (by rw [colV_length]; exact zq182) (by exact zq181 hn)).le (by exact zq184)
theorem serV_sm {B : List (List Int)} (h : SqOk B) {n t : Nat} (hn : n < 4) (ht : t ≤ 4) : ∀ x ∈ serV B n t, Sm 1300 x := by
  intro x hx
  rcases List.mem_cons.mp hx with rfl | hx
  · exact (show Sm 1 1 from (by decide : (1 : Int).natAbs < 2 ^ 1)).le (by decide)
  rcases List.mem_cons.mp hx with rfl | hx
  · exact (h.el hn hn).neg.le (by decide)
  obtain ⟨j, hj, rfl⟩ := List.mem_map.mp hx
  have hj := List.mem_range.mp hj
  have hb := h.at hn
  exact (dot_sm3 hb.2 (colV_sm h hn j) (by rw [hb.1]; exact zq183 hn) (by rw [colV_length]; exact zq182) (by exact zq181 hn)).neg.le (by exact zq180 ht hj)
theorem ser1_length (ser : List Int) (i m : Nat) : (ser1 ser i m).length = m := by simp [ser1]
theorem ser1_sm {b : Nat} {ser : List Int} (h : ∀ x ∈ ser, Sm b x) (i m : Nat) : ∀ x ∈ ser1 ser i m, Sm b x := by
  intro x hx
  obtain ⟨k, hk, rfl⟩ := List.mem_map.mp hx
  by_cases hi : i - k < ser.length
  · exact getD_all h hi
  · rw [List.getD_eq_getElem?_getD, List.getElem?_eq_none (by exact zq179 hi)]
    show (0 : Int).natAbs < _
    exact Nat.two_pow_pos _
theorem rowV_sm {B : List (List Int)} (h : SqOk B) : ∀ n, n ≤ 4 → ∀ x ∈ rowV B n, Sm (1400 * (n + 1)) x
  | 0, _, x, hx => by
    have : x = 1 := by simpa [rowV] using hx
    subst this
    exact (show Sm 1 1 from (by decide : (1 : Int).natAbs < 2 ^ 1)).le (by decide)
  | n + 1, hn, x, hx => by
    obtain ⟨i, hi, rfl⟩ := List.mem_map.mp hx
    have hl : ((rowV B n).take (i + 1)).length ≤ n + 1 := by rw [List.length_take, rowV_length]; exact zq178
    refine (dot_sm3 (a := 1400 * (n + 1)) (b := 1300) (fun y hy => rowV_sm h n (by exact zq176 hn) y (List.mem_of_mem_take hy)) (ser1_sm (serV_sm h (by exact zq177 hn) (by exact zq176 hn)) _ _) (Nat.le_refl _) (by rw [ser1_length]; exact Nat.le_refl _) (by exact zq175 hn hl)).le (by exact zq174)
end Mine

end

section
open PySem PySem.Spec PySem.Calls PyProof.Rows PySem.W
set_option Elab.async false
set_option linter.all false
set_option maxRecDepth 100000
set_option autoImplicit false
set_option maxHeartbeats 1000000
namespace Mine

/-- the rows made so far, the newest apart -/
inductive Rows (B : List (List Int)) : Nat → Addr → List Value → List (Addr × D) → Prop
  | zero (r : Addr) : Rows B 0 r [] []
  | succ {k : Nat} {r : Addr} {cs : List Value} {T : List (Addr × D)} (r' : Addr) : Rows B k r cs T → Rows B (k + 1) r' (cs ++ [.ref r']) ((r, .ints (rowV B k)) :: T)
theorem Rows.len {B : List (List Int)} : ∀ {k : Nat} {r : Addr} {cs : List Value} {T : List (Addr × D)}, Rows B k r cs T → cs.length = k
  | _, _, _, _, .zero _ => rfl
  | _, _, _, _, .succ _ h => by rw [List.length_append, h.len]; rfl
theorem Rows.four {B : List (List Int)} {r : Addr} {cs : List Value} {T : List (Addr × D)} (h : Rows B 4 r cs T) :
    ∃ a0 a1 a2 a3, cs = [.ref a1, .ref a2, .ref a3, .ref r] ∧ T = [(a3, .ints (rowV B 3)), (a2, .ints (rowV B 2)), (a1, .ints (rowV B 1)), (a0, .ints (rowV B 0))] := by
  generalize hk : 4 = k at h
  cases h with
  | zero => cases hk
  | succ r3 h => cases hk; cases h with
    | succ r2 h => cases h with
      | succ r1 h => cases h with
        | succ r0 h => cases h with
          | zero r => exact ⟨_, _, _, _, rfl, rfl⟩
noncomputable def CorD (s : Shared) (B : List (List Int)) (v : Value) (h' : Heap) : Prop :=
  ∃ a l1 l2 l3 l4, v = .ref a ∧ NewL s [(a, .list [.ref l1, .ref l2, .ref l3, .ref l4]), (l1, .ints (rowV B 1)), (l2, .ints (rowV B 2)), (l3, .ints (rowV B 3)), (l4, .ints (rowV B 4))] h'

section
variable {prog : Program} {w : World} {A : Around} {c : Fx} {F : Heap} {vals : List (Option Value)} {own : List (Addr × D)} {s : Shared} {ad : Ads} {L : LexA} {page : List Nat} {pos : Nat}
theorem gmX {name : Str} {n i : Nat} {line : Int} {pl : Sem Bool} {Q : Value × List Value → Shared → Prop} (H : Sg c F vals own s) (ok : LexOk ad L page s.heap) (eo : own[i]? = some (L.dx, .fact (LexDO L line))) (hv : ∀ t wt, lexF L line t wt name = none)
    (hm : (name, some (.ref (ad.fn n))) ∈ clsTab ad) (hf : ∃ o, s.heap.get? (ad.fn n) = some o ∧ o.cls = .type "function") (hB : typeLookup (.type "object") name = pure none) (h : Q (.ref (ad.fn n), [.ref L.x]) s) : W prog w A (getMethod (.ref L.x) name pl) Q s := by
  obtain ⟨o, ho, t, wt, hd⟩ := H.at eo
  exact gmM ok.cls ok.inst ⟨o, ho, hd⟩ ok.ne (hv t wt) hm hf hB h
theorem tuck_perm (n : Nat) (x : Addr × D) (own : List (Addr × D)) : (own ++ [x]).Perm (own.take n ++ x :: own.drop n) := by
  have e : own = own.take n ++ own.drop n := (List.take_append_drop n own).symm
  conv => lhs; rw [e]
  rw [List.append_assoc]
  exact (List.perm_append_comm (l₁ := own.drop n) (l₂ := [x])).append_left _
end
theorem globAt_of {c : Fx} {F : Heap} {vals : List (Option Value)} {own : List (Addr × D)} {s : Shared} {ad : Ads} {P : Prop} (hb : Base ad c.G) (he : c.env.globals = mainGlobals ∧ c.env.builtins = builtinsNs ∧ P) (H : Sg c F vals own s) (is : List Nat) : GlobAt F c.env.globals c.env.builtins (Mine.pick (gtab ad) is) := by
  obtain ⟨mg, mb, a, b, d⟩ := hb.glob.pick is
  exact ⟨mg, mb, by rw [he.1]; exact a.keeps H.sub, by rw [he.2.1]; exact b.keeps H.sub, d⟩
theorem refs_get {ls : List Addr} {k : Nat} (h : k < ls.length) : (ls.map Value.ref)[k]? = some (.ref (ls.getD k 0)) := by simp [h]
theorem cut_to (l : List Int) (k : Nat) : cutK l none (some ((k : Int))) = l.take k := by
  unfold cutK
  simp only [Option.elim, clipAt_nat, List.drop_zero, Nat.sub_zero]
  rcases Nat.le_total k l.length with h | h
  · rw [Nat.min_eq_left h]
  · rw [Nat.min_eq_right h, List.take_length, List.take_of_length_le h]

section
variable {prog : Program} {w : World} {s0 : Shared} {ad : Ads} {L : LexA} {page : List Nat} {pos : Nat} {sq : Addr} {ls : List Addr} {B : List (List Int)}

theorem corners_ok (hw : ad.w = w) (ok : LexOk ad L page (hideAll s0.heap ((lexM L page pos []).map (·.1)))) (hm : MtOk s0.heap (lexM L page pos [])) (hsq : D.At (hideAll s0.heap ((lexM L page pos []).map (·.1))) sq (.list (ls.map .ref)))
    (hls : ls.length = 4) (hrow : ∀ i, i < 4 → D.At (hideAll s0.heap ((lexM L page pos []).map (·.1))) (ls.getD i 0) (.ints (B.getD i []))) (hB : SqOk B) :
    CtM prog w 5 (.ref (ad.fn 13)) [.ref L.x, .ref sq] s0 (lexM L page pos []) (fun v mt' h' => mt' = lexM L page pos [] ∧ CorD s0 B v h') := by
  intro A Q rm ret
  have hb := ok.rd.base
  refine ⟨wpAny_call (call_fnMX (Q := Q) (pn := ["lexer", "square"]) (names := ["square", "corners", "size", "i", "turn", "column"]) (cn := ["lexer", "row", "series", "heads"]) (closure := []) (lexM L page pos []) rfl hm.at_ hm.nd ((hb.fn 13 rfl).keeps fun b o e => of_hideAll _ e) hb.lim rm (by intros _ _ _ _ _ _ _ _ _ _; rfl) (by kernel_rfl) (by decide +kernel) (hb.glob.pick [20, 1, 6, 12]) fun env s _ he H rm => ?_)⟩
  refine b1 (stC H (i := 3) (j := 0) rfl rfl fun s H => b1 (stL H (i := 0) rfl rfl fun s H => b0 ⟨H.keep, ?_⟩))
  -- row = [1]
  refine x1 (xAsg ?_)
  refine eList (sp1 ?_)
  refine kI H fun t s H => ?_
  refine sp0 ?_
  refine mkInts H (.cons _ _ .nil) fun r0 s H => ?_
  refine stC H (i := 4) (j := 1) rfl rfl fun s H => ?_
  -- corners = []
  refine x1 (xAsg ?_)
  refine eList (sp0 ?_)
  refine mkList H fun cr s H => ?_
  refine stL H (i := 1) rfl rfl fun s H => ?_
  have H := H.pick 9 [0, 1, 2, 3, 4, 5, 6, 8, 7] rfl (by decide)
  generalize hk0 : s0.heap.objs.size + 1 = k0 at H
  -- for size in range(4):
  refine x1 (for_range0 rm.handled H ?_)
  refine eCall ?_
  refine nG H (j := 0) rfl ?_
  refine cwT (sp1 ?_)
  refine kI H fun t s H => ?_
  refine sp0 ?_
  refine cRange1 H fun r t u v s H hr => ?_
  refine ⟨_, _, r, _, t, u, v, 4, fun k vals own => ∃ rw x2 x3 cs T sv iv tv cv, vals = [some (.ref sq), some (.ref cr), sv, iv, tv, cv] ∧
    own = lexM L page pos [] ++ ([(k0, .cell (some (.ref L.x))), (k0 + 1, .cell (some (.ref rw))), (k0 + 1 + 1, .cell x2), (k0 + 1 + 1 + 1, .cell x3), (cr, .list cs), (rw, .ints (rowV B k))] ++ T) ∧ Rows B k rw cs T, rfl, H, hr, by decide, rfl, ⟨r0, none, none, [], [], none, none, none, none, rfl, rfl, .zero _⟩, ?_, ?_⟩
  · rintro k tk F' _ _ s Qt hk ⟨rw, x2, x3, cs, T, sv, iv, tv, cv, rfl, rfl, hR⟩ hF H hQ hRt
    have hcs := hR.len
    have hBk := hB.at hk
    refine stL H (i := 2) rfl rfl fun s H => ?_
    -- series = [1, neg(square[size][size])]
    refine x1 (xAsg ?_)
    refine eList (sp1 ?_)
    refine kI H fun t s H => ?_
    refine sp1 ?_
    refine eCall ?_
    refine nG H (j := 1) rfl ?_
    refine cwF (sp1 ?_)
    refine eSub ?_
    refine eSub ?_
    refine nL H (i := 0) rfl rfl ?_
    refine nL H (i := 2) rfl rfl ?_
    refine subL (H.gr hsq) (by exact zq38) (by exact zq235 hk) (refs_get (k := k) (by exact zq234 hls hk)) ?_
    refine nL H (i := 2) rfl rfl ?_
    refine subI (H.gr (hrow k hk)) (by exact zq38) (by rw [hBk.1]; exact zq241 hk) (by rw [hBk.1]; decide) fun t => ?_
    refine sp0 ⟨(hb.keeps H.ground).obj 1 rfl, ?_⟩
    refine (neg_ok (hb.keeps H.ground)).useI H (rm.le (by decide)) fun t s H => ?_
    refine sp0 ?_
    refine mkInts (ns := serV B k 0) H (.cons _ _ (.cons _ _ .nil)) fun sr s H => ?_
    have H := H.tuck 9
    refine stC H (i := 5) (j := 2) rfl rfl fun s H => ?_
    -- for i in range(size): lexer.push_token(_law_word(square[i][size]))
    refine x1 (for_range0 rm.handled H ?_)
    refine eCall ?_
    refine nG H (j := 0) rfl ?_
    refine cwT (sp1 ?_)
    refine nL H (i := 2) rfl rfl ?_
    refine sp0 ?_
    refine cRange1 H fun r t u v s H hr => ?_
    refine ⟨_, _, r, _, t, u, v, k, fun m vals own => ∃ pbs iv, vals = [some (.ref sq), some (.ref cr), some (.int k tk), iv, tv, cv] ∧ TxAre pbs ((List.range m).map fun i => word ((B.getD i []).getD k 0)) ∧
      own = lexM L page pos pbs ++ ([(k0, .cell (some (.ref L.x))), (k0 + 1, .cell (some (.ref rw))), (k0 + 1 + 1, .cell (some (.ref sr))), (k0 + 1 + 1 + 1, .cell x3), (cr, .list cs), (rw, .ints (rowV B k)), (sr, .ints (serV B k 0))] ++ T), rfl, H, hr, by exact zq231 hk, by exact zq230, ⟨[], iv, rfl, .nil, rfl⟩, ?_, ?_⟩
    · rintro m tm F'' _ _ s Qt hm ⟨pbs, iv, rfl, hpb, rfl⟩ hF' H hQ hRt
      have hBm := hB.at (show m < 4 by exact zq185 hk hm)
      have hpl := hpb.length
      rw [List.length_map, List.length_range] at hpl
      refine stL H (i := 3) rfl rfl fun s H => ?_
      refine x1 (xE H ?_)
      refine eMeth ?_
      refine nC H (j := 0) rfl (H.at (i := 3) rfl) ?_
      refine gmX (n := 19) (i := 1) H (ok.keeps H.ground) rfl (fun _ _ => rfl) (by simp [clsTab]) ((hb.keeps H.ground).fnCls 19 rfl) tl_push_token ?_
      refine cwF (sp1 ?_)
      refine eCall ?_
      refine nG H (j := 2) rfl ?_
      refine cwF (sp1 ?_)
      refine eSub ?_
      refine eSub ?_
      refine nL H (i := 0) rfl rfl ?_
      refine nL H (i := 3) rfl rfl ?_
      refine subL (H.gr hsq) (by exact zq38) (by exact zq229 hk hm) (refs_get (k := m) (by exact zq228 hls hk hm)) ?_
      refine nL H (i := 2) rfl rfl ?_
      refine subI (H.gr (hrow m (by exact zq185 hk hm))) (by exact zq38) (by rw [hBm.1]; exact zq241 hk) (by rw [hBm.1]; decide) fun t => ?_
      refine sp0 ⟨(hb.keeps H.ground).obj 6 rfl, ?_⟩
      refine (word_ok (hb.keeps H.ground) ((hB.el (i := m) (j := k) (by exact zq185 hk hm) hk).le (by decide))).use H (rm.le (by decide)) fun v s H _ hv => ?_
      obtain ⟨tw, rfl⟩ := hv
      refine sp0 ⟨(hb.keeps H.ground).obj 19 rfl, ?_⟩
      refine (pushToken_ok (ok.keeps (Sg.ground' H)) H.mtOk (by exact zq225 hk hm hpl)).use H (rm.le (by decide)) fun v s mt' em H _ hP => ?_
      obtain ⟨rfl, rfl⟩ := hP
      refine x0 (hQ _ _ _ ⟨_, some (.int m tm), rfl, ?_, rfl⟩ H)
      rw [List.range_succ, List.map_append]
      exact hpb.snoc
    rintro _ _ s ⟨pbs, iv, rfl, hpb, rfl⟩ H
    -- for turn in range(size):
    refine x1 (for_range0 rm.handled H ?_)
    refine eCall ?_
    refine nG H (j := 0) rfl ?_
    refine cwT (sp1 ?_)
    refine nL H (i := 2) rfl rfl ?_
    refine sp0 ?_
    refine cRange1 H fun r t u v s H hr => ?_
    refine ⟨_, _, r, _, t, u, v, k, fun m vals own => ∃ pbs iv tv cv, vals = [some (.ref sq), some (.ref cr), some (.int k tk), iv, tv, cv] ∧ TxAre pbs (if m < k then (colV B k m).map word else []) ∧
      own = lexM L page pos pbs ++ ([(k0, .cell (some (.ref L.x))), (k0 + 1, .cell (some (.ref rw))), (k0 + 1 + 1, .cell (some (.ref sr))), (k0 + 1 + 1 + 1, .cell x3), (cr, .list cs), (rw, .ints (rowV B k)), (sr, .ints (serV B k m))] ++ T), rfl, H, hr, by exact zq231 hk, by exact zq230, ⟨pbs, iv, tv, cv, rfl, ?_, rfl⟩, ?_, ?_⟩
    · split
      · rw [colV, List.map_map]; exact hpb
      · have : k = 0 := by omega
        subst this; exact hpb
    · rintro m tm F'' _ _ s Qt hm ⟨pbs, iv, tv, cv, rfl, hpb, rfl⟩ hF' H hQ hRt
      have hml : (colV B k m).length = k := colV_length ..
      have hcs' := colV_sm hB hk m
      rw [if_pos hm] at hpb
      refine stL H (i := 4) rfl rfl fun s H => ?_
      -- column = [_law_number(lexer.get_token()) for j in range(size)]
      refine x1 (xComp ["j"] [] [("_law_number", .ref (ad.fn 7))] [("lexer", k0)] H (i := 5) rfl (by kernel_rfl) (fun p hp => ?_) rfl rfl ?_)
      · rw [List.mem_singleton] at hp; subst hp
        exact (H.ok.cell _ (.head _)).2.2.1
      refine eCall ?_
      refine nG H (j := 0) rfl ?_
      refine cwT (sp1 ?_)
      refine nL H (i := 2) rfl rfl ?_
      refine sp0 ?_
      refine cRange1 H fun r t u v s H hr => ?_
      refine range_src (n := k) rm.handled H hr (by decide) (by exact zq231 hk) (by exact zq209) fun I s H h1 h2 h3 o ho self src => ?_
      have hgl : GlobAt _ _ _ _ := globAt_of hb he H [7]
      refine ⟨_, _, I, _, o, _, rfl, rfl, H, h1, h2, h3, ho, self, hgl, fun acc c' e1 e2 e3 e4 e5 e6 e7 => ⟨fun j vals own => ∃ jv pbs vs, vals = [jv] ∧ TxAre pbs (((colV B k m).drop j).map word) ∧ IntsAre vs ((colV B k m).take j) ∧
        own.Perm (lexM L page pos pbs ++ ([(k0, .cell (some (.ref L.x))), (k0 + 1, .cell (some (.ref rw))), (k0 + 1 + 1, .cell (some (.ref sr))), (k0 + 1 + 1 + 1, .cell x3), (cr, .list cs), (rw, .ints (rowV B k)), (sr, .ints (serV B k m)), (acc, .list vs)] ++ T)), ⟨?_, ?_, ?_⟩, src _ _⟩⟩
      · rw [e1]
        refine ⟨none, pbs, [], rfl, hpb, .nil, ?_⟩
        show List.Perm (_ ++ []) _
        rw [List.append_nil]
        exact tuck_perm 10 _ _
      · have hG := H.sub
        obtain ⟨G', env', names', gl', s0', cl'⟩ := c'
        dsimp only at e1 e2 e3 e4 e5 e6 e7
        subst e1 e2 e3
        rintro j tj F3 _ _ s Qt hj ⟨jv, pbs, vs, rfl, hpb, hvs, hperm⟩ hF3 H hQ
        have H := H.perm hperm
        have ok' : LexOk ad L page G' := ok.keeps fun b o e => e4 b o (hG b o e)
        have hb' := ok'.rd.base
        have hjl : j < (colV B k m).length := by exact zq173 hml hj
        rw [List.drop_eq_getElem_cons hjl, List.map_cons] at hpb
        have hx : Sm 1000000 (colV B k m)[j] := (hcs' _ (List.getElem_mem hjl)).le (by exact zq239 hk hm)
        obtain ⟨tw, pbs, rfl, hpb2⟩ : ∃ tw pbs', pbs = .str (tx (word (colV B k m)[j])) tw :: pbs' ∧ TxAre pbs' (((colV B k m).drop (j + 1)).map word) := by
          cases hpb with
          | cons _ t h => exact ⟨t, _, rfl, h⟩
        have hpl := hpb2.length
        rw [List.length_map, List.length_drop] at hpl
        refine stL H (i := 0) rfl rfl fun s H => ?_
        refine ct0 ?_
        rw [if_pos rfl]
        refine eCall ?_
        refine nG H (j := 0) rfl ?_
        refine cwF (sp1 ?_)
        refine eMeth ?_
        refine nC H (j := 0) rfl (H.at (i := 3) rfl) ?_
        refine gmX (n := 18) (i := 1) H (ok'.keeps H.ground) rfl (fun _ _ => rfl) (by simp [clsTab]) ((hb'.keeps H.ground).fnCls 18 rfl) tl_get_token ?_
        refine cwF0 ((hb'.keeps H.ground).obj 18 rfl) ?_
        refine (getPushed_ok (ok'.keeps (Sg.ground' H)) H.mtOk (by exact zq238 hk hml hpl)).use H (rm.le (by decide)) fun v s mt' em H _ hP => ?_
        obtain ⟨rfl, rfl⟩ := hP
        refine sp0 ⟨(hb'.keeps H.ground).obj 7 rfl, ?_⟩
        refine (number_ok hw (hb'.keeps H.ground) hx).useI H (rm.le (by decide)) fun t s H => ?_
        have hvl := hvs.length
        rw [List.length_take] at hvl
        refine cAppend H (i := 10) rfl (by rw [sizeLine_eq]; exact zq237 hk hj hvl) fun s H => ?_
        refine hQ _ _ _ ⟨_, pbs, _, rfl, hpb2, ?_, .refl _⟩ H
        rw [List.take_succ_eq_append_getElem hjl]
        exact ints_snoc hvs
      · rintro _ _ s ⟨jv, pbs, vs, _, hpb, hvs, hperm⟩ H
        have H := H.perm hperm
        rw [List.drop_of_length_le (by exact zq236 hml)] at hpb
        cases hpb
        rw [List.take_of_length_le (by exact zq236 hml)] at hvs
        have H := H.re (i := 10) rfl (d' := .ints (colV B k m)) (D.ofInts (H.at (i := 10) rfl) hvs)
        -- series.append(neg(_law_sum(square[size], column)))
        refine x1 (xE H ?_)
        refine eMeth ?_
        refine nC H (j := 2) rfl (H.at (i := 5) rfl) ?_
        refine gmAppend (H.at (i := 9) rfl) rfl ?_
        refine cwB (sp1 ?_)
        refine eCall ?_
        refine nG H (j := 1) rfl ?_
        refine cwF (sp1 ?_)
        refine eCall ?_
        refine nG H (j := 3) rfl ?_
        refine cwF (sp1 ?_)
        refine eSub ?_
        refine nL H (i := 0) rfl rfl ?_
        refine nL H (i := 2) rfl rfl ?_
        refine subL (H.gr hsq) (by exact zq38) (by exact zq235 hk) (refs_get (k := k) (by exact zq234 hls hk)) ?_
        refine sp1 ?_
        refine nL H (i := 5) rfl rfl ?_
        refine sp0 ⟨(hb.keeps H.ground).obj 12 rfl, ?_⟩
        refine (sum_ok (hb.keeps H.ground) (H.gr (hrow k hk)) (H.at (i := 10) rfl) (by rw [hml, hBk.1]; exact zq183 hk) (by rw [hBk.1]; decide) (fun x hx => (hBk.2 x hx).le (by decide)) (fun x hx => (hcs' x hx).le (by exact zq233 hk hm))).useI H (rm.le (by decide)) fun t s H => ?_
        rw [hml]
        refine sp0 ⟨(hb.keeps H.ground).obj 1 rfl, ?_⟩
        refine (neg_ok (hb.keeps H.ground)).useI H (rm.le (by decide)) fun t s H => ?_
        refine sp0 ?_
        refine cAppendI H (i := 9) rfl (by rw [serV_length, sizeLine_eq]; exact zq232 hk hm) fun s H => ?_
        have hser : serV B k m ++ [-dotK (B.getD k []) (colV B k m) k] = serV B k (m + 1) := by
          unfold serV
          rw [List.range_succ, List.map_append]; rfl
        rw [hser] at H
        -- if turn + 1 < size:
        refine x1 (W.joinS H (fun vals own => ∃ pbs iv, vals = [some (.ref sq), some (.ref cr), some (.int k tk), iv, some (.int m tm), some (.ref acc)] ∧ TxAre pbs (if m + 1 < k then (colV B k (m + 1)).map word else []) ∧
          own = lexM L page pos pbs ++ ([(k0, .cell (some (.ref L.x))), (k0 + 1, .cell (some (.ref rw))), (k0 + 1 + 1, .cell (some (.ref sr))), (k0 + 1 + 1 + 1, .cell x3), (cr, .list cs), (rw, .ints (rowV B k)), (sr, .ints (serV B k (m + 1))), (acc, .ints (colV B k m))] ++ T)) ?_ ?_)
        · refine xIf ?_
          refine tCmp ?_
          refine eBin ?_
          refine nL H (i := 4) rfl rfl ?_
          refine kI H fun t s H => ?_
          refine oAdd H fun t s H => ?_
          refine nL H (i := 2) rfl rfl ?_
          refine cLt ?_
          refine tBool ?_
          refine iteD (fun hq => ?_) fun hq => ?_
          · -- for i in range(size): lexer.push_token(_law_word(_law_sum(square[i], column)))
            refine x1 (for_range0 rm.handled H ?_)
            refine eCall ?_
            refine nG H (j := 0) rfl ?_
            refine cwT (sp1 ?_)
            refine nL H (i := 2) rfl rfl ?_
            refine sp0 ?_
            refine cRange1 H fun r t u v s H hr => ?_
            refine ⟨_, _, r, _, t, u, v, k, fun q vals own => ∃ pbs iv, vals = [some (.ref sq), some (.ref cr), some (.int k tk), iv, some (.int m tm), some (.ref acc)] ∧ TxAre pbs ((List.range q).map fun i => word (dotK (B.getD i []) (colV B k m) k)) ∧
              own = lexM L page pos pbs ++ ([(k0, .cell (some (.ref L.x))), (k0 + 1, .cell (some (.ref rw))), (k0 + 1 + 1, .cell (some (.ref sr))), (k0 + 1 + 1 + 1, .cell x3), (cr, .list cs), (rw, .ints (rowV B k)), (sr, .ints (serV B k (m + 1))), (acc, .ints (colV B k m))] ++ T), rfl, H, hr, by exact zq231 hk, by exact zq230, ⟨[], iv, rfl, .nil, rfl⟩, ?_, ?_⟩
            · rintro q tq F4 _ _ s Qt hq' ⟨pbs, iv, rfl, hpb, rfl⟩ hF4 H hQ hRt
              have hBq := hB.at (show q < 4 by exact zq185 hk hq')
              have hpl := hpb.length
              rw [List.length_map, List.length_range] at hpl
              refine stL H (i := 3) rfl rfl fun s H => ?_
              refine x1 (xE H ?_)
              refine eMeth ?_
              refine nC H (j := 0) rfl (H.at (i := 3) rfl) ?_
              refine gmX (n := 19) (i := 1) H (ok.keeps H.ground) rfl (fun _ _ => rfl) (by simp [clsTab]) ((hb.keeps H.ground).fnCls 19 rfl) tl_push_token ?_
              refine cwF (sp1 ?_)
              refine eCall ?_
              refine nG H (j := 2) rfl ?_
              refine cwF (sp1 ?_)
              refine eCall ?_
              refine nG H (j := 3) rfl ?_
              refine cwF (sp1 ?_)
              refine eSub ?_
              refine nL H (i := 0) rfl rfl ?_
              refine nL H (i := 3) rfl rfl ?_
              refine subL (H.gr hsq) (by exact zq38) (by exact zq229 hk hq') (refs_get (k := q) (by exact zq228 hls hk hq')) ?_
              refine sp1 ?_
              refine nL H (i := 5) rfl rfl ?_
              refine sp0 ⟨(hb.keeps H.ground).obj 12 rfl, ?_⟩
              refine (sum_ok (hb.keeps H.ground) (H.gr (hrow q (by exact zq185 hk hq'))) (H.at (i := 10) rfl) (by rw [hml, hBq.1]; exact zq183 hk) (by rw [hBq.1]; decide) (fun x hx => (hBq.2 x hx).le (by decide)) (fun x hx => (hcs' x hx).le (by exact zq227 hk hq))).useI H (rm.le (by decide)) fun t s H => ?_
              rw [hml]
              refine sp0 ⟨(hb.keeps H.ground).obj 6 rfl, ?_⟩
              have hsm : Sm 1000000 (dotK (B.getD q []) (colV B k m) k) := (dot_sm3 hBq.2 hcs' (by rw [hBq.1]; exact zq183 hk) (by rw [hml]; exact Nat.le_refl _) (by exact zq181 hk)).le (by exact zq226 hk hq)
              refine (word_ok (hb.keeps H.ground) hsm).use H (rm.le (by decide)) fun v s H _ hv => ?_
              obtain ⟨tw, rfl⟩ := hv
              refine sp0 ⟨(hb.keeps H.ground).obj 19 rfl, ?_⟩
              refine (pushToken_ok (ok.keeps (Sg.ground' H)) H.mtOk (by exact zq225 hk hq' hpl)).use H (rm.le (by decide)) fun v s mt' em H _ hP => ?_
              obtain ⟨rfl, rfl⟩ := hP
              refine x0 (hQ _ _ _ ⟨_, some (.int q tq), rfl, ?_, rfl⟩ H)
              rw [List.range_succ, List.map_append]
              exact hpb.snoc
            rintro _ _ s ⟨pbs, iv, rfl, hpb, rfl⟩ H
            refine x0 ⟨rfl, _, _, ⟨pbs, iv, rfl, ?_, rfl⟩, H⟩
            rw [if_pos (by exact zq224 hq), colV, List.map_map]
            exact hpb
          · refine x0 ⟨rfl, _, _, ⟨[], iv, rfl, ?_, rfl⟩, H⟩
            rw [if_neg (by exact zq223 hq)]
            exact .nil
        · rintro _ _ s ⟨pbs, iv, rfl, hpb, rfl⟩ H
          have H := H.pickN 11 [0, 1, 2, 3, 4, 5, 6, 7, 8, 9] (by simp) (by decide)
          exact x0 (hQ _ _ _ ⟨pbs, iv, _, _, rfl, hpb, rfl⟩ H)
    rintro _ _ s ⟨pbs, iv, tv, cv, rfl, hpb, rfl⟩ H
    rw [if_neg (Nat.lt_irrefl k)] at hpb
    cases hpb
    have hrl : (rowV B k).length = k + 1 := rowV_length ..
    have hrs := rowV_sm hB k (by exact zq183 hk)
    have hss := serV_sm hB (n := k) (t := k) hk (by exact zq183 hk)
    have hsl := serV_length B k k
    -- heads = [row[:i + 1] for i in range(size + 2)]
    refine x1 (xAsg ?_ (swaps_false H (j := 3) rfl))
    refine eComp ["i"] [] [] [("row", k0 + 1)] H (by kernel_rfl) (fun p hp => ?_) ?_
    · rw [List.mem_singleton] at hp; subst hp
      exact (H.ok.cell _ (.tail _ (.head _))).2.2.1
    refine eCall ?_
    refine nG H (j := 0) rfl ?_
    refine cwT (sp1 ?_)
    refine eBin ?_
    refine nL H (i := 2) rfl rfl ?_
    refine kI H fun t s H => ?_
    refine oAdd H fun t s H => ?_
    refine sp0 ?_
    refine cRange1 H fun r t u v s H hr => ?_
    refine range_src (n := k + 2) rm.handled H hr (by decide) (by exact zq219 hk) (by exact zq218) fun I s H h1 h2 h3 o ho self src => ?_
    refine ⟨_, _, I, _, o, _, rfl, trivial, H, h1, h2, h3, ho, self, H.glob0, fun hd c' e1 e2 e3 e4 e5 e6 e7 => ⟨fun m vals own => ∃ iv, ∃ HL : List (Addr × List Int), vals = [iv] ∧ HL.map (·.2) = (List.range m).map (fun j => (rowV B k).take (j + 1)) ∧
      own.Perm (lexM L page pos [] ++ ([(k0, .cell (some (.ref L.x))), (k0 + 1, .cell (some (.ref rw))), (k0 + 1 + 1, .cell (some (.ref sr))), (k0 + 1 + 1 + 1, .cell x3), (cr, .list cs), (rw, .ints (rowV B k)), (sr, .ints (serV B k k)), (hd, .list (HL.map fun p => .ref p.1))] ++ (HL.reverse.map (fun p => (p.1, D.ints p.2)) ++ T))), ⟨?_, ?_, ?_⟩, src _ _⟩⟩
    · rw [e1]
      refine ⟨none, [], rfl, rfl, ?_⟩
      show List.Perm (_ ++ []) _
      rw [List.append_nil]
      exact tuck_perm 10 _ _
    · obtain ⟨G', env', names', gl', s0', cl'⟩ := c'
      dsimp only at e1 e2 e3 e4 e5 e6 e7
      subst e1 e2 e3
      rintro m tm F3 _ _ s Qt hm ⟨iv, HL, rfl, hHL, hperm⟩ hF3 H hQ
      have H := H.perm hperm
      have hHl : HL.length = m := by have := congrArg List.length hHL; simpa using this
      refine stL H (i := 0) rfl rfl fun s H => ?_
      refine ct0 ?_
      rw [if_pos rfl]
      refine eSub ?_
      refine nC H (j := 0) rfl (H.at (i := 4) rfl) ?_
      refine eSl ?_
      refine evN ?_
      refine evP ?_
      refine eBin ?_
      refine nL H (i := 0) rfl rfl ?_
      refine kI H fun t s H => ?_
      refine oAdd H fun t s H => ?_
      refine ⟨_, _, _, _, H, fun a s H hsl _ => ?_⟩
      have ei : (0 : Int) + m + 1 = ((m + 1 : Nat) : Int) := by exact zq222
      rw [ei] at hsl
      refine subISl (lo := none) (hi := some ((m + 1 : Nat) : Int)) H (H.at (i := 8) rfl) hsl .none (.int _ _) (by exact zq221 hk hrl) fun q s H => ?_
      rw [cut_to] at H
      have H := H.tuck 11
      refine cAppend H (i := 10) rfl (by rw [sizeLine_eq, List.length_map]; exact zq220 hk hm hHl) fun s H => ?_
      refine hQ _ _ _ ⟨_, HL ++ [(q, (rowV B k).take (m + 1))], rfl, ?_, .of_eq ?_⟩ H
      · rw [List.map_append, hHL, List.range_succ, List.map_append]; rfl
      · simp
    rintro _ _ s ⟨iv, HL, _, hHL, hperm⟩ H
    have H := H.perm hperm
    have hHl : HL.length = k + 2 := by have := congrArg List.length hHL; simpa using this
    refine stC H (i := 6) (j := 3) rfl rfl fun s H => ?_
    -- row = [_law_sum(heads[i], [series[i - k] for k in range(len(heads[i]))]) for i in range(size + 2)]
    refine x1 (xAsg ?_ (swaps_false H (j := 1) rfl))
    refine eComp [] ["i"] (Mine.pick (gtab ad) [12, 20, 19]) [("series", k0 + 1 + 1), ("heads", k0 + 1 + 1 + 1)] H (by kernel_rfl) (fun p hp => ?_) ?_
    · rcases List.mem_cons.mp hp with rfl | hp
      · exact (H.ok.cell _ (.tail _ (.tail _ (.head _)))).2.2.1
      · rw [List.mem_singleton] at hp; subst hp
        exact (H.ok.cell _ (.tail _ (.tail _ (.tail _ (.head _))))).2.2.1
    refine eCall ?_
    refine nG H (j := 0) rfl ?_
    refine cwT (sp1 ?_)
    refine eBin ?_
    refine nL H (i := 2) rfl rfl ?_
    refine kI H fun t s H => ?_
    refine oAdd H fun t s H => ?_
    refine sp0 ?_
    refine cRange1 H fun r t u v s H hr => ?_
    refine range_src (n := k + 2) rm.handled H hr (by decide) (by exact zq219 hk) (by exact zq218) fun I s H h1 h2 h3 o ho self src => ?_
    refine ⟨_, _, I, _, o, _, rfl, trivial, H, h1, h2, h3, ho, self, globAt_of hb he H [12, 20, 19], fun acc c' e1 e2 e3 e4 e5 e6 e7 => ⟨fun m vals own => ∃ ic vs, vals = [] ∧ IntsAre vs ((rowV B (k + 1)).take m) ∧
      own.Perm (lexM L page pos [] ++ ([(k0, .cell (some (.ref L.x))), (k0 + 1, .cell (some (.ref rw))), (k0 + 1 + 1, .cell (some (.ref sr))), (k0 + 1 + 1 + 1, .cell (some (.ref hd))), (cr, .list cs), (rw, .ints (rowV B k)), (sr, .ints (serV B k k)), (hd, .list (HL.map fun p => .ref p.1)), (acc, .list vs), (c'.env.locals + 1, .cell ic)] ++ (HL.reverse.map (fun p => (p.1, D.ints p.2)) ++ T))), ⟨?_, ?_, ?_⟩, src _ _⟩⟩
    · rw [e1]
      exact ⟨none, [], rfl, .nil, ((tuck_perm 11 _ _).append_right _).trans (tuck_perm 12 _ _)⟩
    · have hG := H.sub
      obtain ⟨G', env', names', gl', s0', cl'⟩ := c'
      dsimp only at e1 e2 e3 e4 e5 e6 e7
      subst e1 e2 e3
      rintro m tm F3 _ _ s Qt hm ⟨ic, vs, rfl, hvs, hperm⟩ hF3 H hQ
      have H := H.perm hperm
      have ok' : LexOk ad L page G' := ok.keeps fun b o e => e4 b o (hG b o e)
      have hb' := ok'.rd.base
      have hvl := hvs.length
      rw [List.length_take, rowV_length] at hvl
      have hmL : m < HL.length := by exact zq217 hHl hm
      have hp2 : HL[m].2 = (rowV B k).take (m + 1) := by
        have h3 : (HL.map (·.2))[m]? = some HL[m].2 := by rw [List.getElem?_map, List.getElem?_eq_getElem hmL]; rfl
        rw [hHL, List.getElem?_map, List.getElem?_range (by exact zq216 hm)] at h3
        exact (Option.some.inj h3).symm
      have hmem : (HL[m].1, D.ints ((rowV B k).take (m + 1))) ∈ HL.reverse.map (fun p => (p.1, D.ints p.2)) := by
        rw [← hp2]
        exact List.mem_map.mpr ⟨HL[m], List.mem_reverse.mpr (List.getElem_mem hmL), rfl⟩
      generalize hM : ((rowV B k).take (m + 1)).length = M
      have hMl : M ≤ m + 1 ∧ M ≤ k + 1 := by rw [← hM, List.length_take, hrl]; exact zq215
      have hat : (HL.map fun p => Value.ref p.1)[((0 : Int) + m).toNat]? = some (.ref HL[m].1) := by
        rw [show ((0 : Int) + m).toNat = m by exact zq214, List.getElem?_map, List.getElem?_eq_getElem hmL]; rfl
      refine stC H (i := 12) (j := 0) rfl rfl fun s H => ?_
      refine ct0 ?_
      rw [if_pos rfl]
      refine eCall ?_
      refine nG H (j := 0) rfl ?_
      refine cwF (sp1 ?_)
      refine eSub ?_
      refine nC H (j := 2) rfl (H.at (i := 6) rfl) ?_
      refine nC H (j := 0) rfl (H.at (i := 12) rfl) ?_
      refine subL (H.at (i := 10) rfl) (by exact zq213) (by exact zq212 hk hm) hat ?_
      refine sp1 ?_
      refine eComp ["k"] [] [] [("series", k0 + 1 + 1), ("i", env'.locals + 1)] H (by kernel_rfl) (fun p hp => ?_) ?_
      · rcases List.mem_cons.mp hp with rfl | hp
        · exact (H.ok.cell _ (.tail _ (.head _))).2.2.1
        · rw [List.mem_singleton] at hp; subst hp
          exact (H.ok.cell _ (.head _)).2.2.1
      refine eCall ?_
      refine nG H (j := 1) rfl ?_
      refine cwT (sp1 ?_)
      refine eCall ?_
      refine nG H (j := 2) rfl ?_
      refine cwB (sp1 ?_)
      refine eSub ?_
      refine nC H (j := 2) rfl (H.at (i := 6) rfl) ?_
      refine nC H (j := 0) rfl (H.at (i := 12) rfl) ?_
      refine subL (H.at (i := 10) rfl) (by exact zq213) (by exact zq212 hk hm) hat ?_
      refine sp0 ?_
      have K := H.pickN 13 [] (by simp) (by decide)
      have hd0 := (K.mine (HL[m].1, D.ints ((rowV B k).take (m + 1))) (show (_, _) ∈ HL.reverse.map (fun p => (p.1, D.ints p.2)) ++ T from List.mem_append_left _ hmem)).1
      refine cLen H (k := M) (by rw [← hM]; exact D.lsti hd0) (by exact zq211 hk hMl) fun t s H => ?_
      refine sp0 ?_
      refine cRange1 H fun r t u v s H hr => ?_
      refine range_src (n := M) rm.handled H hr (by decide) (by exact zq210 hk hMl) (by exact zq209) fun I s H h1 h2 h3 o ho self src => ?_
      refine ⟨_, _, I, _, o, _, rfl, trivial, H, h1, h2, h3, ho, self, H.glob0, fun acc2 c2 f1 f2 f3 f4 f5 f6 f7 => ⟨fun q vals own => ∃ kv vs2, vals = [kv] ∧ IntsAre vs2 ((ser1 (serV B k k) m M).take q) ∧
        own.Perm (lexM L page pos [] ++ ([(k0, .cell (some (.ref L.x))), (k0 + 1, .cell (some (.ref rw))), (k0 + 1 + 1, .cell (some (.ref sr))), (k0 + 1 + 1 + 1, .cell (some (.ref hd))), (cr, .list cs), (rw, .ints (rowV B k)), (sr, .ints (serV B k k)), (hd, .list (HL.map fun p => .ref p.1)), (acc, .list vs), (env'.locals + 1, .cell (some (.int (0 + m) tm))), (acc2, .list vs2)] ++ (HL.reverse.map (fun p => (p.1, D.ints p.2)) ++ T))), ⟨?_, ?_, ?_⟩, src _ _⟩⟩
      · rw [f1]
        refine ⟨none, [], rfl, .nil, ?_⟩
        show List.Perm (_ ++ []) _
        rw [List.append_nil]
        exact tuck_perm 13 _ _
      · obtain ⟨G2, env2, names2, gl2, s02, cl2⟩ := c2
        dsimp only at f1 f2 f3 f4 f5 f6 f7
        subst f1 f2 f3
        rintro q tq F5 _ _ s Qt hq ⟨kv, vs2, rfl, hvs2, hperm2⟩ hF5 H hQ
        have H := H.perm hperm2
        have hvl2 := hvs2.length
        rw [List.length_take, ser1_length] at hvl2
        refine stL H (i := 0) rfl rfl fun s H => ?_
        refine ct0 ?_
        rw [if_pos rfl]
        refine eSub ?_
        refine nC H (j := 0) rfl (H.at (i := 5) rfl) ?_
        refine eBin ?_
        refine nC H (j := 1) rfl (H.at (i := 12) rfl) ?_
        refine nL H (i := 0) rfl rfl ?_
        refine oSub H fun t s H => ?_
        refine subI (H.at (i := 9) rfl) (by exact zq208 hMl hq) (by rw [hsl]; exact zq207 hm) (by rw [hsl]; exact zq206 hk) fun t => ?_
        rw [show ((0 : Int) + m - (0 + q)).toNat = m - q by exact zq205]
        refine cAppend H (i := 13) rfl (by rw [sizeLine_eq]; exact zq204 hk hMl hvl2) fun s H => ?_
        refine hQ _ _ _ ⟨_, _, rfl, ?_, .refl _⟩ H
        rw [List.take_succ_eq_append_getElem (by rw [ser1_length]; exact hq)]
        have e8 : (ser1 (serV B k k) m M)[q]'(by rw [ser1_length]; exact hq) = (serV B k k).getD (m - q) 0 := by simp [ser1]
        rw [e8]
        exact ints_snoc hvs2
      rintro _ _ s ⟨kv, vs2, _, hvs2, hperm2⟩ H
      have H := H.perm hperm2
      rw [List.take_of_length_le (by rw [ser1_length]; exact Nat.le_refl _)] at hvs2
      have H := H.re (i := 13) rfl (d' := .ints (ser1 (serV B k k) m M)) (D.ofInts (H.at (i := 13) rfl) hvs2)
      refine sp0 ⟨(hb'.keeps H.ground).obj 12 rfl, ?_⟩
      have K := H.pickN 14 [] (by simp) (by decide)
      have hd1 := (K.mine (HL[m].1, D.ints ((rowV B k).take (m + 1))) (show (_, _) ∈ HL.reverse.map (fun p => (p.1, D.ints p.2)) ++ T from List.mem_append_left _ hmem)).1
      refine (sum_ok (hb'.keeps H.ground) hd1 (H.at (i := 13) rfl) (by rw [ser1_length, hM]; exact Nat.le_refl _) (by rw [hM]; exact zq203 hk hMl)
        (fun x hx => (hrs x (List.mem_of_mem_take hx)).le (by exact zq202 hk)) (fun x hx => (ser1_sm hss m M x hx).le (by decide))).useI H (rm.le (by decide)) fun t s H => ?_
      rw [ser1_length]
      refine cAppend H (i := 11) rfl (by rw [sizeLine_eq]; exact zq201 hk hvl) fun s H => ?_
      have H := H.pickN 14 [0, 1, 2, 3, 4, 5, 6, 7, 8, 9, 10, 11, 12] (by simp) (by decide)
      refine hQ _ _ _ ⟨_, _, rfl, ?_, .refl _⟩ H
      rw [List.take_succ_eq_append_getElem (show m < (rowV B (k + 1)).length by rw [rowV_length]; exact zq200 hm)]
      have e9 : (rowV B (k + 1))[m]'(by rw [rowV_length]; exact zq200 hm) = dotK ((rowV B k).take (m + 1)) (ser1 (serV B k k) m M) M := by simp [rowV, rowNext, ← hM]
      rw [e9]
      exact ints_snoc hvs
    rintro _ _ s ⟨ic, vs, _, hvs, hperm⟩ H
    have H := H.perm hperm
    rw [List.take_of_length_le (by rw [rowV_length]; exact zq199)] at hvs
    have H := H.re (i := 11) rfl (d' := .ints (rowV B (k + 1))) (D.ofInts (H.at (i := 11) rfl) hvs)
    refine stC H (i := 4) (j := 1) rfl rfl fun s H => ?_
    -- corners.append(row)
    refine x1 (xE H ?_)
    refine eMeth ?_
    refine nL H (i := 1) rfl rfl ?_
    refine gmAppend (H.at (i := 7) rfl) rfl ?_
    refine cwB (sp1 ?_)
    refine nC H (j := 1) rfl (H.at (i := 4) rfl) ?_
    refine sp0 ?_
    refine cAppend H (i := 7) rfl (by rw [sizeLine_eq]; exact zq42 hk hcs) fun s H => ?_
    have H := H.less (own' := lexM L page pos [] ++ ([(k0, .cell (some (.ref L.x))), (k0 + 1, .cell (some (.ref acc))), (k0 + 1 + 1, .cell (some (.ref sr))), (k0 + 1 + 1 + 1, .cell (some (.ref hd))), (cr, .list (cs ++ [.ref acc])), (rw, .ints (rowV B k)), (sr, .ints (serV B k k)), (hd, .list (HL.map fun p => .ref p.1)), (acc, .ints (rowV B (k + 1)))] ++ T))
      (.append_left (.append_left (.cons _ (List.sublist_append_right _ _)) _) _)
    have H := H.pickN 12 [0, 1, 2, 3, 4, 5, 6, 7, 11, 8] (by simp) (by decide)
    exact x0 (hQ _ _ _ ⟨acc, _, _, _, _, _, _, _, _, rfl, rfl, .succ acc hR⟩ H)
  · rintro _ _ s ⟨rw, x2, x3, cs, T, sv, iv, tv, cv, rfl, rfl, hR⟩ H
    -- return corners
    refine x1 (xRet ?_)
    refine nL H (i := 1) rfl rfl ?_
    obtain ⟨a0, a1, a2, a3, rfl, rfl⟩ := hR.four
    have H2 := H.pick 13 [0, 1, 2, 7, 11, 10, 9, 8] rfl (by decide)
    exact ret _ _ (lexM L page pos []) rfl H.keep H.same (H.mt 3) ⟨rfl, cr, a1, a2, a3, rw, rfl, Sg.newM (mt := lexM L page pos []) (mt' := lexM L page pos []) H2 rfl rfl⟩
end
end Mine

end

section
open PySem PySem.Spec PySem.Calls PyProof.Rows PySem.W
set_option Elab.async false
set_option linter.all false
set_option maxRecDepth 100000
set_option autoImplicit false
namespace Mine

theorem cnt_count (c : Nat) : ∀ l : List Nat, cnt c l = (l.count c : Nat)
  | [] => by rw [cnt_nil]; rfl
  | n :: r => by
    rw [cnt_cons, cnt_count c r, List.count_cons]
    by_cases h : n = c
    · rw [if_pos h, if_pos (by simp [h])]; push_cast; exact zq246
    · rw [if_neg h, if_neg (by simp [h])]; push_cast; exact zq245

section
variable {prog : Program} {w : World} {A : Around} {c : Fx} {F : Heap} {vals : List (Option Value)} {own : List (Addr × D)} {s : Shared} {Q : Value → Shared → Prop}
theorem cMin {a b : Int} {t u : Tok} (hh : A.handled = none) (H : Sg c F vals own s) (h : ∀ t s', Sg c F vals own s' → Q (.int (min a b) t) s') : W prog w A (call (.builtin "min") [.int a t, .int b u]) Q s :=
  ⟨min_two_ints hh fun h' tk k => by
    have H' := H.heap (t := tk) k
    by_cases q : b < a
    · have e : min a b = b := by exact zq244 q
      rw [e] at h
      rw [if_pos q]; exact h _ _ H'
    · have e : min a b = a := by exact zq243 q
      rw [e] at h
      rw [if_neg q]; exact h _ _ H'⟩
theorem gmCount {x : Str} {t : Tok} {pl : Sem Bool} {Q : Value × List Value → Shared → Prop} (h : Q (.builtin "str.count", [.str x t]) s) : W prog w A (getMethod (.str x t) "count" pl) Q s := ⟨GM.count h⟩
theorem cCount {l : List Nat} {k : Nat} {t u : Tok} (H : Sg c F vals own s) (h : ∀ t s', Sg c F vals own s' → Q (.int (l.count k : Nat) t) s') : W prog w A (call (.builtin "str.count") [.str (tx l) t, .str (tx [k]) u]) Q s :=
  ⟨SC.count (by
    rw [show (tx [k]) = (⟨#[k]⟩ : Str) from rfl, count_cnt]
    have e : (tx l).cps.toList = l := by simp
    rw [e, cnt_count]
    exact h _ _ H.toks)⟩
theorem cNeL {a b : Addr} {ns ms : List Int} {n : Nat} (r : Room A (n + 6)) (ha : D.At s.heap a (.ints ns)) (hb : D.At s.heap b (.ints ms)) (h : Q (.bool !decide (ns = ms)) s) : W prog w A (compareOp .NotEq (.ref a) (.ref b)) Q s := by
  obtain ⟨vs, e1, i1⟩ := D.isI ha
  obtain ⟨us, e2, i2⟩ := D.isI hb
  exact ⟨ne_intsK e1 i1 e2 i2 (by have := r.units; exact zq242 this) h⟩
theorem eAnd2 {env : Env} {a b : PySem.Expr} {pos : Pos} (h : W prog w A (eval a env) (fun v s₁ => W prog w A (truthy v) (fun t s₂ => if t then W prog w A (eval b env) Q s₂ else Q v s₂) s₁) s) : W prog w A (eval (.BoolOp .And [a, b] pos) env) Q s :=
  ⟨BoolOp_and (h.any fun v s₁ h₁ => h₁.any fun t s₂ h₂ => by cases t <;> first | exact h₂ | exact BoolOp_one h₂.out)⟩
theorem cEqB {a b : Bool} (h : Q (.bool (a == b)) s) : W prog w A (compareOp .Eq (.bool a) (.bool b)) Q s := ⟨@PyProof.Rows.eq_bool _ _ _ _ _ _ _ _ h⟩

/-- x, y = a, b, by the swap of the stores -/
theorem xTupS {Q : Flow → Shared → Prop} {env : Env} {elts : List PySem.Expr} {k : Nat} {tpos : Pos} {value : PySem.Expr} {pos : Pos} (hh : A.handled = none) (x y : Str) (hw : swappedStores [.Tuple elts k tpos] value env = pure (some [x, y]))
    (h : W prog w A (eval value env) (fun v s₁ => ∃ c F vals own T a b, v = .ref T ∧ Sg c F vals own s₁ ∧ D.At s₁.heap T (tupO [a, b]) ∧
      ∀ s₂, Sg c F vals own s₂ → W prog w A (storeName env y b) (fun _ s₃ => W prog w A (storeName env x a) (fun _ => Q .next) s₃) s₂) s)
    (hs : swapsWithSole [.Tuple elts k tpos] value pos.line env = pure false := by rfl) : W prog w A (exec (.Assign [.Tuple elts k tpos] value pos) env) Q s := by
  refine ⟨Assign_Tuple_swapped (names := [x, y]) (h.any fun v s₁ h₁ => ?_) hs hw⟩
  obtain ⟨c, F, vals, own, T, a, b, rfl, H, hT, k⟩ := h₁
  refine unpackItems_tuple (items := [a, b].toArray) hh (isTup hT) fun h' he => ?_
  have hk : s₁.heap.StaysIn h' := fun b o e => he b o (Nat.ne_of_lt (Heap.lt_size e)) e
  have := k _ (H.heap (t := s₁.toks) hk)
  show wpAny _ _ (assignInOrder [bindName env y, bindName env x] [b, a]) _ _ _
  refine W.out (ai1 (t := bindName env y) ⟨bindName_ (this.any fun _ s₂ h₂ => ?_)⟩)
  exact (ai1 (t := bindName env x) ⟨bindName_ (h₂.any fun _ s₃ h₃ => ai0 h₃)⟩)
end
end Mine

end

section
open PySem PySem.Spec PySem.Calls PyProof.Rows PySem.W
set_option Elab.async false
set_option linter.all false
set_option maxRecDepth 100000
set_option autoImplicit false
namespace Mine

/-! what the law reckons -/
noncomputable def drawsK (sc : List Int) : Nat → List Int
  | 0 => [31, 27, 85, 50, 8]
  | k + 1 => (drawsK sc k).set (k % 5) ((drawsK sc k).getD (k % 5) 0 + sc.getD k 0 % 1000000)
theorem drawsK_length (sc : List Int) : ∀ k, (drawsK sc k).length = 5
  | 0 => rfl
  | k + 1 => by rw [drawsK, List.length_set, drawsK_length sc k]
theorem mem_set {α : Type} {l : List α} {i : Nat} {a x : α} (h : x ∈ l.set i a) : x ∈ l ∨ x = a := List.mem_or_eq_of_mem_set h
theorem drawsK_nonneg (sc : List Int) : ∀ k, ∀ x ∈ drawsK sc k, 0 ≤ x
  | 0 => by
    show ∀ x ∈ ([31, 27, 85, 50, 8] : List Int), 0 ≤ x
    decide
  | k + 1 => fun x hx => by
    have ih := drawsK_nonneg sc k
    rcases mem_set hx with h | h
    · exact ih x h
    · have h1 : 0 ≤ (drawsK sc k).getD (k % 5) 0 := getD_all ih (by rw [drawsK_length]; exact zq280)
      have h2 := Int.emod_nonneg (sc.getD k 0) (show (1000000 : Int) ≠ 0 by decide)
      exact zq279 h h1

structure Ch where
  f : List Int
  g : List Int
  falls : List (Int × Int)
noncomputable def chNew (c : Ch) (d : Int) : List Int := ahead (drawn (d / 3) (min (1 + d % 3) (5 - c.f.length)).toNat) c.f c.g
noncomputable def chStep (c : Ch) (d : Int) : Ch := if c.f.length < 5 then ⟨chNew c d, c.f, (min (1 + d % 3) (5 - c.f.length), (chNew c d).getD 0 0 * c.f.getD 0 0) :: c.falls⟩ else c
noncomputable def ch0 (d : Int) : Ch := ⟨drawn (d / 3) (d % 3).toNat, [], []⟩
noncomputable def chK (ds : List Int) : Nat → Ch
  | 0 => ch0 (ds.getD 0 0)
  | k + 1 => chStep (chK ds k) (ds.getD (k + 1) 0)

theorem drawn_length (x : Int) (d : Nat) : (drawn x d).length = d + 1 := by simp [drawn, coefK_length]
theorem ahead_length (q row behind : List Int) : (ahead q row behind).length = q.length + row.length - 1 := by rw [ahead, aheadB_length, aheadI_length, List.length_replicate]
noncomputable def Le (n : Nat) (x : Int) : Prop := x.natAbs ≤ n
theorem coefK_le (m : Int) : ∀ k, ∀ x ∈ coefK m k, Le 1 x
  | 0 => fun x hx => nomatch hx
  | k + 1 => fun x hx => by
    rcases List.mem_append.mp hx with h | h
    · exact coefK_le m k x h
    · rw [List.mem_singleton] at h; subst h
      have h1 := Int.emod_nonneg (divK m k) (show (3 : Int) ≠ 0 by decide)
      have h2 := Int.emod_lt_of_pos (divK m k) (show (0 : Int) < 3 by decide)
      unfold Le; exact zq278
theorem drawn_le (x : Int) (d : Nat) : ∀ y ∈ drawn x d, Le 2 y := by
  intro y hy
  rcases List.mem_cons.mp hy with rfl | hy
  · have h1 := Int.emod_nonneg x (show (4 : Int) ≠ 0 by decide)
    have h2 := Int.emod_lt_of_pos x (show (0 : Int) < 4 by decide)
    generalize hm : (x % 4).toNat = m
    have hm4 : m < 4 := by exact zq277 hm
    unfold Le
    rcases m with _ | _ | _ | _ | m
    · decide
    · decide
    · decide
    · decide
    · exact zq276 hm4
  · exact Nat.le_trans (coefK_le _ _ y hy) (by decide)
theorem getD_le {n : Nat} {l : List Int} (h : ∀ x ∈ l, Le n x) (k : Nat) : Le n (l.getD k 0) := by
  by_cases hk : k < l.length
  · exact getD_all h hk
  · rw [List.getD_eq_getElem?_getD, List.getElem?_eq_none (by exact zq154 hk)]; exact Nat.zero_le _
theorem Le.mono {n m : Nat} {x : Int} (h : Le n x) (k : n ≤ m) : Le m x := Nat.le_trans h k
theorem aheadJ_le {N M R : Nat} {new q row : List Int} (i : Nat) (hn : ∀ x ∈ new, Le N x) (hq : ∀ x ∈ q, Le M x) (hr : ∀ x ∈ row, Le R x) : ∀ k, ∀ x ∈ aheadJ new q row i k, Le (N + k * (M * R)) x
  | 0 => fun x hx => (hn x hx).mono (by exact zq275)
  | k + 1 => fun x hx => by
    have ih := aheadJ_le i hn hq hr k
    rw [Nat.succ_mul]
    rcases mem_set hx with h | h
    · exact (ih x h).mono (by exact zq274)
    · subst h
      have h1 := getD_le ih (i + k)
      have h2 := Nat.mul_le_mul (getD_le hq i) (getD_le hr k)
      have h3 := Int.natAbs_add_le ((aheadJ new q row i k).getD (i + k) 0) (q.getD i 0 * row.getD k 0)
      rw [Int.natAbs_mul] at h3
      unfold Le at *; exact zq273 h1 h2 h3
theorem aheadI_le {N M R : Nat} {new q row : List Int} (hn : ∀ x ∈ new, Le N x) (hq : ∀ x ∈ q, Le M x) (hr : ∀ x ∈ row, Le R x) : ∀ i, ∀ x ∈ aheadI new q row i, Le (N + i * (row.length * (M * R))) x
  | 0 => fun x hx => (hn x hx).mono (by exact zq272)
  | i + 1 => fun x hx => by
    have := aheadJ_le i (aheadI_le hn hq hr i) hq hr row.length x hx
    rw [Nat.succ_mul]
    exact this.mono (by exact zq271)
theorem aheadB_le {N G : Nat} {new behind : List Int} (o : Nat) (hn : ∀ x ∈ new, Le N x) (hb : ∀ x ∈ behind, Le G x) : ∀ k, ∀ x ∈ aheadB new behind o k, Le (N + k * G) x
  | 0 => fun x hx => (hn x hx).mono (by exact zq270)
  | k + 1 => fun x hx => by
    have ih := aheadB_le o hn hb k
    rw [Nat.succ_mul]
    rcases mem_set hx with h | h
    · exact (ih x h).mono (by exact zq269)
    · subst h
      have h1 := getD_le ih (o + k)
      have h2 := getD_le hb k
      unfold Le at *; exact zq268 h1 h2

/-- the chain, as far as it is built -/
structure ChOk (c : Ch) (k : Nat) : Prop where
  fl : 1 ≤ c.f.length ∧ c.f.length ≤ 5
  gl : c.g.length < c.f.length
  ge : c.f.length < 5 ∨ 1 ≤ c.g.length
  grow : c.f.length = 5 ∨ k + 1 ≤ c.f.length
  fs : ∀ x ∈ c.f, Le (2 * 100 ^ k) x
  gs : ∀ x ∈ c.g, Le (2 * 100 ^ k) x
  fa : ∀ p ∈ c.falls, 1 ≤ p.1 ∧ p.1 ≤ 3 ∧ Le (4 * 10000 ^ k) p.2
  su : (c.falls.map (·.1)).sum ≤ (c.f.length : Int) - 1
theorem ch0_ok (d : Int) : ChOk (ch0 d) 0 := by
  have h1 := Int.emod_nonneg d (show (3 : Int) ≠ 0 by decide)
  have h2 := Int.emod_lt_of_pos d (show (0 : Int) < 3 by decide)
  have e : (ch0 d).f.length = (d % 3).toNat + 1 := drawn_length ..
  have e2 : (ch0 d).g.length = 0 := rfl
  exact ⟨by exact zq267 e, by exact zq266 e e2, by exact zq265 e, by exact zq264 e, drawn_le _ _, fun x hx => (nomatch hx), fun p hp => (nomatch hp), by show (0 : Int) ≤ _; exact zq263 e⟩
theorem chStep_ok {c : Ch} {k : Nat} (h : ChOk c k) (d : Int) : ChOk (chStep c d) (k + 1) := by
  have e100 : 2 * 100 ^ (k + 1) = 100 * (2 * 100 ^ k) := by rw [Nat.pow_succ]; exact zq262
  have e10k : 4 * 10000 ^ (k + 1) = 10000 * (4 * 10000 ^ k) := by rw [Nat.pow_succ]; exact zq261
  have eprod : 100 * (2 * 100 ^ k) * (2 * 100 ^ k) = 100 * (4 * 10000 ^ k) := by
    have : (10000 : Nat) ^ k = 100 ^ k * 100 ^ k := by rw [← Nat.mul_pow]
    rw [this]
    generalize 100 ^ k = z
    rw [Nat.mul_assoc, show 2 * z * (2 * z) = 4 * (z * z) by rw [Nat.mul_mul_mul_comm]]
  have hfl := h.fl
  have hgl := h.gl
  have hsu := h.su
  unfold chStep
  split
  · rename_i hlt
    have h1 := Int.emod_nonneg d (show (3 : Int) ≠ 0 by decide)
    have h2 := Int.emod_lt_of_pos d (show (0 : Int) < 3 by decide)
    generalize hfa : min (1 + d % 3) (5 - (c.f.length : Int)) = fall
    have hf1 : 1 ≤ fall ∧ fall ≤ 3 ∧ fall + c.f.length ≤ 5 := by exact zq260 hlt hfa
    have hnl : (chNew c d).length = fall.toNat + c.f.length := by
      unfold chNew
      rw [hfa, ahead_length, drawn_length]; exact zq259
    have hns : ∀ x ∈ chNew c d, Le (100 * (2 * 100 ^ k)) x := fun x hx => by
      have q1 : ∀ x ∈ List.replicate ((drawn (d / 3) fall.toNat).length + c.f.length - 1) (0 : Int), Le 0 x := fun x hx => by
        rw [(List.mem_replicate.mp hx).2]; exact Nat.le_refl _
      have q2 := aheadI_le q1 (drawn_le (d / 3) fall.toNat) h.fs (drawn (d / 3) fall.toNat).length
      have q3 := aheadB_le ((drawn (d / 3) fall.toNat).length + c.f.length - 1 - c.g.length) q2 h.gs c.g.length x (by unfold chNew at hx; rw [hfa] at hx; exact hx)
      refine q3.mono ?_
      rw [drawn_length]
      generalize 2 * 100 ^ k = z
      have a1 : (fall.toNat + 1) * (c.f.length * (2 * z)) ≤ 4 * (5 * (2 * z)) := Nat.mul_le_mul (by exact zq258 hf1) (Nat.mul_le_mul_right _ (by exact zq257 hlt))
      have a2 : c.g.length * z ≤ 5 * z := Nat.mul_le_mul_right _ (by exact zq256 hgl hlt)
      exact zq255 a1 a2
    refine ⟨?_, ?_, ?_, ?_, ?_, ?_, ?_, ?_⟩
    · show 1 ≤ (chNew c d).length ∧ (chNew c d).length ≤ 5; exact zq254 hf1 hnl
    · show c.f.length < (chNew c d).length; exact zq253 hf1 hnl
    · exact .inr hfl.1
    · show (chNew c d).length = 5 ∨ _ ≤ (chNew c d).length
      have := h.grow; exact zq252 hf1 hnl this
    · rw [e100]; exact hns
    · rw [e100]; exact fun x hx => (h.fs x hx).mono (by exact zq248)
    · intro p hp
      rcases List.mem_cons.mp hp with rfl | hp
      · refine ⟨hf1.1, hf1.2.1, ?_⟩
        show (_ * _ : Int).natAbs ≤ _
        rw [Int.natAbs_mul, e10k]
        have a := Nat.mul_le_mul (getD_le hns 0) (getD_le h.fs 0)
        rw [eprod] at a
        exact zq251 a
      · have := h.fa p hp
        exact ⟨this.1, this.2.1, this.2.2.mono (by rw [e10k]; exact zq247)⟩
    · show (fall :: c.falls.map (·.1)).sum ≤ ((chNew c d).length : Int) - 1
      rw [List.sum_cons]; exact zq250 hsu hnl
  · rename_i hge
    exact ⟨hfl, hgl, h.ge, .inl (by exact zq249 hfl hge), fun x hx => (h.fs x hx).mono (by rw [e100]; exact zq248), fun x hx => (h.gs x hx).mono (by rw [e100]; exact zq248), fun p hp => ⟨(h.fa p hp).1, (h.fa p hp).2.1, (h.fa p hp).2.2.mono (by rw [e10k]; exact zq247)⟩, hsu⟩
theorem chK_ok (ds : List Int) : ∀ k, ChOk (chK ds k) k
  | 0 => ch0_ok _
  | k + 1 => chStep_ok (chK_ok ds k) _

noncomputable def nine (c : Ch) : List Int := c.f ++ List.replicate (4 - c.g.length) 0 ++ c.g
noncomputable def sqF (l : List Int) : List Int := l.take 5
noncomputable def sqG (l : List Int) : List Int := 0 :: l.drop 5
noncomputable def sqB (l : List Int) : List (List Int) := [under (sqF l) (sqG l) 4, under (sqF l) (sqG l) 3, under (sqF l) (sqG l) 2, under (sqF l) (sqG l) 1]

structure Due where
  due : List Int
  reach : Int
  corner : Int
  balance : Int
noncomputable def dueStep (x : Due) (p : Int × Int) : Due :=
  let corner := x.corner * p.2 ^ p.1.toNat * [1, 1, -1, -1].getD p.1.toNat 0
  ⟨x.due.set (x.reach + p.1 - 1).toNat corner, x.reach + p.1, corner, if p.1 % 2 = 1 then x.balance + (if 0 < p.2 then 1 else -1) else x.balance⟩
noncomputable def dueK (falls : List (Int × Int)) : Nat → Due
  | 0 => ⟨[0, 0, 0, 0], 0, 1, 0⟩
  | k + 1 => dueStep (dueK falls k) (falls.getD k (0, 0))
noncomputable def lasts (B : List (List Int)) : List Int := (List.range 4).map fun n => (rowV B (n + 1)).getLastD 0 * (-1) ^ (n + 1)
noncomputable def altRow (r : List Int) : List Int := (List.range 5).map fun k => if k % 2 = 0 then r.getD k 0 else -(r.getD k 0)
/-- what the law asks -/
structure Asks (ds : List Int) : Prop where
  due : lasts (sqB (nine (chK ds 4))) = (dueK (chK ds 4).falls (chK ds 4).falls.length).due
  sum : (changes (rowV (sqB (nine (chK ds 4))) 4) : Int) + changes (altRow (rowV (sqB (nine (chK ds 4))) 4)) = (dueK (chK ds 4).falls (chK ds 4).falls.length).reach
  dif : (changes (rowV (sqB (nine (chK ds 4))) 4) : Int) - changes (altRow (rowV (sqB (nine (chK ds 4))) 4)) = (dueK (chK ds 4).falls (chK ds 4).falls.length).balance
end Mine

end

section
open PySem PySem.Spec PySem.Calls PyProof.Rows PySem.W
set_option Elab.async false
set_option linter.all false
set_option maxRecDepth 100000
set_option autoImplicit false
namespace Mine

/-! the page, word by word -/
noncomputable def sepK (turn k : Nat) : Nat := [32, 10, 9, 13].getD ((turn / 3 + k) % 4) 0
noncomputable def restR (ws : List (List Nat)) (turn n : Nat) : Nat → List Nat
  | 0 => []
  | r + 1 => partK ((turn + (n - (r + 1))) % 3) (ws.getD (n - (r + 1)) []) ++ sepK turn (n - (r + 1)) :: restR ws turn n r
theorem page_split (ws : List (List Nat)) (turn n : Nat) : ∀ r, r ≤ n → pageK ws turn (n - r) ++ restR ws turn n r = pageK ws turn n
  | 0, _ => by rw [restR, List.append_nil]; rfl
  | r + 1, h => by
    have ih := page_split ws turn n r (by exact zq110 h)
    rw [restR, ← ih, show n - r = (n - (r + 1)) + 1 by exact zq289 h, pageK]
    simp only [List.append_assoc]
    rfl
theorem page_all (ws : List (List Nat)) (turn n : Nat) : restR ws turn n n = pageK ws turn n := by
  have := page_split ws turn n n (Nat.le_refl n)
  rw [Nat.sub_self] at this
  exact this
theorem sepK_ws (turn k : Nat) : isWs (sepK turn k) := by
  unfold sepK isWs
  have h : (turn / 3 + k) % 4 < 4 := Nat.mod_lt _ (by decide)
  generalize (turn / 3 + k) % 4 = m at h
  rcases m with _ | _ | _ | _ | m
  · decide
  · decide
  · decide
  · decide
  · omega
/-- what a token leaves: blanks, then the words to come -/
theorem tail_next {ws : List (List Nat)} {turn n r : Nat} : ∃ pre, tailO (some ((turn + (n - (r + 1))) % 3, ws.getD (n - (r + 1)) [], sepK turn (n - (r + 1)), restR ws turn n r)) = pre ++ restR ws turn n r ∧ ∀ c ∈ pre, isWs c := by
  unfold tailO
  dsimp only
  split
  · exact ⟨[sepK turn (n - (r + 1))], rfl, fun c hc => by rw [List.mem_singleton] at hc; subst hc; exact sepK_ws _ _⟩
  · exact ⟨[], rfl, fun c hc => nomatch hc⟩
theorem word_wordy (x : Int) : ∀ c ∈ word x, wordy c := by
  intro c hc
  unfold word at hc
  rcases List.mem_cons.mp hc with rfl | hc
  · split <;> exact ⟨by decide, by decide, by decide⟩
  · have := ap_range _ c hc
    refine ⟨?_, by exact zq288 this, by exact zq287 this⟩
    intro h
    simp only [List.mem_cons, List.not_mem_nil, or_false] at h
    exact zq286 this h
theorem word_ascii (x : Int) : ∀ c ∈ word x, c < 128 := by
  intro c hc
  unfold word at hc
  rcases List.mem_cons.mp hc with rfl | hc
  · split <;> decide
  · have := ap_range _ c hc; exact zq96 this
theorem word_ne (x : Int) : word x ≠ [] := by simp [word]

/-! the falls as tuples -/
inductive FallsAre : List (Int × Int) → List Value → List (Addr × D) → Prop
  | nil : FallsAre [] [] []
  | cons {ps : List (Int × Int)} {vs : List Value} {T : List (Addr × D)} (a : Addr) (x y : Int) (t u : Tok) : FallsAre ps vs T → FallsAre ((x, y) :: ps) (.ref a :: vs) ((a, tupO [.int x t, .int y u]) :: T)
theorem FallsAre.length : ∀ {ps : List (Int × Int)} {vs : List Value} {T : List (Addr × D)}, FallsAre ps vs T → vs.length = ps.length
  | _, _, _, .nil => rfl
  | _, _, _, .cons _ _ _ _ _ h => by rw [List.length_cons, List.length_cons, h.length]
theorem FallsAre.get : ∀ {ps : List (Int × Int)} {vs : List Value} {T : List (Addr × D)} {k : Nat} {v : Value}, FallsAre ps vs T → vs[k]? = some v → ∃ a t u, v = .ref a ∧ (a, tupO [.int (ps.getD k (0, 0)).1 t, .int (ps.getD k (0, 0)).2 u]) ∈ T
  | _, _, _, 0, _, .cons a x y t u h, e => by
    simp at e
    exact ⟨a, t, u, e.symm, .head _⟩
  | _, _, _, k + 1, _, .cons a x y t u h, e => by
    obtain ⟨a', t', u', e1, e2⟩ := h.get (k := k) (by simpa using e)
    exact ⟨a', t', u', e1, List.mem_cons_of_mem _ e2⟩

/-! sizes -/
theorem Le.sm {n k : Nat} {x : Int} (h : Le n x) (e : n < 2 ^ k) : Sm k x := Nat.lt_of_le_of_lt h e
theorem under_sm {M : Nat} {f g : List Int} (hf : ∀ x ∈ f, Le M x) (hg : ∀ x ∈ g, Le M x) : ∀ k, ∀ x ∈ under f g k, Le (k * (2 * (M * M))) x
  | 0 => fun x hx => by
    have : x = 0 := by simpa [under] using hx
    subst this; exact Nat.zero_le _
  | k + 1 => fun x hx => by
    have ih := under_sm hf hg k
    have row : ∀ m, ∀ y ∈ sqRow f g (under f g k) (3 - k) m, Le ((k + 1) * (2 * (M * M))) y := by
      intro m
      induction m with
      | zero => intro y hy; cases hy
      | succ m ihm =>
        intro y hy
        rcases List.mem_append.mp hy with hy | hy
        · exact ihm y hy
        · rw [List.mem_singleton] at hy; subst hy
          have p1 := Nat.mul_le_mul (getD_le hf m) (getD_le hg (3 - k + 1))
          have p2 := Nat.mul_le_mul (getD_le hf (3 - k + 1)) (getD_le hg m)
          rw [← Int.natAbs_mul] at p1 p2
          have p3 := getD_le ih (m - 1)
          rw [Nat.succ_mul]
          unfold Le at p3 ⊢
          generalize k * (2 * (M * M)) = z at *
          generalize M * M = w at *
          unfold sqE
          split <;> (first | exact zq284 p3 p1 p2 | exact zq285 p1 p2 | omega)
    exact row 4 x hx
theorem sqB_ok {l : List Int} (h : ∀ x ∈ l, Sm 60 x) : SqOk (sqB l) := by
  have hf : ∀ x ∈ sqF l, Sm 60 x := fun x hx => h x (List.mem_of_mem_take hx)
  have hg : ∀ x ∈ sqG l, Sm 60 x := fun x hx => by
    rcases List.mem_cons.mp hx with rfl | hx
    · exact Nat.two_pow_pos _
    · exact h x (List.mem_of_mem_drop hx)
  have one : ∀ k, k ≤ 4 → (under (sqF l) (sqG l) k).length = 4 ∧ ∀ x ∈ under (sqF l) (sqG l) k, Sm 200 x := fun k hk => ⟨under_length _ _ _, fun x hx => by
    have := under_sm (M := 2 ^ 60) (fun x hx => Nat.le_of_lt (hf x hx)) (fun x hx => Nat.le_of_lt (hg x hx)) k x hx
    have h4 : k * (2 * (2 ^ 60 * 2 ^ 60)) ≤ 4 * (2 * (2 ^ 60 * 2 ^ 60)) := Nat.mul_le_mul_right _ hk
    exact Nat.lt_of_le_of_lt (Nat.le_trans this h4) (by decide)⟩
  refine ⟨rfl, fun r hr => ?_⟩
  simp only [sqB, List.mem_cons, List.not_mem_nil, or_false] at hr
  rcases hr with rfl | rfl | rfl | rfl
  · exact one 4 (by decide)
  · exact one 3 (by decide)
  · exact one 2 (by decide)
  · exact one 1 (by decide)
theorem nine_length {c : Ch} {k : Nat} (h : ChOk c k) (h5 : c.f.length = 5) : (nine c).length = 9 := by
  have := h.gl
  simp only [nine, List.length_append, List.length_replicate]
  exact zq283 h5 this
theorem nine_sm {ds : List Int} : ∀ x ∈ nine (chK ds 4), Sm 28 x := by
  have h := chK_ok ds 4
  intro x hx
  rcases List.mem_append.mp hx with hx | hx
  · rcases List.mem_append.mp hx with hx | hx
    · exact (h.fs x hx).sm (by decide)
    · rw [(List.mem_replicate.mp hx).2]; exact Nat.two_pow_pos _
  · exact (h.gs x hx).sm (by decide)
theorem ch_done (ds : List Int) : (chK ds 4).f.length = 5 := by
  have h := chK_ok ds 4
  have := h.grow; have := h.fl; omega

/-- the reckoning of what is due, as far as it goes -/
structure DueOk (falls : List (Int × Int)) (k : Nat) : Prop where
  len : (dueK falls k).due.length = 4
  reach : (dueK falls k).reach = ((falls.take k).map (·.1)).sum
  r0 : 0 ≤ (dueK falls k).reach
  cor : (dueK falls k).corner.natAbs ≤ (2 ^ 60) ^ (dueK falls k).reach.toNat
theorem duek_ok {falls : List (Int × Int)} (h : ∀ p ∈ falls, 1 ≤ p.1 ∧ p.1 ≤ 3 ∧ Le (2 ^ 60) p.2) : ∀ k, k ≤ falls.length → DueOk falls k
  | 0, _ => ⟨rfl, rfl, Int.le_refl 0, by show (1 : Int).natAbs ≤ (2 ^ 60) ^ 0; decide⟩
  | k + 1, hk => by
    have ih := duek_ok h k (by exact zq110 hk)
    have hp : falls.getD k (0, 0) ∈ falls := by
      rw [List.getD_eq_getElem?_getD, List.getElem?_eq_getElem (by exact zq189 hk)]; exact List.getElem_mem _
    have hq := h _ hp
    have e1 : (dueK falls (k + 1)).reach = (dueK falls k).reach + (falls.getD k (0, 0)).1 := rfl
    have r0 := ih.r0
    refine ⟨by rw [dueK, dueStep]; exact (List.length_set ..).trans ih.len, ?_, by omega, ?_⟩
    · rw [e1, ih.reach, List.take_succ_eq_append_getElem (by exact zq189 hk), List.map_append, List.sum_append]
      have : falls.getD k (0, 0) = falls[k] := by rw [List.getD_eq_getElem?_getD, List.getElem?_eq_getElem (by exact zq189 hk)]; rfl
      rw [this]; simp
    · have e2 : (dueK falls (k + 1)).corner = (dueK falls k).corner * (falls.getD k (0, 0)).2 ^ (falls.getD k (0, 0)).1.toNat * [1, 1, -1, -1].getD (falls.getD k (0, 0)).1.toNat 0 := rfl
      have e3 : ((dueK falls k).reach + (falls.getD k (0, 0)).1).toNat = (dueK falls k).reach.toNat + (falls.getD k (0, 0)).1.toNat := by omega
      rw [e1, e2, e3, Int.natAbs_mul, Int.natAbs_mul, Int.natAbs_pow, Nat.pow_add]
      have a1 := Nat.pow_le_pow_left hq.2.2 (falls.getD k (0, 0)).1.toNat
      have a2 := Nat.mul_le_mul ih.cor a1
      have a3 : ([1, 1, -1, -1].getD (falls.getD k (0, 0)).1.toNat (0 : Int)).natAbs ≤ 1 := by
        have hm : (falls.getD k (0, 0)).1.toNat < 4 := by omega
        generalize (falls.getD k (0, 0)).1.toNat = m at hm
        rcases m with _ | _ | _ | _ | m
        · decide
        · decide
        · decide
        · decide
        · exact zq282 hm
      exact Nat.le_trans (Nat.mul_le_mul a2 a3) (by rw [Nat.mul_one]; exact Nat.le_refl _)
theorem sum_take_le {l : List Int} (h : ∀ x ∈ l, 0 ≤ x) (k : Nat) : (l.take k).sum ≤ l.sum := by
  have e : l = l.take k ++ l.drop k := (List.take_append_drop k l).symm
  have : 0 ≤ (l.drop k).sum := by
    have hd : ∀ x ∈ l.drop k, 0 ≤ x := fun x hx => h x (List.mem_of_mem_drop hx)
    generalize l.drop k = m at hd
    induction m with
    | nil => exact Int.le_refl _
    | cons a m ih => rw [List.sum_cons]; have := hd a (.head _); have := ih fun x hx => hd x (.tail _ hx); omega
  conv => rhs; rw [e, List.sum_append]
  exact zq281 this
end Mine

end

section
open PySem PySem.Spec PySem.Calls PyProof.Rows PySem.W
set_option Elab.async false
set_option linter.all false
set_option maxRecDepth 100000
set_option autoImplicit false
set_option maxHeartbeats 1000000
namespace Mine

noncomputable abbrev lawNames : List Str := ["script", "draws", "k", "f", "g", "falls", "draw", "fall", "new", "page", "told", "due", "reach", "corner", "balance", "both", "up", "down"]
/-- the law's frame -/
noncomputable abbrev lawC (G : Heap) (env : Env) (ad : Ads) (s0 : Shared) (k0 : Addr) : Fx := ⟨G, env, lawNames, Mine.pick (gtab ad) [20, 19, 9, 26, 10, 8, 15, 13, 11, 14], s0, clOf k0 ["lexer", "corners"] []⟩

section
variable {prog : Program} {w : World} {A : Around} {G F : Heap} {env : Env} {own : List (Addr × D)} {s s0 : Shared} {ad : Ads} {k0 P sc : Addr} {script : List Int} {Q : Flow → Shared → Prop}

theorem law1 {v1 v2 v3 v4 v5 v6 v7 v8 v9 v10 v11 v12 v13 v14 v15 v16 v17 : Option Value} {T : List (Addr × D)} (rm : Room A 7) (hsc : D.At G sc (.ints script)) (hlen : script.length ≤ 100000)
    (H : Sg (lawC G env ad s0 k0) F [some (.ref sc), v1, v2, v3, v4, v5, v6, v7, v8, v9, v10, v11, v12, v13, v14, v15, v16, v17] T s)
    (h : ∀ dr v2 s, Sg (lawC G env ad s0 k0) F [some (.ref sc), some (.ref dr), v2, v3, v4, v5, v6, v7, v8, v9, v10, v11, v12, v13, v14, v15, v16, v17] ((dr, .ints (drawsK script (min 20 script.length))) :: T) s → W prog w A (execs ((dBody (stm 72)).drop 2) env) Q s) :
    W prog w A (execs (dBody (stm 72)) env) Q s := by
  -- draws = [31, 27, 85, 50, 8]
  refine x1 (xAsg ?_)
  refine eList (sp1 ?_)
  refine kI H fun t s H => sp1 ?_
  refine kI H fun t s H => sp1 ?_
  refine kI H fun t s H => sp1 ?_
  refine kI H fun t s H => sp1 ?_
  refine kI H fun t s H => sp0 ?_
  refine mkInts (ns := drawsK script 0) H (.cons _ _ (.cons _ _ (.cons _ _ (.cons _ _ (.cons _ _ .nil))))) fun dr s H => ?_
  have H := H.tuck 0
  refine stL H (i := 1) rfl rfl fun s H => ?_
  -- for k in range(len(script[:20])):
  refine x1 (for_range0 rm.handled H ?_)
  refine eCall ?_
  refine nG H (j := 0) rfl ?_
  refine cwT (sp1 ?_)
  refine eCall ?_
  refine nG H (j := 1) rfl ?_
  refine cwB (sp1 ?_)
  refine eSub ?_
  refine nL H (i := 0) rfl rfl ?_
  refine eSl ?_
  refine evN ?_
  refine evP ?_
  refine kI H fun t s H => ?_
  refine ⟨_, _, _, _, H, fun a s H hsl _ => ?_⟩
  refine subISl (lo := none) (hi := some ((20 : Nat) : Int)) H (H.gr hsc) hsl .none (.int _ _) (by exact zq298 hlen) fun q s H => ?_
  rw [cut_to] at H
  have hll : (script.take 20).length = min 20 script.length := List.length_take
  refine sp0 ?_
  refine cLen H (D.lsti (H.tuck 0 |>.at (i := 0) rfl)) (by rw [hll]; exact zq297) fun t s H => ?_
  have H := H.less (List.sublist_append_left _ _)
  refine sp0 ?_
  refine cRange1 H fun r t u v s H hr => ?_
  refine ⟨_, _, r, _, t, u, v, min 20 script.length, fun k vals own => ∃ kv, vals = [some (.ref sc), some (.ref dr), kv, v3, v4, v5, v6, v7, v8, v9, v10, v11, v12, v13, v14, v15, v16, v17] ∧ own = (dr, .ints (drawsK script k)) :: T, rfl, H, hr, by rw [hll]; exact zq296, by rw [hll]; exact zq295, ⟨_, rfl, rfl⟩, ?_, ?_⟩
  · rintro k tk F' _ _ s Qt hk ⟨kv, rfl, rfl⟩ hF H hQ hRt
    have hdl := drawsK_length script k
    refine stL H (i := 2) rfl rfl fun s H => ?_
    -- draws[k % 5] += script[k] % 1000000
    refine x1 (xAugSub ?_)
    refine nL H (i := 1) rfl rfl ?_
    refine eBin ?_
    refine nL H (i := 2) rfl rfl ?_
    refine kI H fun t s H => ?_
    refine oMod H (by decide) fun t s H => ?_
    have ek : ((k : Int) % 5) = ((k % 5 : Nat) : Int) := by exact zq294
    rw [ek]
    refine gInt (H.at (i := 0) rfl) (by exact zq291) (by rw [hdl]; exact zq290) (by rw [hdl]; decide) fun t => ?_
    refine eBin ?_
    refine eSub ?_
    refine nL H (i := 0) rfl rfl ?_
    refine nL H (i := 2) rfl rfl ?_
    refine subI (H.gr hsc) (by exact zq38) (by exact zq293 hk) (by exact zq292 hlen) fun t => ?_
    refine kI H fun t s H => ?_
    refine oMod H (by decide) fun t s H => ?_
    refine iAdd H fun t s H => ?_
    refine setI H (i := 0) rfl (by exact zq291) (by rw [hdl]; exact zq290) (by rw [hdl]; decide) fun s H => ?_
    exact x0 (hQ _ _ _ ⟨_, rfl, rfl⟩ H)
  · rintro _ _ s ⟨kv, rfl, rfl⟩ H
    exact h dr kv s H
end
end Mine

end

section
open PySem PySem.Spec PySem.Calls PyProof.Rows PySem.W
set_option Elab.async false
set_option linter.all false
set_option maxRecDepth 100000
set_option autoImplicit false
set_option maxHeartbeats 1000000
namespace Mine
noncomputable def asgT : Stmt → List PySem.Expr
  | .Assign t _ _ => t
  | _ => []
noncomputable def asgV : Stmt → PySem.Expr
  | .Assign _ v _ => v
  | _ => .Constant .none 0 ⟨0, 0, 0, 0⟩
noncomputable def inB : Stmt → List Stmt
  | .For _ _ b _ _ => b
  | .If _ b _ _ => b
  | _ => []
noncomputable abbrev lawS (i : Nat) : Stmt := dStm (stm 72) i
noncomputable abbrev fgS : Stmt := (inB ((inB (lawS 4)).getD 0 (.Pass default))).getD 3 (.Pass default)
theorem sw1 {e : Env} (h : e.scope = dScope (stm 72)) : swappedStores (asgT (lawS 2)) (asgV (lawS 2)) e = pure (some ([Str.ofString "f", Str.ofString "g"])) := by
  obtain ⟨a, b, c, d, f, g, i, j, k⟩ := e
  dsimp only at h
  subst h
  kernel_rfl
theorem sw2 {e : Env} (h : e.scope = dScope (stm 72)) : swappedStores (asgT fgS) (asgV fgS) e = pure (some ([Str.ofString "f", Str.ofString "g"])) := by
  obtain ⟨a, b, c, d, f, g, i, j, k⟩ := e
  dsimp only at h
  subst h
  kernel_rfl
theorem cut_from (l : List Int) (k : Nat) : cutK l (some ((k : Int))) none = l.drop k := by
  unfold cutK
  simp only [Option.elim, clipAt_nat]
  rcases Nat.le_total k l.length with h | h
  · rw [Nat.min_eq_left h, List.take_of_length_le (by simp)]
  · rw [Nat.min_eq_right h, List.drop_of_length_le (Nat.le_refl _), List.drop_of_length_le h]; simp

section
variable {prog : Program} {w : World} {A : Around} {G F : Heap} {env : Env} {own : List (Addr × D)} {s s0 : Shared} {ad : Ads} {k0 P sc dr : Addr} {ds : List Int} {Q : Flow → Shared → Prop}

theorem law2 {v2 v3 v4 v5 v6 v7 v8 v9 v10 v11 v12 v13 v14 v15 v16 v17 : Option Value} {p0 p1 p2 : Addr × D} (rm : Room A 7) (hb : Base ad G) (he : env.scope = dScope (stm 72)) (hdl : ds.length = 5) (hdn : ∀ x ∈ ds, 0 ≤ x)
    (H : Sg (lawC G env ad s0 k0) F [some (.ref sc), some (.ref dr), v2, v3, v4, v5, v6, v7, v8, v9, v10, v11, v12, v13, v14, v15, v16, v17] [p0, p1, p2, (dr, .ints ds)] s)
    (h : ∀ fa ga fl fvs TT v6 v7 v8 s, FallsAre (chK ds 4).falls fvs TT → Sg (lawC G env ad s0 k0) F [some (.ref sc), some (.ref dr), v2, some (.ref fa), some (.ref ga), some (.ref fl), v6, v7, v8, v9, v10, v11, v12, v13, v14, v15, v16, v17]
      ([p0, p1, p2, (dr, .ints ds), (fl, .list fvs), (fa, .ints (chK ds 4).f), (ga, .ints (chK ds 4).g)] ++ TT) s → W prog w A (execs ((dBody (stm 72)).drop 5) env) Q s) :
    W prog w A (execs ((dBody (stm 72)).drop 2) env) Q s := by
  -- f, g = (_law_drawn(draws[0] // 3, draws[0] % 3), [])
  have m1 := Int.emod_nonneg (ds.getD 0 0) (show (3 : Int) ≠ 0 by decide)
  have m2 := Int.emod_lt_of_pos (ds.getD 0 0) (show (0 : Int) < 3 by decide)
  refine x1 (xTupS rm.handled "f" "g" (sw1 he) ?_)
  refine eTup (sp1 ?_)
  refine eCall ?_
  refine nG H (j := 2) rfl ?_
  refine cwF (sp1 ?_)
  refine eBin ?_
  refine eSub ?_
  refine nL H (i := 1) rfl rfl ?_
  refine kI H fun t s H => ?_
  refine subI (H.at (i := 3) rfl) (by decide) (by rw [hdl]; decide) (by rw [hdl]; decide) fun t => ?_
  refine kI H fun t s H => ?_
  refine oDiv H (by decide) (by decide) fun t s H => ?_
  refine sp1 ?_
  refine eBin ?_
  refine eSub ?_
  refine nL H (i := 1) rfl rfl ?_
  refine kI H fun t s H => ?_
  refine subI (H.at (i := 3) rfl) (by decide) (by rw [hdl]; decide) (by rw [hdl]; decide) fun t => ?_
  refine kI H fun t s H => ?_
  refine oMod H (by decide) fun t s H => ?_
  refine sp0 ⟨(hb.keeps H.ground).obj 9 rfl, ?_⟩
  refine (drawn_ok (hb.keeps H.ground) m1 (Int.lt_trans m2 (by decide))).useN H (rm.le (by decide)) fun fa s H _ => ?_
  refine sp1 ?_
  refine eList (sp0 ?_)
  refine mkInts H .nil fun ga s H => ?_
  refine sp0 ?_
  refine mkTup H fun T s H => ?_
  refine ⟨_, _, _, _, T, _, _, rfl, H, H.at (i := 6) rfl, fun s H => ?_⟩
  refine stL H (i := 4) rfl rfl fun s H => ?_
  refine stL H (i := 3) rfl rfl fun s H => ?_
  -- falls = []
  refine x1 (xAsg ?_)
  refine eList (sp0 ?_)
  refine mkList H fun fl s H => ?_
  refine stL H (i := 5) rfl rfl fun s H => ?_
  have H := H.pick 8 [0, 1, 2, 3, 7, 4, 5] rfl (by decide)
  dsimp only [List.cons_append, List.nil_append, List.take, List.drop, List.set, List.map, nth] at H
  -- for draw in draws[1:]:
  refine x1 (for_list rm.handled H ?_)
  refine eSub ?_
  refine nL H (i := 1) rfl rfl ?_
  refine eSl ?_
  refine evP ?_
  refine kI H fun t s H => ?_
  refine evN ?_
  refine ⟨_, _, _, _, H, fun a s H hsl _ => ?_⟩
  refine subISl (lo := some ((1 : Nat) : Int)) (hi := none) H (H.at (i := 3) rfl) hsl (.int _ _) .none (by rw [hdl]; decide) fun sl s H => ?_
  rw [cut_from] at H
  obtain ⟨vs, nv, ev, hvs⟩ := H.at (i := 7) rfl
  have H := H.re (i := 7) rfl (d' := .list vs) ⟨nv, ev⟩
  have hvl : vs.length = 4 := by rw [hvs.length, List.length_drop, hdl]
  refine ⟨_, _, sl, vs, fun k vals own => ∃ fa ga fvs TT v6 v7 v8, vals = [some (.ref sc), some (.ref dr), v2, some (.ref fa), some (.ref ga), some (.ref fl), v6, v7, v8, v9, v10, v11, v12, v13, v14, v15, v16, v17] ∧
    own = [p0, p1, p2, (dr, .ints ds), (fl, .list fvs), (fa, .ints (chK ds k).f), (ga, .ints (chK ds k).g), (sl, .list vs)] ++ TT ∧ FallsAre (chK ds k).falls fvs TT ∧ (chK ds k).falls.length ≤ k, rfl, H, ⟨fa, ga, [], [], _, _, _, rfl, rfl, .nil, Nat.le_refl _⟩, ?_, ?_, ?_⟩
  · rintro k _ _ s ⟨fa, ga, fvs, TT, v6, v7, v8, rfl, rfl, hfa, hfl⟩ H
    exact D.isL (H.at (i := 7) rfl)
  · rintro k v F' _ _ s Qt hv ⟨fa, ga, fvs, TT, v6, v7, v8, rfl, rfl, hfa, hfll⟩ hF H hQ hRt
    have hk : k < 4 := by rw [← hvl]; exact (List.getElem?_eq_some_iff.mp hv).1
    obtain ⟨td, ed⟩ := ints_get (k := k) hvs (by rw [← hvs.length, hvl]; exact hk)
    obtain rfl : v = .int ((ds.drop 1).getD k 0) td := Option.some.inj (hv.symm.trans ed)
    have edd : (ds.drop 1).getD k 0 = ds.getD (k + 1) 0 := by simp [Nat.add_comm]
    rw [edd]
    have ok := chK_ok ds k
    have e1 : chK ds (k + 1) = chStep (chK ds k) (ds.getD (k + 1) 0) := rfl
    generalize hd : ds.getD (k + 1) 0 = d at *
    generalize hc : chK ds k = c at *
    have okl := ok.fl
    have okg := ok.gl
    have n1 := Int.emod_nonneg d (show (3 : Int) ≠ 0 by decide)
    have n2 := Int.emod_lt_of_pos d (show (0 : Int) < 3 by decide)
    have hfv := hfa.length
    refine aName (stL H (i := 6) rfl rfl fun s H => ?_)
    -- if len(f) < 5:
    refine x1 (xIf ?_)
    refine tCmp ?_
    refine eCall ?_
    refine nG H (j := 1) rfl ?_
    refine cwB (sp1 ?_)
    refine nL H (i := 3) rfl rfl ?_
    refine sp0 ?_
    refine cLen H (D.lsti (H.at (i := 5) rfl)) (by exact zq315 okl) fun t s H => ?_
    refine kI H fun t s H => ?_
    refine cLt ?_
    refine tBool ?_
    refine iteD (fun hlt => ?_) fun hge => ?_
    · have hlt' : c.f.length < 5 := by exact zq314 hlt
      -- fall = min(1 + draw % 3, 5 - len(f))
      refine x1 (xAsg ?_)
      refine eCall ?_
      refine nG H (j := 3) rfl ?_
      refine cwB (sp1 ?_)
      refine eBin ?_
      refine kI H fun t s H => ?_
      refine eBin ?_
      refine nL H (i := 6) rfl rfl ?_
      refine kI H fun t s H => ?_
      refine oMod H (by decide) fun t s H => ?_
      refine oAdd H fun t s H => ?_
      refine sp1 ?_
      refine eBin ?_
      refine kI H fun t s H => ?_
      refine eCall ?_
      refine nG H (j := 1) rfl ?_
      refine cwB (sp1 ?_)
      refine nL H (i := 3) rfl rfl ?_
      refine sp0 ?_
      refine cLen H (D.lsti (H.at (i := 5) rfl)) (by exact zq301 hlt) fun t s H => ?_
      refine oSub H fun t s H => ?_
      refine sp0 ?_
      refine cMin rm.handled H fun tf s H => ?_
      refine stL H (i := 7) rfl rfl fun s H => ?_
      have hnew : chNew c d = ahead (drawn (d / 3) (min (1 + d % 3) (5 - (c.f.length : Int))).toNat) c.f c.g := rfl
      have hst : chStep c d = ⟨chNew c d, c.f, (min (1 + d % 3) (5 - (c.f.length : Int)), (chNew c d).getD 0 0 * c.f.getD 0 0) :: c.falls⟩ := by unfold chStep; rw [if_pos hlt']
      have hnl : 1 ≤ (chNew c d).length ∧ (chNew c d).length ≤ 9 := by rw [hnew, ahead_length, drawn_length]; exact zq313 hlt
      have okn := (chStep_ok ok d).fs
      rw [hst] at okn
      generalize hfall : min (1 + d % 3) (5 - (c.f.length : Int)) = fall at *
      have hf1 : 1 ≤ fall ∧ fall ≤ 3 := by exact zq312 hlt hfall
      -- new = _law_ahead(_law_drawn(draw // 3, fall), f, g)
      refine x1 (xAsg ?_)
      refine eCall ?_
      refine nG H (j := 4) rfl ?_
      refine cwF (sp1 ?_)
      refine eCall ?_
      refine nG H (j := 2) rfl ?_
      refine cwF (sp1 ?_)
      refine eBin ?_
      refine nL H (i := 6) rfl rfl ?_
      refine kI H fun t s H => ?_
      refine oDiv H (by decide) (by decide) fun t s H => ?_
      refine sp1 ?_
      refine nL H (i := 7) rfl rfl ?_
      refine sp0 ⟨(hb.keeps H.ground).obj 9 rfl, ?_⟩
      refine (drawn_ok (hb.keeps H.ground) (by exact zq311 hf1) (by exact zq310 hf1)).useN H (rm.le (by decide)) fun qa s H _ => ?_
      have H := H.tuck 8
      dsimp only [List.cons_append, List.nil_append, List.take, List.drop, List.set, List.map, nth] at H
      refine sp1 ?_
      refine nL H (i := 3) rfl rfl ?_
      refine sp1 ?_
      refine nL H (i := 4) rfl rfl ?_
      refine sp0 ⟨(hb.keeps H.ground).obj 10 rfl, ?_⟩
      have p28 : 2 * 100 ^ k < 2 ^ 60 := Nat.lt_of_le_of_lt (Nat.mul_le_mul_left 2 (Nat.pow_le_pow_right (by decide) (show k ≤ 4 by exact zq183 hk))) (by decide)
      have p29 : 2 * 100 ^ (k + 1) < 2 ^ 60 := Nat.lt_of_le_of_lt (Nat.mul_le_mul_left 2 (Nat.pow_le_pow_right (by decide) (show k + 1 ≤ 4 by exact zq309 hk))) (by decide)
      refine (ahead_ok (hb.keeps H.ground) (H.at (i := 8) rfl) (H.at (i := 5) rfl) (H.at (i := 6) rfl) (by rw [drawn_length]; exact zq308) (by rw [drawn_length]; exact zq307 hf1) okl.1 (by exact zq306 hlt) (by rw [drawn_length]; exact zq305 okg) (fun x hx => (drawn_le _ _ x hx).sm (by decide)) (fun x hx => (ok.fs x hx).sm p28)).useN H (rm.le (by decide)) fun nw s H _ => ?_
      have H := H.tuck 9
      dsimp only [List.cons_append, List.nil_append, List.take, List.drop, List.set, List.map, nth] at H
      rw [← hnew] at H
      refine stL H (i := 8) rfl rfl fun s H => ?_
      -- falls.insert(0, (fall, new[0] * f[0]))
      refine x1 (xE H ?_)
      refine eMeth ?_
      refine nL H (i := 5) rfl rfl ?_
      refine gmList (H.at (i := 4) rfl) rfl PySem.F.slot_list_insert PySem.F.type_list_insert ?_
      refine cwB (sp1 ?_)
      refine kI H fun t0 s H => ?_
      refine sp1 ?_
      refine eTup (sp1 ?_)
      refine nL H (i := 7) rfl rfl ?_
      refine sp1 ?_
      refine eBin ?_
      refine eSub ?_
      refine nL H (i := 8) rfl rfl ?_
      refine kI H fun t s H => ?_
      refine subI (H.at (i := 9) rfl) (by decide) (by exact zq304 hnl) (by exact zq303 hnl) fun t => ?_
      refine eSub ?_
      refine nL H (i := 3) rfl rfl ?_
      refine kI H fun t s H => ?_
      refine subI (H.at (i := 5) rfl) (by decide) (by exact zq302 okl) (by exact zq301 hlt) fun t => ?_
      refine oMul H (Sm.mulOk ((getD_le okn _).sm p29) ((getD_le ok.fs _).sm p28)) fun tm s H => ?_
      refine sp0 ?_
      refine mkTup H fun tp s H => ?_
      have H := H.tuck 10
      dsimp only [List.cons_append, List.nil_append, List.take, List.drop, List.set, List.map, nth] at H
      refine sp0 ?_
      refine cInsert0 H (i := 4) rfl (by rw [sizeLine_eq]; exact zq300 hk hfll hfv) fun s H => ?_
      -- f, g = (new, f)
      refine x1 (xTupS rm.handled "f" "g" (sw2 he) ?_)
      refine eTup (sp1 ?_)
      refine nL H (i := 8) rfl rfl ?_
      refine sp1 ?_
      refine nL H (i := 3) rfl rfl ?_
      refine sp0 ?_
      refine mkTup H fun T2 s H => ?_
      have H := H.tuck 11
      dsimp only [List.cons_append, List.nil_append, List.take, List.drop, List.set, List.map, nth] at H
      refine ⟨_, _, _, _, T2, _, _, rfl, H, H.at (i := 11) rfl, fun s H => ?_⟩
      refine stL H (i := 4) rfl rfl fun s H => ?_
      refine stL H (i := 3) rfl rfl fun s H => ?_
      have H := H.pickN 12 [0, 1, 2, 3, 4, 9, 5, 7, 10] (by simp) (by decide)
      dsimp only [List.cons_append, List.nil_append, List.take, List.drop, List.set, List.map, nth] at H
      refine x0 (x0 (hQ _ _ _ ⟨nw, fa, .ref tp :: fvs, (tp, tupO [.int fall tf, .int ((chNew c d).getD 0 0 * c.f.getD 0 0) tm]) :: TT, _, _, _, rfl, ?_, ?_, ?_⟩ H))
      · rw [e1, hst]; rfl
      · rw [e1, hst]; exact .cons tp _ _ _ _ hfa
      · rw [e1, hst]; exact Nat.succ_le_succ hfll
    · have hst : chStep c d = c := by unfold chStep; rw [if_neg (by exact zq299 hge)]
      refine x0 (x0 (hQ _ _ _ ⟨fa, ga, fvs, TT, _, _, _, rfl, ?_, ?_, ?_⟩ H))
      · rw [e1, hst]
      · rw [e1, hst]; exact hfa
      · rw [e1, hst]; exact zq131 hfll
  · rintro _ _ s ⟨fa, ga, fvs, TT, v6, v7, v8, rfl, rfl, hfa, hfl⟩ H
    rw [hvl] at H hfa
    have H := H.pickN 8 [0, 1, 2, 3, 4, 5, 6] (by simp) (by decide)
    dsimp only [List.cons_append, List.nil_append, List.take, List.drop, List.set, List.map, nth] at H
    exact h fa ga fl fvs TT v6 v7 v8 s hfa H
end
end Mine

end

section
open PySem PySem.Spec PySem.Calls PyProof.Rows PySem.W
set_option Elab.async false
set_option linter.all false
set_option maxRecDepth 100000
set_option autoImplicit false
set_option maxHeartbeats 1000000
namespace Mine
/-- the page of a chain -/
noncomputable def wordsOf (c : Ch) : List (List Nat) := (nine c).map word
noncomputable def turnOf (ds : List Int) : Nat := (ds.getD 0 0 / 36).toNat
noncomputable def pageOf (ds : List Int) : List Nat := pageK (wordsOf (chK ds 4)) (turnOf ds) 9

section
variable {prog : Program} {w : World} {A : Around} {G F : Heap} {env : Env} {own : List (Addr × D)} {s s0 : Shared} {ad : Ads} {k0 P sc dr fa ga fl : Addr} {ds : List Int} {Q : Flow → Shared → Prop}

theorem law3 {v0 v2 v5 v6 v7 v8 v9 v10 v11 v12 v13 v14 v15 v16 v17 : Option Value} {p0 p1 p2 : Addr × D} {fvs : List Value} {TT : List (Addr × D)} (rm : Room A 7) (hb : Base ad G) (heg : env.globals = mainGlobals ∧ env.builtins = builtinsNs ∧ True) (hdl : ds.length = 5) (hdn : ∀ x ∈ ds, 0 ≤ x)
    (H : Sg (lawC G env ad s0 k0) F [v0, some (.ref dr), v2, some (.ref fa), some (.ref ga), v5, v6, v7, v8, v9, v10, v11, v12, v13, v14, v15, v16, v17]
      ([p0, p1, p2, (dr, .ints ds), (fl, .list fvs), (fa, .ints (chK ds 4).f), (ga, .ints (chK ds 4).g)] ++ TT) s)
    (h : ∀ tp s, Sg (lawC G env ad s0 k0) F [v0, some (.ref dr), v2, some (.ref fa), some (.ref ga), v5, v6, v7, v8, some (.str (tx (pageOf ds)) tp), v10, v11, v12, v13, v14, v15, v16, v17]
      ([p0, p1, p2, (fl, .list fvs)] ++ TT) s → W prog w A (execs ((dBody (stm 72)).drop 6) env) Q s) :
    W prog w A (execs ((dBody (stm 72)).drop 5) env) Q s := by
  have n9 := nine_length (chK_ok ds 4) (ch_done ds)
  have ok := chK_ok ds 4
  have okl := ok.fl
  have okg := ok.gl
  have sm9 := nine_sm (ds := ds)
  have w9 : wordsOf (chK ds 4) = (nine (chK ds 4)).map word := rfl
  unfold pageOf at h
  have hnine : (chK ds 4).f ++ List.replicate (4 - (chK ds 4).g.length) 0 ++ (chK ds 4).g = nine (chK ds 4) := rfl
  generalize hwo : wordsOf (chK ds 4) = wo at *
  generalize hni : nine (chK ds 4) = ni at *
  generalize chK ds 4 = c at *
  -- page = _law_page([..], draws[0] // 36)
  refine x1 (xAsg ?_)
  refine eCall ?_
  refine nG H (j := 5) rfl ?_
  refine cwF (sp1 ?_)
  refine eComp ["number"] [] (Mine.pick (gtab ad) [6]) [] H (by kernel_rfl) (fun p hp => nomatch hp) ?_
  refine eBin ?_
  refine eBin ?_
  refine nL H (i := 3) rfl rfl ?_
  refine eBin ?_
  refine eList (sp1 ?_)
  refine kI H fun t s H => ?_
  refine sp0 ?_
  refine mkInts H (.cons _ _ .nil) fun z s H => ?_
  have H := H.tuck 7
  dsimp only [List.cons_append, List.nil_append, List.take, List.drop, List.set, List.map, nth] at H
  refine eBin ?_
  refine kI H fun t s H => ?_
  refine eCall ?_
  refine nG H (j := 1) rfl ?_
  refine cwB (sp1 ?_)
  refine nL H (i := 4) rfl rfl ?_
  refine sp0 ?_
  refine cLen H (D.lsti (H.at (i := 6) rfl)) (by exact zq322 okl okg) fun t s H => ?_
  refine oSub H fun t s H => ?_
  refine mulLI H (i := 7) rfl (by exact zq321 okl okg) (by exact zq320) fun zs s H => ?_
  rw [show ((4 : Int) - (c.g.length : Int)).toNat = 4 - c.g.length by exact zq319] at H
  have H := H.tuck 8
  dsimp only [List.cons_append, List.nil_append, List.take, List.drop, List.set, List.map, nth] at H
  refine addII H (H.at (i := 5) rfl) (H.at (i := 8) rfl) (by rw [List.length_replicate, sizeLine_eq]; exact zq318 okl) fun r1 s H _ => ?_
  have H := H.tuck 9
  dsimp only [List.cons_append, List.nil_append, List.take, List.drop, List.set, List.map, nth] at H
  refine nL H (i := 4) rfl rfl ?_
  refine addII H (H.at (i := 9) rfl) (H.at (i := 6) rfl) (by rw [List.length_append, List.length_replicate, sizeLine_eq]; exact zq317 okl okg) fun r2 s H _ => ?_
  rw [hnine] at H
  have H := H.tuck 10
  dsimp only [List.cons_append, List.nil_append, List.take, List.drop, List.set, List.map, nth] at H
  have H := H.pickN 11 [0, 1, 2, 3, 4, 10] (by simp) (by decide)
  dsimp only [List.cons_append, List.nil_append, List.take, List.drop, List.set, List.map, nth] at H
  obtain ⟨vs, nv, ev, hvs⟩ := H.at (i := 5) rfl
  have H := H.re (i := 5) rfl (d' := .list vs) ⟨nv, ev⟩
  dsimp only [List.set] at H
  have hvl : vs.length = 9 := by rw [hvs.length, n9]
  refine list_src rm.handled H (D.isL (H.at (i := 5) rfl)) fun I s H h1 h2 h3 o ho self src => ?_
  have hG := H.sub
  refine ⟨_, _, I, _, o, _, rfl, trivial, H, h1, h2, h3, ho, self, globAt_of hb heg H [6], fun acc c' e1 e2 e3 e4 e5 e6 e7 => ⟨fun m vals own => ∃ nv wvs, vals = [nv] ∧ TxAre wvs (wo.take m) ∧
    own.Perm ([p0, p1, p2, (dr, .ints ds), (fl, .list fvs), (r2, .list vs), (acc, .list wvs)] ++ TT), ⟨?_, ?_, ?_⟩, src _ _ ?_⟩⟩
  · rw [e1]
    refine ⟨none, [], rfl, .nil, ?_⟩
    show List.Perm (_ ++ []) _
    rw [List.append_nil]
    exact tuck_perm 6 _ _
  · obtain ⟨G', env', names', gl', s0', cl'⟩ := c'
    dsimp only at e1 e2 e3 e4 e5 e6 e7
    subst e1 e2 e3
    rintro m tm F3 _ _ s Qt hm ⟨nv, wvs, rfl, hwv, hperm⟩ hF3 H hQ
    have H := H.perm hperm
    have hb' : Base ad G' := hb.keeps fun b o e => e4 b o (hG b o e)
    rw [hvl] at hm
    obtain ⟨tx', ex⟩ := ints_get (k := m) hvs (by rw [n9]; exact hm)
    have hit : vs.getD m .none = .int (ni.getD m 0) tx' := by rw [List.getD_eq_getElem?_getD, ex]; rfl
    rw [hit]
    have hwl := hwv.length
    rw [List.length_take] at hwl
    refine stL H (i := 0) rfl rfl fun s H => ?_
    refine ct0 ?_
    rw [if_pos rfl]
    refine eCall ?_
    refine nG H (j := 0) rfl ?_
    refine cwF (sp1 ?_)
    refine nL H (i := 0) rfl rfl ?_
    refine sp0 ⟨(hb'.keeps H.ground).obj 6 rfl, ?_⟩
    refine (word_ok (hb'.keeps H.ground) ((getD_all sm9 (by rw [n9]; exact hm)).le (by decide))).use H (rm.le (by decide)) fun v s H _ hv => ?_
    obtain ⟨tw, rfl⟩ := hv
    refine cAppend H (i := 6) rfl (by rw [sizeLine_eq]; exact zq316 hm hwl) fun s H => ?_
    refine hQ _ _ _ ⟨_, _, rfl, ?_, .refl _⟩ H
    have hwm : m < wo.length := by rw [w9, List.length_map, n9]; exact hm
    rw [List.take_succ_eq_append_getElem hwm]
    have e8 : wo[m] = word (ni.getD m 0) := by
      simp only [w9, List.getElem_map]
      rw [List.getD_eq_getElem?_getD, List.getElem?_eq_getElem (by rw [n9]; exact hm)]; rfl
    rw [e8]
    exact hwv.snoc
  · rintro _ _ s ⟨nv, wvs, _, hwv, hperm⟩ H
    have H := H.perm hperm
    dsimp only [List.cons_append, List.nil_append] at H
    have hwl9 : wo.length = 9 := by rw [w9, List.length_map, n9]
    rw [List.take_of_length_le (by rw [hvl, hwl9]; exact Nat.le_refl _)] at hwv
    refine sp1 ?_
    refine eBin ?_
    refine eSub ?_
    refine nL H (i := 1) rfl rfl ?_
    refine kI H fun t s H => ?_
    refine subI (H.at (i := 3) rfl) (by decide) (by rw [hdl]; decide) (by rw [hdl]; decide) fun t => ?_
    refine kI H fun t s H => ?_
    refine oDiv H (by decide) (by decide) fun t s H => ?_
    have hturn : ds.getD (0 : Int).toNat 0 / 36 = ((turnOf ds : Nat) : Int) := by
      have h0 : 0 ≤ ds.getD 0 0 := getD_all hdn (by rw [hdl]; decide)
      unfold turnOf
      rw [Int.toNat_of_nonneg (Int.ediv_nonneg h0 (by decide))]; rfl
    rw [hturn]
    refine sp0 ⟨(hb.keeps H.ground).obj 8 rfl, ?_⟩
    refine (page_ok (hb.keeps H.ground) (H.at (i := 6) rfl) hwv (by rw [hwl9]; decide) (fun x hx => ?_) (fun x hx => ?_)).use H (rm.le (by decide)) fun v s H _ hv => ?_
    · rw [w9] at hx
      obtain ⟨y, hy, rfl⟩ := List.mem_map.mp hx
      exact Nat.le_trans (word_length 28 y (sm9 y hy)) (by decide)
    · rw [w9] at hx
      obtain ⟨y, hy, rfl⟩ := List.mem_map.mp hx
      exact word_ascii y
    obtain ⟨tp, rfl⟩ := hv
    rw [hwl9]
    refine stL H (i := 9) rfl rfl fun s H => ?_
    have H := H.pickN 7 [0, 1, 2, 4] (by simp) (by decide)
    dsimp only [List.cons_append, List.nil_append, List.take, List.drop, List.set, List.map, nth] at H
    exact h tp s H
  · rintro k _ _ s ⟨nv, wvs, rfl, hwv, hperm⟩ H
    exact D.isL ((H.perm hperm).at (i := 5) rfl)
end
end Mine

end

section
open PySem PySem.Spec PySem.Calls PyProof.Rows PySem.W
set_option Elab.async false
set_option linter.all false
set_option maxRecDepth 100000
set_option autoImplicit false
set_option maxHeartbeats 1000000
namespace Mine
theorem CodeIs.keeps {h h' : Heap} {f : Addr} {v : Value} (k : h.StaysIn h') (x : CodeIs h f v) : CodeIs h' f v := let ⟨o, fd, a, b, c⟩ := x; ⟨o, fd, k _ _ a, b, c⟩
theorem page_small (ds : List Int) : (pageOf ds).length ≤ 1000000 := by
  have h : ∀ x ∈ wordsOf (chK ds 4), x.length ≤ 10000 := fun x hx => by
    obtain ⟨y, hy, rfl⟩ := List.mem_map.mp hx
    exact Nat.le_trans (word_length 28 y (nine_sm y hy)) (by decide)
  exact Nat.le_trans (pageK_length h 9) (by decide)

section
variable {prog : Program} {w : World} {A : Around} {G F : Heap} {env : Env} {own : List (Addr × D)} {s s0 : Shared} {ad : Ads} {k0 P sc dr fa ga fl cc : Addr} {ds : List Int} {Q : Flow → Shared → Prop}

theorem law4 {v0 v1 v2 v3 v4 v5 v6 v7 v8 v10 v11 v12 v13 v14 v15 v16 v17 : Option Value} {fvs : List Value} {TT : List (Addr × D)} {pg : List Nat} {tg : Tok} (rm : Room A 7) (hb : Base ad G) (hc : ClsOk ad G) (mk : MkOk cc P G) (hcd : CodeIs G (ad.fn 15) (.ref cc)) (hz : pg.length ≤ 1000000)
    (H : Sg (lawC G env ad s0 k0) F [v0, v1, v2, v3, v4, v5, v6, v7, v8, some (.str (tx pg) tg), v10, v11, v12, v13, v14, v15, v16, v17]
      ([(P, .obj (tabObj #[])), (k0, .cell none), (k0 + 1, .cell none), (fl, .list fvs)] ++ TT) s)
    (h : ∀ L l ps s, Imm ad L pg l → Sg (lawC G env ad s0 k0) F [v0, v1, v2, v3, v4, v5, v6, v7, v8, some (.str (tx pg) tg), v10, v11, v12, v13, v14, v15, v16, v17]
      (lexM L pg 0 [] ++ (l ++ ([(P, .obj (tabObj ps)), (k0, .cell (some (.ref L.x))), (k0 + 1, .cell none), (fl, .list fvs)] ++ TT))) s → W prog w A (execs ((dBody (stm 72)).drop 7) env) Q s) :
    W prog w A (execs ((dBody (stm 72)).drop 6) env) Q s := by
  refine x1 (xAsg ?_)
  refine eCall ?_
  refine nG H (j := 6) rfl ?_
  refine cwF (sp1 ?_)
  refine nL H (i := 9) rfl rfl ?_
  refine sp0 ⟨(hb.keeps H.ground).obj 15 rfl, ?_⟩
  have g := Sg.ground' (mt := [(P, .obj (tabObj #[]))]) H
  refine (lexer_ok (hb.keeps g) (hc.keeps g) (mk.keeps g) (hcd.keeps H.ground) (Sg.mtOk (mt := [(P, .obj (tabObj #[]))]) H) hz).use H (rm.le (by decide)) fun v s mt' em H' _ hP => ?_
  obtain ⟨L, l, ps, rfl, rfl, im, nw⟩ := hP
  have H := H.addsM H' rfl nw
  refine stC H (i := 1) (j := 0) rfl rfl fun s H => ?_
  have H : Sg (lawC G env ad s0 k0) F [v0, v1, v2, v3, v4, v5, v6, v7, v8, some (.str (tx pg) tg), v10, v11, v12, v13, v14, v15, v16, v17]
      (([(P, .obj (tabObj ps)), (k0, .cell (some (.ref L.x))), (k0 + 1, .cell none), (fl, .list fvs)] ++ TT) ++ (lexM L pg 0 [] ++ l)) s := H
  have H := H.perm List.perm_append_comm
  refine h L l ps s im ?_
  rw [List.append_assoc] at H
  exact H

theorem law5 {v0 v1 v2 v3 v4 v5 v6 v7 v8 v9 v10 v11 v12 v13 v14 v15 v16 v17 : Option Value} {fvs : List Value} {TT : List (Addr × D)} {L : LexA} {l : List (Addr × D)} {p0 p2 : Addr × D} (rm : Room A 7) (hw : ad.w = w) (hb : Base ad G) (hc : ClsOk ad G) (heg : env.globals = mainGlobals ∧ env.builtins = builtinsNs ∧ True) (im : Imm ad L (pageOf ds) l)
    (H : Sg (lawC G env ad s0 k0) F [v0, v1, v2, v3, v4, v5, v6, v7, v8, v9, v10, v11, v12, v13, v14, v15, v16, v17]
      (lexM L (pageOf ds) 0 [] ++ (l ++ ([p0, (k0, .cell (some (.ref L.x))), p2, (fl, .list fvs)] ++ TT))) s)
    (h : ∀ pos pre td s, pos ≤ (pageOf ds).length → (pageOf ds).drop pos = pre → (∀ c ∈ pre, isWs c) → Sg (lawC G env ad s0 k0) F [v0, v1, v2, v3, v4, v5, v6, v7, v8, v9, some (.ref td), v11, v12, v13, v14, v15, v16, v17]
      (lexM L (pageOf ds) pos [] ++ (l ++ ([p0, (k0, .cell (some (.ref L.x))), p2, (fl, .list fvs), (td, .ints (nine (chK ds 4)))] ++ TT))) s → W prog w A (execs ((dBody (stm 72)).drop 8) env) Q s) :
    W prog w A (execs ((dBody (stm 72)).drop 7) env) Q s := by
  have n9 := nine_length (chK_ok ds 4) (ch_done ds)
  have sm9 := nine_sm (ds := ds)
  have hz := page_small ds
  have w9 : wordsOf (chK ds 4) = (nine (chK ds 4)).map word := rfl
  have hp0 : (pageOf ds).drop 0 = [] ++ restR (wordsOf (chK ds 4)) (turnOf ds) 9 9 := by
    rw [page_all, List.drop_zero, List.nil_append, pageOf]
  generalize pageOf ds = pg at *
  generalize wordsOf (chK ds 4) = wo at *
  generalize nine (chK ds 4) = ni at *
  generalize turnOf ds = turn at *
  obtain ⟨tp, c2, q, doc, pm, ctv, so, hso, rfl⟩ := im
  have im : Imm ad L pg (lexI ad L pg tp c2 q doc pm ctv so) := ⟨tp, c2, q, doc, pm, ctv, so, hso, rfl⟩
  refine x1 (xComp ["k"] [] (Mine.pick (gtab ad) [7]) [("lexer", k0)] H (i := 10) rfl (by kernel_rfl) (fun p hp => ?_) rfl rfl ?_)
  · rw [List.mem_singleton] at hp; subst hp
    exact (H.ok.cell _ (.head _)).2.2.1
  refine eCall ?_
  refine nG H (j := 0) rfl ?_
  refine cwT (sp1 ?_)
  refine kI H fun t s H => ?_
  refine sp0 ?_
  refine cRange1 H fun r t u v s H hr => ?_
  refine range_src (n := 9) rm.handled H hr (by decide) (by decide) rfl fun I s H h1 h2 h3 o ho self src => ?_
  have hG := H.sub
  refine ⟨_, _, I, _, o, _, rfl, rfl, H, h1, h2, h3, ho, self, globAt_of hb heg H [7], fun acc c' e1 e2 e3 e4 e5 e6 e7 => ⟨fun m vals own => ∃ kv pos pre vs, vals = [kv] ∧ pos ≤ pg.length ∧ pg.drop pos = pre ++ restR wo turn 9 (9 - m) ∧ (∀ c ∈ pre, isWs c) ∧ IntsAre vs (ni.take m) ∧
    own.Perm (lexM L pg pos [] ++ (lexI ad L pg tp c2 q doc pm ctv so ++ ([p0, (k0, .cell (some (.ref L.x))), p2, (fl, .list fvs), (acc, .list vs)] ++ TT))), ⟨?_, ?_, ?_⟩, src _ _⟩⟩
  · rw [e1]
    refine ⟨none, 0, [], [], rfl, Nat.zero_le _, hp0, (fun c hc => nomatch hc), .nil, ?_⟩
    show List.Perm (_ ++ []) _
    rw [List.append_nil]
    exact tuck_perm 14 _ _
  · obtain ⟨G', env', names', gl', s0', cl'⟩ := c'
    dsimp only at e1 e2 e3 e4 e5 e6 e7
    subst e1 e2 e3
    rintro m tm F3 _ _ s Qt hm ⟨kv, pos, pre, vs, rfl, hp, hd, hpre, hvs, hperm⟩ hF3 H hQ
    have H := H.perm hperm
    have gg : G.StaysIn G' := fun b o e => e4 b o (hG b o e)
    have hb' : Base ad G' := hb.keeps gg
    have hc' : ClsOk ad G' := hc.keeps gg
    have hvl := hvs.length
    rw [List.length_take] at hvl
    have hmn : m < ni.length := by rw [n9]; exact hm
    have hwm : wo.getD m [] = word (ni.getD m 0) := by
      rw [w9, List.getD_eq_getElem?_getD, List.getD_eq_getElem?_getD, List.getElem?_map, List.getElem?_eq_getElem hmn]; rfl
    have e9 : 9 - m = (8 - m) + 1 := by exact zq326 hm
    have e9' : 9 - ((8 - m) + 1) = m := by exact zq325 hm
    rw [e9] at hd
    obtain ⟨pre', ht, hpre'⟩ := tail_next (ws := wo) (turn := turn) (n := 9) (r := 8 - m)
    rw [e9'] at ht
    rw [restR, e9'] at hd
    refine stL H (i := 0) rfl rfl fun s H => ?_
    refine ct0 ?_
    rw [if_pos rfl]
    refine eCall ?_
    refine nG H (j := 0) rfl ?_
    refine cwF (sp1 ?_)
    refine eMeth ?_
    refine nC H (j := 0) rfl (H.at (i := 11) rfl) ?_
    have lk := LexOk.of H im hb' hc' hz
    refine gmX (n := 18) (i := 1) H (lk.keeps fun b o e => of_hideAll _ e) rfl (fun _ _ => rfl) (by simp [clsTab]) ((hb'.keeps H.ground).fnCls 18 rfl) tl_get_token ?_
    refine cwF0 ((hb'.keeps H.ground).obj 18 rfl) ?_
    have okO' : okO (some ((turn + m) % 3, wo.getD m [], sepK turn m, restR wo turn 9 (8 - m))) := by
      refine ⟨?_, ?_, ?_, sepK_ws _ _⟩
      · rw [hwm]; exact word_ne _
      · rw [hwm]; exact Nat.le_trans (word_length 28 _ (getD_all sm9 hmn)) (by decide)
      · rw [hwm]; exact word_wordy _
    refine (getToken_ok (o := some ((turn + m) % 3, wo.getD m [], sepK turn m, restR wo turn 9 (8 - m))) lk H.mtOk hd hpre okO' hp).use H (rm.le (by decide)) fun v s mt' em H _ hP => ?_
    obtain ⟨pos', u, hp', rfl, rfl, hd'⟩ := hP
    rw [show tokO (some ((turn + m) % 3, wo.getD m [], sepK turn m, restR wo turn 9 (8 - m))) = wo.getD m [] from rfl, hwm]
    refine sp0 ⟨(hb'.keeps H.ground).obj 7 rfl, ?_⟩
    refine (number_ok hw (hb'.keeps H.ground) ((getD_all sm9 hmn).le (by decide))).useI H (rm.le (by decide)) fun t s H => ?_
    refine cAppend H (i := 14) rfl (by rw [sizeLine_eq]; exact zq324 hvl e9') fun s H => ?_
    refine hQ _ _ _ ⟨_, pos', pre', _, rfl, hp', ?_, hpre', ?_, .refl _⟩ H
    · rw [hd', ht, show 9 - (m + 1) = 8 - m by exact zq323]
    · rw [List.take_succ_eq_append_getElem hmn]
      have e8 : ni[m] = ni.getD m 0 := by rw [List.getD_eq_getElem?_getD, List.getElem?_eq_getElem hmn]; rfl
      rw [e8]
      exact ints_snoc hvs
  · rintro _ _ s ⟨kv, pos, pre, vs, _, hp, hd, hpre, hvs, hperm⟩ H
    have H := H.perm hperm
    rw [List.take_of_length_le (by rw [n9]; exact Nat.le_refl _)] at hvs
    have H := H.re (i := 14) rfl (d' := .ints ni) (D.ofInts (H.at (i := 14) rfl) hvs)
    rw [Nat.sub_self, restR, List.append_nil] at hd
    exact h pos pre acc s hp hd hpre H
end
end Mine

end

section
open PySem PySem.Spec PySem.Calls PyProof.Rows PySem.W
set_option Elab.async false
set_option linter.all false
set_option maxRecDepth 100000
set_option autoImplicit false
set_option maxHeartbeats 1000000
namespace Mine

section
variable {prog : Program} {w : World} {A : Around} {G F : Heap} {env : Env} {own : List (Addr × D)} {s s0 : Shared} {ad : Ads} {k0 P sc dr fa ga fl cc td : Addr} {ds : List Int} {Q : Flow → Shared → Prop}

theorem law6 {v0 v1 v2 v3 v4 v5 v6 v7 v8 v9 v11 v12 v13 v14 v15 v16 v17 : Option Value} {fvs : List Value} {TT : List (Addr × D)} {L : LexA} {l : List (Addr × D)} {p0 : Addr × D} {pg : List Nat} {pos : Nat} {ni : List Int} (rm : Room A 7) (hw : ad.w = w) (hb : Base ad G) (hc : ClsOk ad G) (im : Imm ad L pg l) (hz : pg.length ≤ 1000000)
    (n9 : ni.length = 9) (sm9 : ∀ x ∈ ni, Sm 28 x)
    (H : Sg (lawC G env ad s0 k0) F [v0, v1, v2, v3, v4, v5, v6, v7, v8, v9, some (.ref td), v11, v12, v13, v14, v15, v16, v17]
      (lexM L pg pos [] ++ (l ++ ([p0, (k0, .cell (some (.ref L.x))), (k0 + 1, .cell none), (fl, .list fvs), (td, .ints ni)] ++ TT))) s)
    (h : ∀ cs l1 l2 l3 l4 s, Sg (lawC G env ad s0 k0) F [v0, v1, v2, v3, v4, v5, v6, v7, v8, v9, some (.ref td), v11, v12, v13, v14, v15, v16, v17]
      (lexM L pg pos [] ++ (l ++ ([p0, (k0, .cell (some (.ref L.x))), (k0 + 1, .cell (some (.ref cs))), (fl, .list fvs), (cs, .list [.ref l1, .ref l2, .ref l3, .ref l4]), (l1, .ints (rowV (sqB ni) 1)), (l2, .ints (rowV (sqB ni) 2)), (l3, .ints (rowV (sqB ni) 3)), (l4, .ints (rowV (sqB ni) 4))] ++ TT))) s → W prog w A (execs ((dBody (stm 72)).drop 9) env) Q s) :
    W prog w A (execs ((dBody (stm 72)).drop 8) env) Q s := by
  have hB := sqB_ok (l := ni) fun x hx => (sm9 x hx).le (by decide)
  have hf : ∀ x ∈ sqF ni, Sm 60 x := fun x hx => (sm9 x (List.mem_of_mem_take hx)).le (by decide)
  have hg : ∀ x ∈ sqG ni, Sm 60 x := fun x hx => by
    rcases List.mem_cons.mp hx with rfl | hx
    · exact Nat.two_pow_pos _
    · exact (sm9 x (List.mem_of_mem_drop hx)).le (by decide)
  have f5 : (sqF ni).length = 5 := by rw [sqF, List.length_take, n9]; rfl
  have g5 : (sqG ni).length = 5 := by rw [sqG, List.length_cons, List.length_drop, n9]
  obtain ⟨tp, c2, q, doc, pm, ctv, so, hso, rfl⟩ := im
  have im : Imm ad L pg (lexI ad L pg tp c2 q doc pm ctv so) := ⟨tp, c2, q, doc, pm, ctv, so, hso, rfl⟩
  -- corners = _law_corners(lexer, _law_square(told[:5], [0] + told[5:]))
  refine x1 (xAsg ?_)
  refine eCall ?_
  refine nG H (j := 7) rfl ?_
  refine cwF (sp1 ?_)
  refine nC H (j := 0) rfl (H.at (i := 11) rfl) ?_
  refine sp1 ?_
  refine eCall ?_
  refine nG H (j := 8) rfl ?_
  refine cwF (sp1 ?_)
  refine eSub ?_
  refine nL H (i := 10) rfl rfl ?_
  refine eSl ?_
  refine evN ?_
  refine evP ?_
  refine kI H fun t s H => ?_
  refine ⟨_, _, _, _, H, fun a s H hsl _ => ?_⟩
  refine subISl (lo := none) (hi := some ((5 : Nat) : Int)) H (H.at (i := 14) rfl) hsl .none (.int _ _) (by rw [n9]; decide) fun q1 s H => ?_
  rw [cut_to] at H
  have H := H.tuck 15
  refine sp1 ?_
  refine eBin ?_
  refine eList (sp1 ?_)
  refine kI H fun t s H => ?_
  refine sp0 ?_
  refine mkInts (ns := [0]) H (.cons _ _ .nil) fun z s H => ?_
  have H := H.tuck 16
  refine eSub ?_
  refine nL H (i := 10) rfl rfl ?_
  refine eSl ?_
  refine evP ?_
  refine kI H fun t s H => ?_
  refine evN ?_
  refine ⟨_, _, _, _, H, fun a s H hsl _ => ?_⟩
  refine subISl (lo := some ((5 : Nat) : Int)) (hi := none) H (H.at (i := 14) rfl) hsl (.int _ _) .none (by rw [n9]; decide) fun q2 s H => ?_
  rw [cut_from] at H
  have H := H.tuck 17
  refine addII H (H.at (i := 16) rfl) (H.at (i := 17) rfl) (by rw [List.length_drop, n9, sizeLine_eq]; decide) fun q3 s H _ => ?_
  have H := H.tuck 18
  have H : Sg (lawC G env ad s0 k0) F [v0, v1, v2, v3, v4, v5, v6, v7, v8, v9, some (.ref td), v11, v12, v13, v14, v15, v16, v17]
    (lexM L pg pos [] ++ (lexI ad L pg tp c2 q doc pm ctv so ++ ([p0, (k0, .cell (some (.ref L.x))), (k0 + 1, .cell none), (fl, .list fvs), (td, .ints ni), (q1, .ints (sqF ni)), (z, .ints [0]), (q2, .ints (ni.drop 5)), (q3, .ints (sqG ni))] ++ TT))) s := H
  refine sp0 ⟨(hb.keeps H.ground).obj 11 rfl, ?_⟩
  refine square_ok (hb.keeps H.ground) (H.at (i := 15) rfl) (H.at (i := 18) rfl) f5 g5 hf hg A _ (rm.le (by decide)) fun v s' x y hP => ?_
  obtain ⟨sq, l0, l1, l2, l3, rfl, nw⟩ := hP
  have H := H.adds (H.grow x y) nw
  have H := H.perm List.perm_append_comm
  have H : Sg (lawC G env ad s0 k0) F [v0, v1, v2, v3, v4, v5, v6, v7, v8, v9, some (.ref td), v11, v12, v13, v14, v15, v16, v17]
    ([(sq, .list [.ref l0, .ref l1, .ref l2, .ref l3]), (l3, .ints (under (sqF ni) (sqG ni) 1)), (l2, .ints (under (sqF ni) (sqG ni) 2)), (l1, .ints (under (sqF ni) (sqG ni) 3)), (l0, .ints (under (sqF ni) (sqG ni) 4))] ++
      (lexM L pg pos [] ++ (lexI ad L pg tp c2 q doc pm ctv so ++ ([p0, (k0, .cell (some (.ref L.x))), (k0 + 1, .cell none), (fl, .list fvs), (td, .ints ni), (q1, .ints (sqF ni)), (z, .ints [0]), (q2, .ints (ni.drop 5)), (q3, .ints (sqG ni))] ++ TT)))) s' := H
  have H := H.pickN 24 [5, 6, 7, 8, 9, 10, 11, 12, 13, 14, 15, 16, 17, 18, 0, 4, 3, 2, 1] (by simp [lexI]) (by decide)
  have H : Sg (lawC G env ad s0 k0) F [v0, v1, v2, v3, v4, v5, v6, v7, v8, v9, some (.ref td), v11, v12, v13, v14, v15, v16, v17]
    (lexM L pg pos [] ++ (lexI ad L pg tp c2 q doc pm ctv so ++ ([p0, (k0, .cell (some (.ref L.x))), (k0 + 1, .cell none), (fl, .list fvs), (sq, .list [.ref l0, .ref l1, .ref l2, .ref l3]), (l0, .ints (under (sqF ni) (sqG ni) 4)), (l1, .ints (under (sqF ni) (sqG ni) 3)), (l2, .ints (under (sqF ni) (sqG ni) 2)), (l3, .ints (under (sqF ni) (sqG ni) 1))] ++ TT))) s' := H
  refine sp0 ⟨(hb.keeps H.ground).obj 13 rfl, ?_⟩
  refine (corners_ok (ls := [l0, l1, l2, l3]) (B := sqB ni) hw (LexOk.of H im hb hc hz) H.mtOk (H.atM rfl (i := 11) rfl) rfl (fun i hi => ?_) hB).use H (rm.le (by decide)) fun v s mt' em H' _ hP => ?_
  · rcases i with _ | _ | _ | _ | i
    · exact H.atM rfl (i := 12) rfl
    · exact H.atM rfl (i := 13) rfl
    · exact H.atM rfl (i := 14) rfl
    · exact H.atM rfl (i := 15) rfl
    · omega
  obtain ⟨rfl, cs, r1, r2, r3, r4, rfl, nw2⟩ := hP
  have H := H.adds H' nw2
  have H := H.perm List.perm_append_comm
  have H : Sg (lawC G env ad s0 k0) F [v0, v1, v2, v3, v4, v5, v6, v7, v8, v9, some (.ref td), v11, v12, v13, v14, v15, v16, v17]
    ([(cs, .list [.ref r1, .ref r2, .ref r3, .ref r4]), (r1, .ints (rowV (sqB ni) 1)), (r2, .ints (rowV (sqB ni) 2)), (r3, .ints (rowV (sqB ni) 3)), (r4, .ints (rowV (sqB ni) 4))] ++
      (lexM L pg pos [] ++ (lexI ad L pg tp c2 q doc pm ctv so ++ ([p0, (k0, .cell (some (.ref L.x))), (k0 + 1, .cell none), (fl, .list fvs), (sq, .list [.ref l0, .ref l1, .ref l2, .ref l3]), (l0, .ints (under (sqF ni) (sqG ni) 4)), (l1, .ints (under (sqF ni) (sqG ni) 3)), (l2, .ints (under (sqF ni) (sqG ni) 2)), (l3, .ints (under (sqF ni) (sqG ni) 1))] ++ TT)))) s := H
  have H := H.pickN 24 [5, 6, 7, 8, 9, 10, 11, 12, 13, 14, 15, 16, 17, 18, 0, 1, 2, 3, 4] (by simp [lexI]) (by decide)
  have H : Sg (lawC G env ad s0 k0) F [v0, v1, v2, v3, v4, v5, v6, v7, v8, v9, some (.ref td), v11, v12, v13, v14, v15, v16, v17]
    (lexM L pg pos [] ++ (lexI ad L pg tp c2 q doc pm ctv so ++ ([p0, (k0, .cell (some (.ref L.x))), (k0 + 1, .cell none), (fl, .list fvs), (cs, .list [.ref r1, .ref r2, .ref r3, .ref r4]), (r1, .ints (rowV (sqB ni) 1)), (r2, .ints (rowV (sqB ni) 2)), (r3, .ints (rowV (sqB ni) 3)), (r4, .ints (rowV (sqB ni) 4))] ++ TT))) s := H
  refine stC H (i := 12) (j := 1) rfl rfl fun s H => ?_
  exact h cs r1 r2 r3 r4 s H
end
end Mine

end

section
open PySem PySem.Spec PySem.Calls PyProof.Rows PySem.W
set_option Elab.async false
set_option linter.all false
set_option maxRecDepth 100000
set_option autoImplicit false
set_option maxHeartbeats 1000000
namespace Mine
theorem sw3 {e : Env} (h : e.scope = dScope (stm 72)) : swappedStores (asgT (lawS 10)) (asgV (lawS 10)) e = pure none := by
  obtain ⟨a, b, c, d, f, g, i, j, k⟩ := e
  dsimp only at h
  subst h
  kernel_rfl
theorem oPowS {prog : Program} {w : World} {A : Around} {c : Fx} {F : Heap} {vals : List (Option Value)} {own : List (Addr × D)} {s : Shared} {Q : Value → Shared → Prop} {a n : Int} {t u : Tok} (H : Sg c F vals own s) (hn : 0 ≤ n ∧ n ≤ 1000) (ha : Sm 70 a) (h : ∀ t s', Sg c F vals own s' → Q (.int (a ^ n.toNat) t) s') :
    W prog w A (binaryOp .Pow (.int a t) (.int n u)) Q s := by
  refine oPow H hn.1 ?_ h
  have := PyProof.Rows.intBits_le ha
  have h1 : (Builtin.Int.intBits a : Int) ≤ 70 := by exact zq331 this
  have := Int.mul_le_mul h1 hn.2 hn.1 (by decide)
  exact Int.le_trans this (by decide)

section
variable {prog : Program} {w : World} {A : Around} {G F : Heap} {env : Env} {own : List (Addr × D)} {s s0 : Shared} {ad : Ads} {k0 fl : Addr} {Q : Flow → Shared → Prop}

theorem law7 {v0 v1 v2 v3 v4 v6 v7 v8 v9 v10 v11 v12 v13 v14 v15 v16 v17 : Option Value} {fvs : List Value} {Z TT : List (Addr × D)} {i : Nat} {falls : List (Int × Int)} (rm : Room A 7) (he : env.scope = dScope (stm 72)) (hfl : Z[i]? = some (fl, .list fvs)) (hfa : FallsAre falls fvs TT) (hTT : ∀ p ∈ TT, p ∈ Z)
    (hok : ∀ p ∈ falls, 1 ≤ p.1 ∧ p.1 ≤ 3 ∧ Le (2 ^ 60) p.2) (hsu : (falls.map (·.1)).sum ≤ 4)
    (H : Sg (lawC G env ad s0 k0) F [v0, v1, v2, v3, v4, some (.ref fl), v6, v7, v8, v9, v10, v11, v12, v13, v14, v15, v16, v17] Z s)
    (h : ∀ du t1 t2 t3 v7 v15 s, Sg (lawC G env ad s0 k0) F [v0, v1, v2, v3, v4, some (.ref fl), v6, v7, v8, v9, v10, some (.ref du), some (.int (dueK falls falls.length).reach t1), some (.int (dueK falls falls.length).corner t2), some (.int (dueK falls falls.length).balance t3), v15, v16, v17]
      ((du, .ints (dueK falls falls.length).due) :: Z) s → W prog w A (execs ((dBody (stm 72)).drop 12) env) Q s) :
    W prog w A (execs ((dBody (stm 72)).drop 9) env) Q s := by
  -- due = [0, 0, 0, 0]
  refine x1 (xAsg ?_)
  refine eList (sp1 ?_)
  refine kI H fun t s H => sp1 ?_
  refine kI H fun t s H => sp1 ?_
  refine kI H fun t s H => sp1 ?_
  refine kI H fun t s H => sp0 ?_
  refine mkInts (ns := [0, 0, 0, 0]) H (.cons _ _ (.cons _ _ (.cons _ _ (.cons _ _ .nil)))) fun du s H => ?_
  have H := H.tuck 0
  refine stL H (i := 11) rfl rfl fun s H => ?_
  -- reach, corner, balance = (0, 1, 0)
  refine x1 (xTup ?_ rfl (sw3 he))
  refine eTup (sp1 ?_)
  refine kI H fun t1 s H => sp1 ?_
  refine kI H fun t2 s H => sp1 ?_
  refine kI H fun t3 s H => sp0 ?_
  refine mkTup H fun T s H => ?_
  refine aTup rm.handled H (H.at (getLen _)) fun s H => ?_
  refine ai1 (aName (stL H (i := 12) rfl rfl fun s H => ?_))
  refine ai1 (aName (stL H (i := 13) rfl rfl fun s H => ?_))
  refine ai1 (aName (stL H (i := 14) rfl rfl fun s H => ?_))
  refine ai0 ?_
  have H := H.less (List.sublist_append_left _ _)
  -- for fall, both in falls:
  refine x1 (for_list rm.handled H ?_ (hlet := let_list))
  refine nL H (i := 5) rfl rfl ?_
  refine ⟨_, _, fl, fvs, fun k vals own => ∃ t1 t2 t3 v7 v15, vals = [v0, v1, v2, v3, v4, some (.ref fl), v6, v7, v8, v9, v10, some (.ref du), some (.int (dueK falls k).reach t1), some (.int (dueK falls k).corner t2), some (.int (dueK falls k).balance t3), v15, v16, v17] ∧
    own = (du, .ints (dueK falls k).due) :: Z, rfl, H, ⟨t1, t2, t3, _, _, rfl, rfl⟩, ?_, ?_, ?_⟩
  · rintro k _ _ s ⟨t1, t2, t3, v7, v15, rfl, rfl⟩ H
    exact D.isL (H.at (i := i + 1) (by rw [List.getElem?_cons_succ]; exact hfl))
  · rintro k v F' _ _ s Qt hv ⟨t1, t2, t3, v7, v15, rfl, rfl⟩ hF H hQ hRt
    have hk : k < falls.length := by rw [← hfa.length]; exact (List.getElem?_eq_some_iff.mp hv).1
    obtain ⟨a, u1, u2, rfl, hmem⟩ := hfa.get hv
    have dok := duek_ok hok k (by exact zq330 hk)
    have dok1 := duek_ok hok (k + 1) hk
    have hst : dueK falls (k + 1) = dueStep (dueK falls k) (falls.getD k (0, 0)) := rfl
    have hpk : falls.getD k (0, 0) ∈ falls := by
      rw [List.getD_eq_getElem?_getD, List.getElem?_eq_getElem hk]; exact List.getElem_mem _
    have hp := hok _ hpk
    have hre : (dueK falls (k + 1)).reach = (dueK falls k).reach + (falls.getD k (0, 0)).1 := rfl
    have hr4 : (dueK falls (k + 1)).reach ≤ 4 := by
      rw [dok1.reach, List.map_take]
      exact Int.le_trans (sum_take_le (fun x hx => by obtain ⟨p, hp, rfl⟩ := List.mem_map.mp hx; have := (hok p hp).1; exact zq329 this) _) hsu
    have hr0 := dok.r0
    have hcor := dok.cor
    have hdl := dok.len
    generalize falls.getD k (0, 0) = p at *
    obtain ⟨x, y⟩ := p
    dsimp only at hp hre hmem
    have hc4 : Sm 241 (dueK falls k).corner := Nat.lt_of_le_of_lt (Nat.le_trans hcor (Nat.pow_le_pow_right (by decide) (show (dueK falls k).reach.toNat ≤ 4 by omega))) (by decide)
    have hy : Sm 70 y := hp.2.2.sm (by decide)
    have hyp : Sm 181 (y ^ x.toNat) := by
      unfold Sm
      rw [Int.natAbs_pow]
      refine Nat.lt_of_le_of_lt (Nat.le_trans (Nat.pow_le_pow_left hp.2.2 x.toNat) (Nat.pow_le_pow_right (by decide) (show x.toNat ≤ 3 by omega))) (by decide)
    have hcy : Sm (241 + 181) ((dueK falls k).corner * y ^ x.toNat) := by
      unfold Sm at *
      rw [Int.natAbs_mul, Nat.pow_add]
      exact Nat.mul_lt_mul'' hc4 hyp
    refine aTup rm.handled H (H.mine _ (.tail _ (hTT _ hmem))).1 fun s H => ?_
    refine ai1 (aName (stL H (i := 7) rfl rfl fun s H => ?_))
    refine ai1 (aName (stL H (i := 15) rfl rfl fun s H => ?_))
    refine ai0 ?_
    -- reach += fall
    refine x1 (xAug ?_)
    refine ldN H (i := 12) rfl rfl ?_
    refine nL H (i := 7) rfl rfl ?_
    refine iAdd H fun t1 s H => ?_
    refine stL H (i := 12) rfl rfl fun s H => ?_
    -- corner = corner * both ** fall * (1, 1, -1, -1)[fall]
    refine x1 (xAsg ?_)
    refine eBin ?_
    refine eBin ?_
    refine nL H (i := 13) rfl rfl ?_
    refine eBin ?_
    refine nL H (i := 15) rfl rfl ?_
    refine nL H (i := 7) rfl rfl ?_
    refine oPowS H (by omega) hy fun t s H => ?_
    refine oMul H (hc4.mulOk hyp) fun t s H => ?_
    refine eSub ?_
    refine eTup (sp1 ?_)
    refine kI H fun q1 s H => sp1 ?_
    refine kI H fun q2 s H => sp1 ?_
    refine eUn ?_
    refine kI H fun t s H => ?_
    refine oNeg H fun q3 s H => sp1 ?_
    refine eUn ?_
    refine kI H fun t s H => ?_
    refine oNeg H fun q4 s H => sp0 ?_
    refine mkTup H fun T s H => ?_
    refine nL H (i := 7) rfl rfl ?_
    refine subTI (ns := [1, 1, -1, -1]) (H.at (getLen _)) (.cons _ _ (.cons _ _ (.cons _ _ (.cons _ _ .nil)))) (by omega) (by simp; omega) (by decide) fun t => ?_
    have hm1 : Sm 2 ([1, 1, -1, -1].getD x.toNat (0 : Int)) := by
      have hm : x.toNat < 4 := by omega
      generalize x.toNat = m at hm
      unfold Sm
      rcases m with _ | _ | _ | _ | m
      · decide
      · decide
      · decide
      · decide
      · exact zq328 hm
    refine oMul H (hcy.mulOk hm1) fun t2 s H => ?_
    have H := H.less (List.sublist_append_left _ _)
    refine stL H (i := 13) rfl rfl fun s H => ?_
    -- due[reach - 1] = corner
    refine x1 (xSub ?_)
    refine nL H (i := 13) rfl rfl ?_
    refine nL H (i := 11) rfl rfl ?_
    refine eBin ?_
    refine nL H (i := 12) rfl rfl ?_
    refine kI H fun t s H => ?_
    refine oSub H fun t s H => ?_
    refine setI H (i := 0) rfl (by omega) (by rw [hdl]; exact zq327 hr4 hre) (by rw [hdl]; decide) fun s H => ?_
    -- if fall % 2 == 1: balance += 1 if both > 0 else -1
    refine x1 (xIf ?_)
    refine tCmp ?_
    refine eBin ?_
    refine nL H (i := 7) rfl rfl ?_
    refine kI H fun t s H => ?_
    refine oMod H (by decide) fun t s H => ?_
    refine kI H fun t s H => ?_
    refine cEq (tBool ?_)
    by_cases hodd : x % 2 = 1
    · rw [show (x % 2 == 1) = true by simp [hodd], if_pos rfl]
      refine x1 (xAug ?_)
      refine ldN H (i := 14) rfl rfl ?_
      refine W.join H (fun v => ∃ t, v = .int (if 0 < y then 1 else -1) t) ?_ ?_
      · refine eIf ?_
        refine tCmp ?_
        refine nL H (i := 15) rfl rfl ?_
        refine kI H fun t s H => ?_
        refine cGt (tBool ?_)
        refine iteD (fun hq => ?_) fun hq => ?_
        · refine kI H fun t s H => ?_
          exact ⟨⟨t, by rw [if_pos hq]⟩, H⟩
        · refine eUn ?_
          refine kI H fun t s H => ?_
          refine oNeg H fun t s H => ?_
          exact ⟨⟨t, by rw [if_neg hq]⟩, H⟩
      · rintro v s ⟨t, rfl⟩ H
        refine iAdd H fun t3 s H => ?_
        refine stL H (i := 14) rfl rfl fun s H => ?_
        refine x0 (x0 (hQ _ _ _ ⟨t1, t2, t3, some (.int x u1), some (.int y u2), ?_, ?_⟩ H))
        · rw [hst]
          simp only [dueStep, if_pos hodd]
          rfl
        · rw [hst]; rfl
    · rw [show (x % 2 == 1) = false by simp [hodd], if_neg Bool.false_ne_true]
      refine x0 (x0 (hQ _ _ _ ⟨t1, t2, t3, some (.int x u1), some (.int y u2), ?_, ?_⟩ H))
      · rw [hst]
        simp only [dueStep, if_neg hodd]
        rfl
      · rw [hst]; rfl
  · rintro _ _ s ⟨t1, t2, t3, v7, v15, rfl, rfl⟩ H
    rw [hfa.length] at H
    exact h du t1 t2 t3 v7 v15 s H
end
end Mine

end

section
open PySem PySem.Spec PySem.Calls PyProof.Rows PySem.W
set_option Elab.async false
set_option linter.all false
set_option maxRecDepth 100000
set_option autoImplicit false
set_option maxHeartbeats 1000000
namespace Mine
theorem lasts_length (B : List (List Int)) : (lasts B).length = 4 := by simp [lasts]
theorem altRow_length (r : List Int) : (altRow r).length = 5 := by simp [altRow]

section
variable {prog : Program} {w : World} {A : Around} {G F : Heap} {env : Env} {own : List (Addr × D)} {s s0 : Shared} {ad : Ads} {k0 cs du : Addr} {ls : List Addr} {B : List (List Int)} {Q : Flow → Shared → Prop} {Z : List (Addr × D)} {i1 i2 i3 : Nat}

/-- the corners, where they lie -/
structure CorAt (Z : List (Addr × D)) (k0 cs : Addr) (ls : List Addr) (B : List (List Int)) (i1 i2 i3 : Nat) : Prop where
  cell : Z[i1]? = some (k0 + 1, .cell (some (.ref cs)))
  list : Z[i2]? = some (cs, .list (ls.map .ref))
  len : ls.length = 4
  rows : ∀ n, n < 4 → Z[i3 + n]? = some (ls.getD n 0, .ints (rowV B (n + 1)))

theorem law8 {v0 v1 v2 v3 v4 v5 v6 v7 v8 v9 v10 v12 v13 v14 v15 v16 v17 : Option Value} {idu : Nat} (rm : Room A 7) (co : CorAt Z k0 cs ls B i1 i2 i3) (edu : Z[idu]? = some (du, .ints (lasts B))) (hB : SqOk B)
    (H : Sg (lawC G env ad s0 k0) F [v0, v1, v2, v3, v4, v5, v6, v7, v8, v9, v10, some (.ref du), v12, v13, v14, v15, v16, v17] Z s)
    (h : ∀ s, Sg (lawC G env ad s0 k0) F [v0, v1, v2, v3, v4, v5, v6, v7, v8, v9, v10, some (.ref du), v12, v13, v14, v15, v16, v17] Z s → W prog w A (execs ((dBody (stm 72)).drop 13) env) Q s) :
    W prog w A (execs ((dBody (stm 72)).drop 12) env) Q s := by
  refine x1 (xIf ?_)
  refine tCmp ?_
  refine eComp ["size"] [] [] [("corners", k0 + 1)] H (by kernel_rfl) (fun p hp => ?_) ?_
  · rw [List.mem_singleton] at hp; subst hp
    exact (H.ok.cell _ (.tail _ (.head _))).2.2.1
  refine eCall ?_
  refine nG H (j := 0) rfl ?_
  refine cwT (sp1 ?_)
  refine kI H fun t s H => ?_
  refine sp0 ?_
  refine cRange1 H fun r t u v s H hr => ?_
  refine range_src (n := 4) rm.handled H hr (by decide) (by decide) rfl fun I s H h1 h2 h3 o ho self src => ?_
  refine ⟨_, _, I, _, o, _, rfl, trivial, H, h1, h2, h3, ho, self, H.glob0, fun acc c' e1 e2 e3 e4 e5 e6 e7 => ⟨fun m vals own => ∃ sv vs, vals = [sv] ∧ IntsAre vs ((lasts B).take m) ∧ own.Perm ((acc, .list vs) :: Z), ⟨?_, ?_, ?_⟩, src _ _⟩⟩
  · rw [e1]
    refine ⟨none, [], rfl, .nil, ?_⟩
    show List.Perm (_ ++ []) _
    rw [List.append_nil]
    exact tuck_perm 0 _ _
  · obtain ⟨G', env', names', gl', s0', cl'⟩ := c'
    dsimp only at e1 e2 e3 e4 e5 e6 e7
    subst e1 e2 e3
    rintro m tm F3 _ _ s Qt hm ⟨sv, vs, rfl, hvs, hperm⟩ hF3 H hQ
    have H := H.perm hperm
    have hvl := hvs.length
    rw [List.length_take] at hvl
    have hrl := rowV_length B (m + 1)
    have hne : rowV B (m + 1) ≠ [] := fun e => by rw [e] at hrl; simp at hrl
    refine stL H (i := 0) rfl rfl fun s H => ?_
    refine ct0 ?_
    rw [if_pos rfl]
    refine eBin ?_
    refine eSub ?_
    refine eSub ?_
    refine nC H (j := 0) rfl (H.at (i := i1 + 1) co.cell) ?_
    refine nL H (i := 0) rfl rfl ?_
    refine subL (v := .ref (ls.getD m 0)) (H.at (i := i2 + 1) co.list) (by exact zq213) (by exact zq341 hm) (by rw [show ((0 : Int) + m).toNat = m by exact zq214]; exact refs_get (by rw [co.len]; exact hm)) ?_
    refine eUn ?_
    refine kI H fun t s H => ?_
    refine oNeg H fun t s H => ?_
    refine subLast (H.at (i := i3 + m + 1) (co.rows m hm)) hne fun t => ?_
    refine eBin ?_
    refine eUn ?_
    refine kI H fun t s H => ?_
    refine oNeg H fun t s H => ?_
    refine eBin ?_
    refine nL H (i := 0) rfl rfl ?_
    refine kI H fun t s H => ?_
    refine oAdd H fun t s H => ?_
    refine oPowS H (by exact zq340 hm) (by decide : (-1 : Int).natAbs < 2 ^ 70) fun t s H => ?_
    rw [show ((0 : Int) + m + 1).toNat = m + 1 by exact zq339]
    have sm1 : Sm 7000 ((rowV B (m + 1)).getLastD 0) := by
      have e : (rowV B (m + 1)).getLastD 0 = (rowV B (m + 1)).getLast hne := by rw [List.getLastD_eq_getLast?, List.getLast?_eq_some_getLast hne]; rfl
      rw [e]
      exact (rowV_sm hB (m + 1) (by exact zq309 hm) _ (List.getLast_mem hne)).le (by exact zq338 hm)
    have sm2 : Sm 2 ((-1 : Int) ^ (m + 1)) := by
      unfold Sm
      rw [Int.natAbs_pow, show (-1 : Int).natAbs = 1 from rfl, Nat.one_pow]
      decide
    refine oMul H (sm1.mulOk sm2) fun t s H => ?_
    refine cAppend H (i := 0) rfl (by rw [sizeLine_eq]; exact zq337 hm hvl) fun s H => ?_
    refine hQ _ _ _ ⟨_, _, rfl, ?_, .refl _⟩ H
    rw [List.take_succ_eq_append_getElem (by rw [lasts_length]; exact hm)]
    have e8 : (lasts B)[m]'(by rw [lasts_length]; exact hm) = (rowV B (m + 1)).getLastD 0 * (-1) ^ (m + 1) := by simp [lasts]
    rw [e8]
    exact ints_snoc hvs
  · rintro _ _ s ⟨sv, vs, _, hvs, hperm⟩ H
    have H := H.perm hperm
    rw [List.take_of_length_le (by rw [lasts_length]; exact Nat.le_refl _)] at hvs
    have H := H.re (i := 0) rfl (d' := .ints (lasts B)) (D.ofInts (H.at (i := 0) rfl) hvs)
    refine nL H (i := 11) rfl rfl ?_
    refine cNeL (n := 1) rm (H.at (i := 0) rfl) (H.at (i := idu + 1) edu) ?_
    refine tBool ?_
    rw [decide_eq_true rfl]
    exact x0 (h s (H.less (.cons _ (.refl _))))

theorem law9 {v0 v1 v2 v3 v4 v5 v6 v7 v8 v9 v10 v11 v13 v15 v16 v17 : Option Value} {reach balance : Int} {tr tb : Tok} (rm : Room A 7) (hb : Base ad G) (heg : env.globals = mainGlobals ∧ env.builtins = builtinsNs ∧ True) (co : CorAt Z k0 cs ls B i1 i2 i3)
    (a1 : (changes (rowV B 4) : Int) + changes (altRow (rowV B 4)) = reach) (a2 : (changes (rowV B 4) : Int) - changes (altRow (rowV B 4)) = balance)
    (H : Sg (lawC G env ad s0 k0) F [v0, v1, v2, v3, v4, v5, v6, v7, v8, v9, v10, v11, some (.int reach tr), v13, some (.int balance tb), v15, v16, v17] Z s)
    (h : ∀ v16 v17 s, Sg (lawC G env ad s0 k0) F [v0, v1, v2, v3, v4, v5, v6, v7, v8, v9, v10, v11, some (.int reach tr), v13, some (.int balance tb), v15, v16, v17] Z s → W prog w A (execs ((dBody (stm 72)).drop 16) env) Q s) :
    W prog w A (execs ((dBody (stm 72)).drop 13) env) Q s := by
  have hr4 : (rowV B 4).length = 5 := rowV_length B 4
  have hl3 : (ls.map Value.ref)[3]? = some (.ref (ls.getD 3 0)) := refs_get (by rw [co.len]; decide)
  -- up = _law_changes(corners[3])
  refine x1 (xAsg ?_)
  refine eCall ?_
  refine nG H (j := 9) rfl ?_
  refine cwF (sp1 ?_)
  refine eSub ?_
  refine nC H (j := 1) rfl (H.at co.cell) ?_
  refine kI H fun t s H => ?_
  refine subL (v := .ref (ls.getD 3 0)) (H.at co.list) (by decide) (by decide) hl3 ?_
  refine sp0 ⟨(hb.keeps H.ground).obj 14 rfl, ?_⟩
  refine (changes_ok (hb.keeps H.ground) (H.at (co.rows 3 (by decide))) (by rw [hr4]; decide)).useI H (rm.le (by decide)) fun tu s H => ?_
  refine stL H (i := 16) rfl rfl fun s H => ?_
  -- down = _law_changes([.. for k in range(5)])
  refine x1 (xAsg ?_)
  refine eCall ?_
  refine nG H (j := 9) rfl ?_
  refine cwF (sp1 ?_)
  refine eComp ["k"] [] (Mine.pick (gtab ad) [1]) [("corners", k0 + 1)] H (by kernel_rfl) (fun p hp => ?_) ?_
  · rw [List.mem_singleton] at hp; subst hp
    exact (H.ok.cell _ (.tail _ (.head _))).2.2.1
  refine eCall ?_
  refine nG H (j := 0) rfl ?_
  refine cwT (sp1 ?_)
  refine kI H fun t s H => ?_
  refine sp0 ?_
  refine cRange1 H fun r t u v s H hr => ?_
  refine range_src (n := 5) rm.handled H hr (by decide) (by decide) rfl fun I s H h1 h2 h3 o ho self src => ?_
  have hG := H.sub
  refine ⟨_, _, I, _, o, _, rfl, trivial, H, h1, h2, h3, ho, self, globAt_of hb heg H [1], fun acc c' e1 e2 e3 e4 e5 e6 e7 => ⟨fun m vals own => ∃ sv vs, vals = [sv] ∧ IntsAre vs ((altRow (rowV B 4)).take m) ∧ own.Perm ((acc, .list vs) :: Z), ⟨?_, ?_, ?_⟩, src _ _⟩⟩
  · rw [e1]
    refine ⟨none, [], rfl, .nil, ?_⟩
    show List.Perm (_ ++ []) _
    rw [List.append_nil]
    exact tuck_perm 0 _ _
  · obtain ⟨G', env', names', gl', s0', cl'⟩ := c'
    dsimp only at e1 e2 e3 e4 e5 e6 e7
    subst e1 e2 e3
    rintro m tm F3 _ _ s Qt hm ⟨sv, vs, rfl, hvs, hperm⟩ hF3 H hQ
    have H := H.perm hperm
    have hb' : Base ad G' := hb.keeps fun b o e => e4 b o (hG b o e)
    have hvl := hvs.length
    rw [List.length_take] at hvl
    have em : ((0 : Int) + m).toNat = m := by exact zq214
    refine stL H (i := 0) rfl rfl fun s H => ?_
    refine ct0 ?_
    rw [if_pos rfl]
    refine W.join H (fun v => ∃ t, v = .int (if m % 2 = 0 then (rowV B 4).getD m 0 else -((rowV B 4).getD m 0)) t) ?_ ?_
    · refine eIf ?_
      refine tCmp ?_
      refine eBin ?_
      refine nL H (i := 0) rfl rfl ?_
      refine kI H fun t s H => ?_
      refine oMod H (by decide) fun t s H => ?_
      refine kI H fun t s H => ?_
      refine cEq (tBool ?_)
      by_cases he : m % 2 = 0
      · rw [show (((0 : Int) + m) % 2 == 0) = true by rw [beq_iff_eq]; exact zq336 he, if_pos rfl]
        refine eSub ?_
        refine eSub ?_
        refine nC H (j := 0) rfl (H.at (i := i1 + 1) co.cell) ?_
        refine kI H fun t s H => ?_
        refine subL (v := .ref (ls.getD 3 0)) (H.at (i := i2 + 1) co.list) (by decide) (by decide) hl3 ?_
        refine nL H (i := 0) rfl rfl ?_
        refine subI (H.at (i := i3 + 3 + 1) (co.rows 3 (by decide))) (by exact zq213) (by rw [hr4]; exact zq334 hm) (by rw [hr4]; decide) fun t => ?_
        rw [em]
        exact ⟨⟨t, by rw [if_pos he]⟩, H⟩
      · rw [show (((0 : Int) + m) % 2 == 0) = false by rw [beq_eq_false_iff_ne]; exact zq335 he, if_neg Bool.false_ne_true]
        refine eCall ?_
        refine nG H (j := 0) rfl ?_
        refine cwF (sp1 ?_)
        refine eSub ?_
        refine eSub ?_
        refine nC H (j := 0) rfl (H.at (i := i1 + 1) co.cell) ?_
        refine kI H fun t s H => ?_
        refine subL (v := .ref (ls.getD 3 0)) (H.at (i := i2 + 1) co.list) (by decide) (by decide) hl3 ?_
        refine nL H (i := 0) rfl rfl ?_
        refine subI (H.at (i := i3 + 3 + 1) (co.rows 3 (by decide))) (by exact zq213) (by rw [hr4]; exact zq334 hm) (by rw [hr4]; decide) fun t => ?_
        rw [em]
        refine sp0 ⟨(hb'.keeps H.ground).obj 1 rfl, ?_⟩
        refine (neg_ok (hb'.keeps H.ground)).useI H (rm.le (by decide)) fun t s H => ?_
        exact ⟨⟨t, by rw [if_neg he]⟩, H⟩
    · rintro v s ⟨t, rfl⟩ H
      refine cAppend H (i := 0) rfl (by rw [sizeLine_eq]; exact zq333 hm hvl) fun s H => ?_
      refine hQ _ _ _ ⟨_, _, rfl, ?_, .refl _⟩ H
      rw [List.take_succ_eq_append_getElem (by rw [altRow_length]; exact hm)]
      have e8 : (altRow (rowV B 4))[m]'(by rw [altRow_length]; exact hm) = if m % 2 = 0 then (rowV B 4).getD m 0 else -((rowV B 4).getD m 0) := by simp [altRow]
      rw [e8]
      exact ints_snoc hvs
  · rintro _ _ s ⟨sv, vs, _, hvs, hperm⟩ H
    have H := H.perm hperm
    rw [List.take_of_length_le (by rw [altRow_length]; exact Nat.le_refl _)] at hvs
    have H := H.re (i := 0) rfl (d' := .ints (altRow (rowV B 4))) (D.ofInts (H.at (i := 0) rfl) hvs)
    refine sp0 ⟨(hb.keeps H.ground).obj 14 rfl, ?_⟩
    refine (changes_ok (hb.keeps H.ground) (H.at (i := 0) rfl) (by rw [altRow_length]; decide)).useI H (rm.le (by decide)) fun td s H => ?_
    have H := H.less (.cons _ (.refl _))
    refine stL H (i := 17) rfl rfl fun s H => ?_
    -- if up + down != reach or up - down != balance: return False
    refine x1 (xIf ?_)
    refine tOr (tOr1 (tCmp ?_))
    refine eBin ?_
    refine nL H (i := 16) rfl rfl ?_
    refine nL H (i := 17) rfl rfl ?_
    refine oAdd H fun t s H => ?_
    refine nL H (i := 12) rfl rfl ?_
    refine cNe (tBool ?_)
    rw [a1, show (reach != reach) = false by simp, if_neg Bool.false_ne_true]
    refine tOr1 (tCmp ?_)
    refine eBin ?_
    refine nL H (i := 16) rfl rfl ?_
    refine nL H (i := 17) rfl rfl ?_
    refine oSub H fun t s H => ?_
    refine nL H (i := 14) rfl rfl ?_
    refine cNe (tBool ?_)
    rw [a2, show (balance != balance) = false by simp, if_neg Bool.false_ne_true]
    refine tOr0 ?_
    rw [if_neg Bool.false_ne_true]
    exact x0 (h _ _ s H)

theorem gaX {Q : Value → Shared → Prop} {c : Fx} {vals : List (Option Value)} {L : LexA} {page : List Nat} {name : Str} {e : Bool} {i : Nat} {line : Int} {v : Tok → Tok → Value} (H : Sg c F vals own s) (ok' : LexOk ad L page s.heap) (eo : own[i]? = some (L.dx, .fact (LexDO L line))) (hv : ∀ t wt, lexF L line t wt name = some (v t wt))
    (hm : (name, none) ∈ clsTab ad) (hB : typeLookup (.type "object") name = pure none) (h : ∀ t wt s', Sg c F vals own s' → Q (v t wt) s') (hh : ∀ t wt, handedOut (v t wt) = pure (v t wt) := by intros; rfl) : W prog w A (getAttr (.ref L.x) name e) Q s := by
  obtain ⟨o, ho, t, wt, hd⟩ := H.at eo
  exact gaI H ok'.cls ok'.inst ⟨o, ho, hd⟩ ok'.ne (hv t wt) hm hB (h t wt) (hh t wt)

theorem law10 {v0 v1 v2 v3 v4 v5 v6 v7 v8 v10 v11 v12 v13 v14 v15 v16 v17 : Option Value} {TT : List (Addr × D)} {L : LexA} {l : List (Addr × D)} {p0 : Addr × D} {pg pre : List Nat} {pos : Nat} {tg : Tok} (rm : Room A 7) (hb : Base ad G) (hc : ClsOk ad G) (im : Imm ad L pg l) (hz : pg.length ≤ 1000000)
    (hp : pos ≤ pg.length) (hd : pg.drop pos = pre) (hpre : ∀ c ∈ pre, isWs c)
    (H : Sg (lawC G env ad s0 k0) F [v0, v1, v2, v3, v4, v5, v6, v7, v8, some (.str (tx pg) tg), v10, v11, v12, v13, v14, v15, v16, v17] (lexM L pg pos [] ++ (l ++ ([p0, (k0, .cell (some (.ref L.x)))] ++ TT))) s)
    (h : ∀ s own', own'[10]? = some p0 → Sg (lawC G env ad s0 k0) F [v0, v1, v2, v3, v4, v5, v6, v7, v8, some (.str (tx pg) tg), v10, v11, v12, v13, v14, v15, v16, v17] own' s → Q (.ret (.bool true)) s) :
    W prog w A (execs ((dBody (stm 72)).drop 16) env) Q s := by
  obtain ⟨tp, c2, q, doc, pm, ctv, so, hso, rfl⟩ := im
  have im : Imm ad L pg (lexI ad L pg tp c2 q doc pm ctv so) := ⟨tp, c2, q, doc, pm, ctv, so, hso, rfl⟩
  refine x1 (xRet ?_)
  refine eAnd2 ?_
  refine eCmp ?_
  refine eMeth ?_
  refine nC H (j := 0) rfl (H.at (i := 11) rfl) ?_
  have lk := LexOk.of H im hb hc hz
  refine gmX (n := 18) (i := 1) H (lk.keeps fun b o e => of_hideAll _ e) rfl (fun _ _ => rfl) (by simp [clsTab]) ((hb.keeps H.ground).fnCls 18 rfl) tl_get_token ?_
  refine cwF0 ((hb.keeps H.ground).obj 18 rfl) ?_
  refine (getToken_ok (o := none) lk H.mtOk (hd.trans (List.append_nil _).symm) hpre trivial hp).use H (rm.le (by decide)) fun v s mt' em H _ hP => ?_
  obtain ⟨pos', u, hp', rfl, rfl, hd'⟩ := hP
  have hend : pos' = pg.length := by
    have := drop_nil hd'; exact zq332 hp' this
  subst hend
  refine kST [] H fun t s H => ?_
  refine cEqS ?_
  rw [show decide (tokO none = []) = true from rfl]
  refine tBool ?_
  rw [if_pos rfl]
  refine eCmp ?_
  refine eAttr ?_
  refine nC H (j := 0) rfl (H.at (i := 11) rfl) ?_
  have lk := LexOk.of H im hb hc hz
  refine gaX (v := fun t _ => .int (lnAt pg pg.length) t) H (lk.keeps fun b o e => of_hideAll _ e) (i := 1) rfl (fun _ _ => rfl) (by simp [clsTab]) tl_lineno fun _ _ s H => ?_
  refine eBin ?_
  refine kI H fun t s H => ?_
  refine eMeth ?_
  refine nL H (i := 9) rfl rfl ?_
  refine gmCount ?_
  refine cwB (sp1 ?_)
  refine kST [10] H fun t s H => ?_
  refine sp0 ?_
  refine cCount H fun t s H => ?_
  refine oAdd H fun t s H => ?_
  refine cEq ?_
  have e : (lnAt pg pg.length == (1 : Int) + (pg.count 10 : Nat)) = true := by
    rw [beq_iff_eq, lnAt, List.take_length]
  rw [e]
  exact h s _ rfl H
end
end Mine

end

section
open PySem PySem.Spec PySem.Calls PyProof.Rows PySem.W
set_option Elab.async false
set_option linter.all false
set_option maxRecDepth 100000
set_option autoImplicit false
set_option maxHeartbeats 1000000
namespace Mine

section
variable {prog : Program} {w : World} {s0 : Shared} {ad : Ads} {P sc fn cc : Addr} {script : List Int}

theorem law_ok (hw : ad.w = w) (hf : IsFn s0.heap fn (dArgs (stm 72)) (dBody (stm 72)) (dScope (stm 72)) []) (hb : Base ad (hideAll s0.heap [P])) (hc : ClsOk ad (hideAll s0.heap [P])) (mk : MkOk cc P (hideAll s0.heap [P]))
    (hcd : CodeIs (hideAll s0.heap [P]) (ad.fn 15) (.ref cc)) (hm : MtOk s0.heap [(P, .obj (tabObj #[]))]) (hsc : D.At (hideAll s0.heap [P]) sc (.ints script)) (hlen : script.length ≤ 100000) (as : Asks (drawsK script (min 20 script.length))) :
    CtC prog w 8 (.ref fn) [.ref sc] s0 [(P, .obj (tabObj #[]))] (fun v mt' _ => v = .bool true ∧ ∃ ps, mt' = [(P, .obj (tabObj ps))]) := by
  intro A R rm ret
  refine call_fnMX (Q := R) (pn := ["script"]) (names := lawNames) (cn := ["lexer", "corners"]) (closure := []) [(P, .obj (tabObj #[]))] rfl hm.at_ hm.nd hf hb.lim rm (by intros _ _ _ _ _ _ _ _ _ _; rfl) (by kernel_rfl) (by decide +kernel) (hb.glob.pick [20, 19, 9, 26, 10, 8, 15, 13, 11, 14]) fun env s he0 he H rm => ?_
  refine b1 (stL H (i := 0) rfl rfl fun s H => b0 ⟨H.keep, ?_⟩)
  have heg : env.globals = mainGlobals ∧ env.builtins = builtinsNs ∧ True := ⟨he.1, he.2.1, trivial⟩
  have hdl := drawsK_length script (min 20 script.length)
  have hdn := drawsK_nonneg script (min 20 script.length)
  refine law1 (k0 := s0.heap.objs.size + 1) rm hsc hlen H fun dr v2 s H => ?_
  generalize drawsK script (min 20 script.length) = ds at *
  have ok := chK_ok ds 4
  have h5 := ch_done ds
  have n9 := nine_length ok h5
  have sm9 := nine_sm (ds := ds)
  have H := H.pick 4 [1, 2, 3, 0] rfl (by decide)
  refine law2 rm hb he0 hdl hdn H fun fa ga fl fvs TT v6 v7 v8 s hfa H => ?_
  refine law3 rm hb heg hdl hdn H fun tp s H => ?_
  refine law4 rm hb hc mk hcd (page_small ds) H fun L l ps s im H => ?_
  refine law5 rm hw hb hc heg im H fun pos pre td s hp hd hpre H => ?_
  refine law6 rm hw hb hc im (page_small ds) n9 sm9 H fun cs l1 l2 l3 l4 s H => ?_
  obtain ⟨tp2, c2, q, doc, pm, ctv, so, hso, rfl⟩ := im
  have im : Imm ad L (pageOf ds) (lexI ad L (pageOf ds) tp2 c2 q doc pm ctv so) := ⟨tp2, c2, q, doc, pm, ctv, so, hso, rfl⟩
  refine law7 (i := 13) rm he0 rfl hfa (fun p hp => List.mem_append_right _ (List.mem_append_right _ (List.mem_append_right _ hp))) (fun p hp => ⟨(ok.fa p hp).1, (ok.fa p hp).2.1, (ok.fa p hp).2.2.mono (by decide)⟩) (by have := ok.su; rw [h5] at this; exact this) H fun du t1 t2 t3 v7 v15 s H => ?_
  rw [← as.due] at H
  have co : CorAt ((du, D.ints (lasts (sqB (nine (chK ds 4))))) :: (lexM L (pageOf ds) pos [] ++ (lexI ad L (pageOf ds) tp2 c2 q doc pm ctv so ++ ([(P, .obj (tabObj ps)), (s0.heap.objs.size + 1, .cell (some (.ref L.x))), (s0.heap.objs.size + 1 + 1, .cell (some (.ref cs))), (fl, .list fvs), (cs, .list [.ref l1, .ref l2, .ref l3, .ref l4]), (l1, .ints (rowV (sqB (nine (chK ds 4))) 1)), (l2, .ints (rowV (sqB (nine (chK ds 4))) 2)), (l3, .ints (rowV (sqB (nine (chK ds 4))) 3)), (l4, .ints (rowV (sqB (nine (chK ds 4))) 4))] ++ TT)))) (s0.heap.objs.size + 1) cs [l1, l2, l3, l4] (sqB (nine (chK ds 4))) 13 15 16 := by
    refine ⟨rfl, rfl, rfl, fun n hn => ?_⟩
    rcases n with _ | _ | _ | _ | n
    · rfl
    · rfl
    · rfl
    · rfl
    · omega
  refine law8 (idu := 0) rm co rfl (sqB_ok fun x hx => (sm9 x hx).le (by decide)) H fun s H => ?_
  refine law9 rm hb heg co as.sum as.dif H fun v16 v17 s H => ?_
  have H := H.less (.cons _ (.refl _))
  refine law10 (TT := [(s0.heap.objs.size + 1 + 1, .cell (some (.ref cs))), (fl, .list fvs), (cs, .list [.ref l1, .ref l2, .ref l3, .ref l4]), (l1, .ints (rowV (sqB (nine (chK ds 4))) 1)), (l2, .ints (rowV (sqB (nine (chK ds 4))) 2)), (l3, .ints (rowV (sqB (nine (chK ds 4))) 3)), (l4, .ints (rowV (sqB (nine (chK ds 4))) 4))] ++ TT) rm hb hc im (page_small ds) hp hd hpre H fun s own' h10 H => ?_
  refine ret _ _ [(P, .obj (tabObj ps))] rfl H.keep H.same (fun p hp => ?_) ⟨rfl, ps, rfl⟩
  rw [List.mem_singleton] at hp; subst hp
  exact H.at h10
end
end Mine

end

section
set_option Elab.async false
set_option linter.all false
set_option maxRecDepth 100000
set_option autoImplicit false
namespace Mine

/-! ops -/
structure Op (α : Type) where
  ad : α → α → α
  mu : α → α → α
  ng : α → α
noncomputable def opI : Op Int := ⟨fun a b => a + b, fun a b => a * b, fun a => -a⟩
inductive apI (x : Int) (f : Int → Prop) : Prop
  | mk (h : f x)
theorem apI.out {x : Int} {f : Int → Prop} : apI x f → f x | ⟨h⟩ => h
/-- the square's ten numbers -/
noncomputable def ten {α β : Type} (o : Op α) (fc : α → (α → β) → β) (a b c d e p q r s : α) (k : α → α → α → α → α → α → α → α → α → α → β) : β :=
  fc (o.mu a p) fun b00 => fc (o.mu a q) fun b01 => fc (o.mu a r) fun b02 => fc (o.mu a s) fun b03 =>
  fc (o.ad (o.ad (o.mu b q) (o.ng (o.mu c p))) b02) fun b11 =>
  fc (o.ad (o.ad (o.mu b r) (o.ng (o.mu d p))) b03) fun b12 =>
  fc (o.ad (o.mu b s) (o.ng (o.mu e p))) fun b13 =>
  fc (o.ad (o.ad (o.mu c r) (o.ng (o.mu d q))) b13) fun b22 =>
  fc (o.ad (o.mu c s) (o.ng (o.mu e q))) fun b23 =>
  fc (o.ad (o.mu d s) (o.ng (o.mu e r))) fun b33 => k b00 b01 b02 b03 b11 b12 b13 b22 b23 b33
/-- the corners' polynomials, step by step -/
noncomputable def berk {α β : Type} (o : Op α) (fc : α → (α → β) → β) (k : α → α → α → α → α → α → α → β) (b00 b01 b02 b03 b11 b12 b13 b22 b23 b33 : α) : β :=
  fc (o.ng b00) fun r1 =>
  fc (o.ng b11) fun s1 =>
  fc (o.ad s1 r1) fun q1 =>
  fc (o.ad (o.ng (o.mu b01 b01)) (o.mu r1 s1)) fun q2 =>
  fc (o.ad (o.mu b00 b02) (o.mu b01 b12)) fun c0 =>
  fc (o.ad (o.mu b01 b02) (o.mu b11 b12)) fun c1 =>
  fc (o.ng b22) fun v1 =>
  fc (o.ng (o.ad (o.mu b02 b02) (o.mu b12 b12))) fun v2 =>
  fc (o.ng (o.ad (o.mu b02 c0) (o.mu b12 c1))) fun v3 =>
  fc (o.ad v1 q1) fun t1 =>
  fc (o.ad (o.ad v2 (o.mu q1 v1)) q2) fun t2 =>
  fc (o.ad (o.ad v3 (o.mu q1 v2)) (o.mu q2 v1)) fun t3 =>
  fc (o.ad (o.ad (o.mu b00 b03) (o.mu b01 b13)) (o.mu b02 b23)) fun x0 =>
  fc (o.ad (o.ad (o.mu b01 b03) (o.mu b11 b13)) (o.mu b12 b23)) fun x1 =>
  fc (o.ad (o.ad (o.mu b02 b03) (o.mu b12 b13)) (o.mu b22 b23)) fun x2 =>
  fc (o.ad (o.ad (o.mu b00 x0) (o.mu b01 x1)) (o.mu b02 x2)) fun y0 =>
  fc (o.ad (o.ad (o.mu b01 x0) (o.mu b11 x1)) (o.mu b12 x2)) fun y1 =>
  fc (o.ad (o.ad (o.mu b02 x0) (o.mu b12 x1)) (o.mu b22 x2)) fun y2 =>
  fc (o.ng b33) fun w1 =>
  fc (o.ng (o.ad (o.ad (o.mu b03 b03) (o.mu b13 b13)) (o.mu b23 b23))) fun w2 =>
  fc (o.ng (o.ad (o.ad (o.mu b03 x0) (o.mu b13 x1)) (o.mu b23 x2))) fun w3 =>
  fc (o.ng (o.ad (o.ad (o.mu b03 y0) (o.mu b13 y1)) (o.mu b23 y2))) fun w4 =>
  k r1 q2 t3 (o.ad w1 t1) (o.ad (o.ad w2 (o.mu t1 w1)) t2) (o.ad (o.ad (o.ad w3 (o.mu t1 w2)) (o.mu t2 w1)) t3) (o.ad (o.ad (o.ad w4 (o.mu t1 w3)) (o.mu t2 w2)) (o.mu t3 w1))

theorem ten_eq {α β : Type} (o : Op α) (fc : α → (α → β) → β) (a b c d e p q r s : α) (k : α → α → α → α → α → α → α → α → α → α → β) : ten o fc a b c d e p q r s k =
  fc (o.mu a p) fun b00 => fc (o.mu a q) fun b01 => fc (o.mu a r) fun b02 => fc (o.mu a s) fun b03 =>
  fc (o.ad (o.ad (o.mu b q) (o.ng (o.mu c p))) b02) fun b11 =>
  fc (o.ad (o.ad (o.mu b r) (o.ng (o.mu d p))) b03) fun b12 =>
  fc (o.ad (o.mu b s) (o.ng (o.mu e p))) fun b13 =>
  fc (o.ad (o.ad (o.mu c r) (o.ng (o.mu d q))) b13) fun b22 =>
  fc (o.ad (o.mu c s) (o.ng (o.mu e q))) fun b23 =>
  fc (o.ad (o.mu d s) (o.ng (o.mu e r))) fun b33 => k b00 b01 b02 b03 b11 b12 b13 b22 b23 b33 := rfl
theorem berk_eq {α β : Type} (o : Op α) (fc : α → (α → β) → β) (k : α → α → α → α → α → α → α → β) (b00 b01 b02 b03 b11 b12 b13 b22 b23 b33 : α) : berk o fc k b00 b01 b02 b03 b11 b12 b13 b22 b23 b33 =
  fc (o.ng b00) fun r1 =>
  fc (o.ng b11) fun s1 =>
  fc (o.ad s1 r1) fun q1 =>
  fc (o.ad (o.ng (o.mu b01 b01)) (o.mu r1 s1)) fun q2 =>
  fc (o.ad (o.mu b00 b02) (o.mu b01 b12)) fun c0 =>
  fc (o.ad (o.mu b01 b02) (o.mu b11 b12)) fun c1 =>
  fc (o.ng b22) fun v1 =>
  fc (o.ng (o.ad (o.mu b02 b02) (o.mu b12 b12))) fun v2 =>
  fc (o.ng (o.ad (o.mu b02 c0) (o.mu b12 c1))) fun v3 =>
  fc (o.ad v1 q1) fun t1 =>
  fc (o.ad (o.ad v2 (o.mu q1 v1)) q2) fun t2 =>
  fc (o.ad (o.ad v3 (o.mu q1 v2)) (o.mu q2 v1)) fun t3 =>
  fc (o.ad (o.ad (o.mu b00 b03) (o.mu b01 b13)) (o.mu b02 b23)) fun x0 =>
  fc (o.ad (o.ad (o.mu b01 b03) (o.mu b11 b13)) (o.mu b12 b23)) fun x1 =>
  fc (o.ad (o.ad (o.mu b02 b03) (o.mu b12 b13)) (o.mu b22 b23)) fun x2 =>
  fc (o.ad (o.ad (o.mu b00 x0) (o.mu b01 x1)) (o.mu b02 x2)) fun y0 =>
  fc (o.ad (o.ad (o.mu b01 x0) (o.mu b11 x1)) (o.mu b12 x2)) fun y1 =>
  fc (o.ad (o.ad (o.mu b02 x0) (o.mu b12 x1)) (o.mu b22 x2)) fun y2 =>
  fc (o.ng b33) fun w1 =>
  fc (o.ng (o.ad (o.ad (o.mu b03 b03) (o.mu b13 b13)) (o.mu b23 b23))) fun w2 =>
  fc (o.ng (o.ad (o.ad (o.mu b03 x0) (o.mu b13 x1)) (o.mu b23 x2))) fun w3 =>
  fc (o.ng (o.ad (o.ad (o.mu b03 y0) (o.mu b13 y1)) (o.mu b23 y2))) fun w4 =>
  k r1 q2 t3 (o.ad w1 t1) (o.ad (o.ad w2 (o.mu t1 w1)) t2) (o.ad (o.ad (o.ad w3 (o.mu t1 w2)) (o.mu t2 w1)) t3) (o.ad (o.ad (o.ad w4 (o.mu t1 w3)) (o.mu t2 w2)) (o.mu t3 w1)) := rfl
theorem canc (x y z : Int) : (x - y) + ((y - x) + z) = z := by exact zq342
theorem sqB_eq (a b c d e p q r s : Int) : sqB [a, b, c, d, e, p, q, r, s] =
    [[a * p, a * q, a * r, a * s], [a * q, b * q + -(c * p) + a * r, b * r + -(d * p) + a * s, b * s + -(e * p)],
     [a * r, b * r + -(d * p) + a * s, c * r + -(d * q) + (b * s + -(e * p)), c * s + -(e * q)], [a * s, b * s + -(e * p), c * s + -(e * q), d * s + -(e * r)]] := by
  show [[a * p - b * 0, ((b * p - b * p) + (a * q - c * 0)), ((c * p - b * q) + (((b * q - c * p) + (a * r - d * 0)))), ((d * p - b * r) + (((c * q - c * q) + (((b * r - d * p) + (a * s - e * 0))))))], [a * q - c * 0, ((b * q - c * p) + (a * r - d * 0)), ((c * q - c * q) + (((b * r - d * p) + (a * s - e * 0)))), ((d * q - c * r) + (((c * r - d * q) + (((b * s - e * p) + (0))))))], [a * r - d * 0, ((b * r - d * p) + (a * s - e * 0)), ((c * r - d * q) + (((b * s - e * p) + (0)))), ((d * r - d * r) + (((c * s - e * q) + (0))))], [a * s - e * 0, ((b * s - e * p) + (0)), ((c * s - e * q) + (0)), ((d * s - e * r) + (0))]] = _
  simp only [Int.mul_zero, Int.sub_zero, Int.sub_self, Int.zero_add, Int.add_zero, canc]
  simp only [Int.sub_eq_add_neg]

noncomputable abbrev S4 (b00 b01 b02 b03 b11 b12 b13 b22 b23 b33 : Int) : List (List Int) := [[b00, b01, b02, b03], [b01, b11, b12, b13], [b02, b12, b22, b23], [b03, b13, b23, b33]]
theorem next1 (v1 v2 q1 : Int) : rowNext [1, q1] [1, v1, v2] 3 = [1, v1 + q1, v2 + q1 * v1] := by
  show [0 + 1 * 1, 0 + 1 * v1 + q1 * 1, 0 + 1 * v2 + q1 * v1] = _
  simp only [Int.zero_add, Int.one_mul, Int.mul_one]
theorem next2 (v1 v2 v3 q1 q2 : Int) : rowNext [1, q1, q2] [1, v1, v2, v3] 4 = [1, v1 + q1, v2 + q1 * v1 + q2, v3 + q1 * v2 + q2 * v1] := by
  show [0 + 1 * 1, 0 + 1 * v1 + q1 * 1, 0 + 1 * v2 + q1 * v1 + q2 * 1, 0 + 1 * v3 + q1 * v2 + q2 * v1] = _
  simp only [Int.zero_add, Int.one_mul, Int.mul_one]
theorem next3 (v1 v2 v3 v4 q1 q2 q3 : Int) : rowNext [1, q1, q2, q3] [1, v1, v2, v3, v4] 5 = [1, v1 + q1, v2 + q1 * v1 + q2, v3 + q1 * v2 + q2 * v1 + q3, v4 + q1 * v3 + q2 * v2 + q3 * v1] := by
  show [0 + 1 * 1, 0 + 1 * v1 + q1 * 1, 0 + 1 * v2 + q1 * v1 + q2 * 1, 0 + 1 * v3 + q1 * v2 + q2 * v1 + q3 * 1, 0 + 1 * v4 + q1 * v3 + q2 * v2 + q3 * v1] = _
  simp only [Int.zero_add, Int.one_mul, Int.mul_one]
/-- the rows of a square that is its own mirror -/
theorem rows_sym (b00 b01 b02 b03 b11 b12 b13 b22 b23 b33 : Int) (K : Int → Int → Int → Int → Int → Int → Int → Prop)
    (h : berk opI apI K b00 b01 b02 b03 b11 b12 b13 b22 b23 b33) :
    ∃ r1 q1 q2 t1 t2 t3 u1 u2 u3 u4, rowV (S4 b00 b01 b02 b03 b11 b12 b13 b22 b23 b33) 1 = [1, r1] ∧ rowV (S4 b00 b01 b02 b03 b11 b12 b13 b22 b23 b33) 2 = [1, q1, q2] ∧
      rowV (S4 b00 b01 b02 b03 b11 b12 b13 b22 b23 b33) 3 = [1, t1, t2, t3] ∧ rowV (S4 b00 b01 b02 b03 b11 b12 b13 b22 b23 b33) 4 = [1, u1, u2, u3, u4] ∧ K r1 q2 t3 u1 u2 u3 u4 := by
  have e1 : rowV (S4 b00 b01 b02 b03 b11 b12 b13 b22 b23 b33) 1 = [1, -b00] := by
    show [0 + 1 * 1, 0 + 1 * -b00] = _
    simp only [Int.zero_add, Int.one_mul, Int.mul_one]
  have s1 : serV (S4 b00 b01 b02 b03 b11 b12 b13 b22 b23 b33) 1 1 = [1, -b11, -(b01 * b01)] := by
    show [1, -b11, -(0 + b01 * b01)] = _
    simp only [Int.zero_add]
  have s2 : serV (S4 b00 b01 b02 b03 b11 b12 b13 b22 b23 b33) 2 2 = [1, -b22, -(b02 * b02 + b12 * b12), -(b02 * (b00 * b02 + b01 * b12) + b12 * (b01 * b02 + b11 * b12))] := by
    show [1, -b22, -(0 + b02 * b02 + b12 * b12), -(0 + b02 * (0 + b00 * b02 + b01 * b12) + b12 * (0 + b01 * b02 + b11 * b12))] = _
    simp only [Int.zero_add]
  have s3 : ∀ x0 x1 x2, b00 * b03 + b01 * b13 + b02 * b23 = x0 → b01 * b03 + b11 * b13 + b12 * b23 = x1 → b02 * b03 + b12 * b13 + b22 * b23 = x2 →
      serV (S4 b00 b01 b02 b03 b11 b12 b13 b22 b23 b33) 3 3 = [1, -b33, -(b03 * b03 + b13 * b13 + b23 * b23), -(b03 * x0 + b13 * x1 + b23 * x2),
        -(b03 * (b00 * x0 + b01 * x1 + b02 * x2) + b13 * (b01 * x0 + b11 * x1 + b12 * x2) + b23 * (b02 * x0 + b12 * x1 + b22 * x2))] := by
    rintro _ _ _ rfl rfl rfl
    show [1, -b33, -(0 + b03 * b03 + b13 * b13 + b23 * b23), -(0 + b03 * (0 + b00 * b03 + b01 * b13 + b02 * b23) + b13 * (0 + b01 * b03 + b11 * b13 + b12 * b23) + b23 * (0 + b02 * b03 + b12 * b13 + b22 * b23)),
        -(0 + b03 * (0 + b00 * (0 + b00 * b03 + b01 * b13 + b02 * b23) + b01 * (0 + b01 * b03 + b11 * b13 + b12 * b23) + b02 * (0 + b02 * b03 + b12 * b13 + b22 * b23)) + b13 * (0 + b01 * (0 + b00 * b03 + b01 * b13 + b02 * b23) + b11 * (0 + b01 * b03 + b11 * b13 + b12 * b23) + b12 * (0 + b02 * b03 + b12 * b13 + b22 * b23)) + b23 * (0 + b02 * (0 + b00 * b03 + b01 * b13 + b02 * b23) + b12 * (0 + b01 * b03 + b11 * b13 + b12 * b23) + b22 * (0 + b02 * b03 + b12 * b13 + b22 * b23)))] = _
    simp only [Int.zero_add]
  obtain ⟨q1, hq1⟩ : ∃ q1, q1 = -b11 + -b00 := ⟨_, rfl⟩
  obtain ⟨q2, hq2⟩ : ∃ q2, q2 = -(b01 * b01) + -b00 * -b11 := ⟨_, rfl⟩
  have e2 : rowV (S4 b00 b01 b02 b03 b11 b12 b13 b22 b23 b33) 2 = [1, q1, q2] := by
    rw [hq1, hq2]
    exact (show _ = rowNext (rowV (S4 b00 b01 b02 b03 b11 b12 b13 b22 b23 b33) 1) (serV (S4 b00 b01 b02 b03 b11 b12 b13 b22 b23 b33) 1 1) 3 from rfl).trans (by rw [e1, s1]; exact next1 ..)
  obtain ⟨v1, hv1⟩ : ∃ q1, q1 = -b22 := ⟨_, rfl⟩
  obtain ⟨v2, hv2⟩ : ∃ q1, q1 = -(b02 * b02 + b12 * b12) := ⟨_, rfl⟩
  obtain ⟨v3, hv3⟩ : ∃ q1, q1 = -(b02 * (b00 * b02 + b01 * b12) + b12 * (b01 * b02 + b11 * b12)) := ⟨_, rfl⟩
  rw [← hv1, ← hv2, ← hv3] at s2
  obtain ⟨t1, ht1⟩ : ∃ q, q = v1 + q1 := ⟨_, rfl⟩
  obtain ⟨t2, ht2⟩ : ∃ q, q = v2 + q1 * v1 + q2 := ⟨_, rfl⟩
  obtain ⟨t3, ht3⟩ : ∃ q, q = v3 + q1 * v2 + q2 * v1 := ⟨_, rfl⟩
  have e3 : rowV (S4 b00 b01 b02 b03 b11 b12 b13 b22 b23 b33) 3 = [1, t1, t2, t3] := by
    rw [ht1, ht2, ht3]
    exact (show _ = rowNext (rowV (S4 b00 b01 b02 b03 b11 b12 b13 b22 b23 b33) 2) (serV (S4 b00 b01 b02 b03 b11 b12 b13 b22 b23 b33) 2 2) 4 from rfl).trans (by rw [e2, s2]; exact next2 ..)
  have s3 := s3 _ _ _ rfl rfl rfl
  generalize hx0 : b00 * b03 + b01 * b13 + b02 * b23 = x0 at s3
  generalize hx1 : b01 * b03 + b11 * b13 + b12 * b23 = x1 at s3
  generalize hx2 : b02 * b03 + b12 * b13 + b22 * b23 = x2 at s3
  generalize hw1 : -b33 = w1 at s3
  generalize hw2 : -(b03 * b03 + b13 * b13 + b23 * b23) = w2 at s3
  generalize hw3 : -(b03 * x0 + b13 * x1 + b23 * x2) = w3 at s3
  generalize hw4 : -(b03 * (b00 * x0 + b01 * x1 + b02 * x2) + b13 * (b01 * x0 + b11 * x1 + b12 * x2) + b23 * (b02 * x0 + b12 * x1 + b22 * x2)) = w4 at s3
  have e4 : rowV (S4 b00 b01 b02 b03 b11 b12 b13 b22 b23 b33) 4 = [1, w1 + t1, w2 + t1 * w1 + t2, w3 + t1 * w2 + t2 * w1 + t3, w4 + t1 * w3 + t2 * w2 + t3 * w1] :=
    (show _ = rowNext (rowV (S4 b00 b01 b02 b03 b11 b12 b13 b22 b23 b33) 3) (serV (S4 b00 b01 b02 b03 b11 b12 b13 b22 b23 b33) 3 3) 5 from rfl).trans (by rw [e3, s3]; exact next3 ..)
  subst hq1 hq2 hv1 hv2 hv3 ht1 ht2 ht3 hx0 hx1 hx2 hw1 hw2 hw3 hw4
  exact ⟨_, _, _, _, _, _, _, _, _, _, e1, e2, e3, e4, h.out.out.out.out.out.out.out.out.out.out.out.out.out.out.out.out.out.out.out.out.out.out⟩
end Mine

end

section
set_option Elab.async false
set_option linter.all false
set_option maxRecDepth 100000
set_option autoImplicit false
namespace Mine

/-! numbers modulo, for the kernel's own reckoning -/
noncomputable def zM : Nat := nat_lit 84162174424773976115855838126082058648805436845170781751972494449099714468753293153818664580441415219631727501698851483408310916002940861810045036330430093599283578738055113571066620126149163476340692027772502016
noncomputable def zN : Nat := nat_lit 84162174424773976115855838126082058648805436845170781751972494449099714468753293153818664580441415219631727501698851483408310916002940861810045036330430093599283578738055113571066620126149163476340692027772502015
noncomputable def zH : Nat := nat_lit 42081087212386988057927919063041029324402718422585390875986247224549857234376646576909332290220707609815863750849425741704155458001470430905022518165215046799641789369027556785533310063074581738170346013886251008
noncomputable def zG : Nat := nat_lit 42081087212386988057927919063041029324402718422585390875986247224549857234376646576909332290220707609815863750849425741704155458001470430905022518165215046799641789369027556785533310063074581738170346013886251009
theorem zM_eq : zM = 2 ^ 704 := by decide +kernel
theorem zN_eq : zN + 1 = zM := by decide +kernel
theorem zH_eq : 2 * zH = zM := by decide +kernel
theorem zG_eq : zG = zH + 1 := by decide +kernel
noncomputable def opN : Op Nat := ⟨fun a b => Nat.add a b, fun a b => Nat.mod (Nat.mul a b) zM, fun a => Nat.mod (Nat.mul a zN) zM⟩
/-- n is reckoned first -/
noncomputable def fN (n : Nat) (f : Nat → Bool) : Bool := Nat.rec (motive := fun _ => Bool) (f 0) (fun k _ => f (Nat.succ k)) n
theorem fN_eq (n : Nat) (f : Nat → Bool) : fN n f = f n := by cases n <;> rfl
noncomputable def R (x : Nat) (y : Int) : Prop := (x : Int) % zM = y % zM
theorem R.z : R 0 0 := by
  unfold R; rw [Int.natCast_zero]
theorem R.ad0 {x y : Nat} {a b : Int} (h : R x a) (k : R y b) : R (Nat.add x y) (a + b) := by
  show ((x + y : Nat) : Int) % _ = (a + b) % _
  rw [Int.natCast_add, Int.add_emod, h, k, ← Int.add_emod]
theorem opN_ad (x y : Nat) : opN.ad x y = Nat.add x y := rfl
theorem opI_ad (x y : Int) : opI.ad x y = x + y := rfl
theorem R.ad {x y : Nat} {a b : Int} (h : R x a) (k : R y b) : R (opN.ad x y) (opI.ad a b) := by
  rw [opN_ad, opI_ad]; exact h.ad0 k
theorem R.mu {x y : Nat} {a b : Int} (h : R x a) (k : R y b) : R (opN.mu x y) (opI.mu a b) := by
  show ((x * y % zM : Nat) : Int) % _ = (a * b) % _
  rw [Int.natCast_emod, Int.emod_emod, Int.natCast_mul, Int.mul_emod, h, k, ← Int.mul_emod]
theorem R.ng {x : Nat} {a : Int} (h : R x a) : R (opN.ng x) (opI.ng a) := by
  show ((x * zN % zM : Nat) : Int) % _ = (-a) % _
  have e : ((zN : Nat) : Int) = (zM : Int) - 1 := by have := zN_eq; exact zq356 this
  rw [Int.natCast_emod, Int.emod_emod, Int.natCast_mul, Int.mul_emod, h, ← Int.mul_emod, e, Int.mul_sub, Int.mul_one, Int.sub_eq_add_neg, Int.add_comm, Int.add_mul_emod_self_right]
theorem fR {x : Nat} {y : Int} {F : Nat → Bool} {G : Int → Prop} (e : fN x F = true) (h : R x y) (k : ∀ x y, R x y → F x = true → G y) : apI y G := ⟨k x y h (by rw [fN_eq] at e; exact e)⟩
theorem ten_R {a b c d e p q r s : Nat} {a' b' c' d' e' p' q' r' s' : Int} (ha : R a a') (hb : R b b') (hc : R c c') (hd : R d d') (he : R e e') (hp : R p p') (hq : R q q') (hr : R r r') (hs : R s s') {kN : Nat → Nat → Nat → Nat → Nat → Nat → Nat → Nat → Nat → Nat → Bool} {kI : Int → Int → Int → Int → Int → Int → Int → Int → Int → Int → Prop}
    (E : ten opN fN a b c d e p q r s kN = true) (k : ∀ b00 b01 b02 b03 b11 b12 b13 b22 b23 b33 b00' b01' b02' b03' b11' b12' b13' b22' b23' b33', R b00 b00' → R b01 b01' → R b02 b02' → R b03 b03' → R b11 b11' → R b12 b12' → R b13 b13' → R b22 b22' → R b23 b23' → R b33 b33' → kN b00 b01 b02 b03 b11 b12 b13 b22 b23 b33 = true → kI b00' b01' b02' b03' b11' b12' b13' b22' b23' b33') : ten opI apI a' b' c' d' e' p' q' r' s' kI := by
  rw [ten_eq] at E ⊢
  refine fR E (ha.mu hp) fun b00 b00' hb00 E => ?_
  refine fR E (ha.mu hq) fun b01 b01' hb01 E => ?_
  refine fR E (ha.mu hr) fun b02 b02' hb02 E => ?_
  refine fR E (ha.mu hs) fun b03 b03' hb03 E => ?_
  refine fR E (((hb.mu hq).ad (hc.mu hp).ng).ad hb02) fun b11 b11' hb11 E => ?_
  refine fR E (((hb.mu hr).ad (hd.mu hp).ng).ad hb03) fun b12 b12' hb12 E => ?_
  refine fR E ((hb.mu hs).ad (he.mu hp).ng) fun b13 b13' hb13 E => ?_
  refine fR E (((hc.mu hr).ad (hd.mu hq).ng).ad hb13) fun b22 b22' hb22 E => ?_
  refine fR E ((hc.mu hs).ad (he.mu hq).ng) fun b23 b23' hb23 E => ?_
  refine fR E ((hd.mu hs).ad (he.mu hr).ng) fun b33 b33' hb33 E => ?_
  exact k _ _ _ _ _ _ _ _ _ _ _ _ _ _ _ _ _ _ _ _ hb00 hb01 hb02 hb03 hb11 hb12 hb13 hb22 hb23 hb33 E
theorem berk_R {b00 b01 b02 b03 b11 b12 b13 b22 b23 b33 : Nat} {b00' b01' b02' b03' b11' b12' b13' b22' b23' b33' : Int} (hb00 : R b00 b00') (hb01 : R b01 b01') (hb02 : R b02 b02') (hb03 : R b03 b03') (hb11 : R b11 b11') (hb12 : R b12 b12') (hb13 : R b13 b13') (hb22 : R b22 b22') (hb23 : R b23 b23') (hb33 : R b33 b33') {kN : Nat → Nat → Nat → Nat → Nat → Nat → Nat → Bool} {kI : Int → Int → Int → Int → Int → Int → Int → Prop}
    (E : berk opN fN kN b00 b01 b02 b03 b11 b12 b13 b22 b23 b33 = true) (k : ∀ r1 q2 t3 u1 u2 u3 u4 r1' q2' t3' u1' u2' u3' u4', R r1 r1' → R q2 q2' → R t3 t3' → R u1 u1' → R u2 u2' → R u3 u3' → R u4 u4' → kN r1 q2 t3 u1 u2 u3 u4 = true → kI r1' q2' t3' u1' u2' u3' u4') : berk opI apI kI b00' b01' b02' b03' b11' b12' b13' b22' b23' b33' := by
  rw [berk_eq] at E ⊢
  refine fR E (hb00.ng) fun r1 r1' hr1 E => ?_
  refine fR E (hb11.ng) fun s1 s1' hs1 E => ?_
  refine fR E ((hs1).ad (hr1)) fun q1 q1' hq1 E => ?_
  refine fR E (((hb01.mu hb01).ng).ad (hr1.mu hs1)) fun q2 q2' hq2 E => ?_
  refine fR E ((hb00.mu hb02).ad (hb01.mu hb12)) fun c0 c0' hc0 E => ?_
  refine fR E ((hb01.mu hb02).ad (hb11.mu hb12)) fun c1 c1' hc1 E => ?_
  refine fR E (hb22.ng) fun v1 v1' hv1 E => ?_
  refine fR E (((hb02.mu hb02).ad (hb12.mu hb12)).ng) fun v2 v2' hv2 E => ?_
  refine fR E (((hb02.mu hc0).ad (hb12.mu hc1)).ng) fun v3 v3' hv3 E => ?_
  refine fR E ((hv1).ad (hq1)) fun t1 t1' ht1 E => ?_
  refine fR E (((hv2).ad (hq1.mu hv1)).ad (hq2)) fun t2 t2' ht2 E => ?_
  refine fR E (((hv3).ad (hq1.mu hv2)).ad (hq2.mu hv1)) fun t3 t3' ht3 E => ?_
  refine fR E (((hb00.mu hb03).ad (hb01.mu hb13)).ad (hb02.mu hb23)) fun x0 x0' hx0 E => ?_
  refine fR E (((hb01.mu hb03).ad (hb11.mu hb13)).ad (hb12.mu hb23)) fun x1 x1' hx1 E => ?_
  refine fR E (((hb02.mu hb03).ad (hb12.mu hb13)).ad (hb22.mu hb23)) fun x2 x2' hx2 E => ?_
  refine fR E (((hb00.mu hx0).ad (hb01.mu hx1)).ad (hb02.mu hx2)) fun y0 y0' hy0 E => ?_
  refine fR E (((hb01.mu hx0).ad (hb11.mu hx1)).ad (hb12.mu hx2)) fun y1 y1' hy1 E => ?_
  refine fR E (((hb02.mu hx0).ad (hb12.mu hx1)).ad (hb22.mu hx2)) fun y2 y2' hy2 E => ?_
  refine fR E (hb33.ng) fun w1 w1' hw1 E => ?_
  refine fR E ((((hb03.mu hb03).ad (hb13.mu hb13)).ad (hb23.mu hb23)).ng) fun w2 w2' hw2 E => ?_
  refine fR E ((((hb03.mu hx0).ad (hb13.mu hx1)).ad (hb23.mu hx2)).ng) fun w3 w3' hw3 E => ?_
  refine fR E ((((hb03.mu hy0).ad (hb13.mu hy1)).ad (hb23.mu hy2)).ng) fun w4 w4' hw4 E => ?_
  exact k _ _ _ _ _ _ _ _ _ _ _ _ _ _ hr1 hq2 ht3 ((hw1).ad (ht1)) (((hw2).ad (ht1.mu hw1)).ad (ht2)) ((((hw3).ad (ht1.mu hw2)).ad (ht2.mu hw1)).ad (ht3)) ((((hw4).ad (ht1.mu hw3)).ad (ht2.mu hw2)).ad (ht3.mu hw1)) E

/-! what a leaf asks -/
noncomputable def zT : Nat := nat_lit 10591422443926645606483956930388648717939500240821494465178231950523707988173769940201732262604411909739364922471991161064
noncomputable def tab (c1 c2 c3 c4 : Nat) : Nat := Nat.mod (Nat.div zT (Nat.pow (nat_lit 32) (Nat.add (Nat.mul (nat_lit 27) c1) (Nat.add (Nat.mul (nat_lit 9) c2) (Nat.add (Nat.mul (nat_lit 3) c3) c4))))) (nat_lit 32)
noncomputable def sgN (x : Nat) (k : Nat → Bool) : Bool := fN (Nat.mod (Nat.add x zH) zM) fun z => fN (Nat.add (Nat.div z zH) (Nat.div z zG)) k
noncomputable def eqN (x y : Nat) (k : Bool) : Bool := Bool.rec (motive := fun _ => Bool) false k (Nat.beq (Nat.mod x zM) (Nat.mod y zM))
noncomputable def testN (v1 v2 v3 v4 E : Nat) (r1 q2 t3 u1 u2 u3 u4 : Nat) : Bool :=
  eqN (Nat.add r1 v1) 0 (eqN q2 v2 (eqN (Nat.add t3 v3) 0 (eqN u4 v4 (sgN u1 fun c1 => sgN u2 fun c2 => sgN u3 fun c3 => sgN u4 fun c4 => Nat.beq (tab c1 c2 c3 c4) E))))
noncomputable def leafN (v1 v2 v3 v4 E a b c d e p q r s : Nat) : Bool := ten opN fN a b c d e p q r s (berk opN fN (testN v1 v2 v3 v4 E))
noncomputable def sg (y : Int) : Nat := if y < 0 then 0 else if y = 0 then 1 else 2
noncomputable def Bd (y : Int) : Prop := y.natAbs < 2 ^ 702
noncomputable def testI (v1 v2 v3 v4 : Int) (E : Nat) (r1 q2 t3 u1 u2 u3 u4 : Int) : Prop :=
  (Bd v1 ∧ Bd v2 ∧ Bd v3 ∧ Bd v4 ∧ Bd r1 ∧ Bd q2 ∧ Bd t3 ∧ Bd u1 ∧ Bd u2 ∧ Bd u3 ∧ Bd u4) → -r1 = v1 ∧ q2 = v2 ∧ -t3 = v3 ∧ u4 = v4 ∧ tab (sg u1) (sg u2) (sg u3) (sg u4) = E
noncomputable def leafI (v1 v2 v3 v4 : Int) (E : Nat) (a b c d e p q r s : Int) : Prop := ten opI apI a b c d e p q r s (berk opI apI (testI v1 v2 v3 v4 E))
theorem zH_eq2 : zH = 2 ^ 703 := by decide +kernel
theorem eq_R {x y : Nat} {a b : Int} {k : Bool} (h : R x a) (g : R y b) (e : eqN x y k = true) (ha : (a - b).natAbs < zM) : a = b ∧ k = true := by
  unfold eqN at e
  have e1 : Nat.beq (Nat.mod x zM) (Nat.mod y zM) = true := by
    cases q : Nat.beq (Nat.mod x zM) (Nat.mod y zM) with
    | true => rfl
    | false => rw [q] at e; exact nomatch e
  rw [e1] at e
  have e2 : x % zM = y % zM := Nat.eq_of_beq_eq_true e1
  have e3 : a % zM = b % zM := by rw [← h, ← g, ← Int.natCast_emod, ← Int.natCast_emod, e2]
  have e4 : (zM : Int) ∣ (a - b) := Int.dvd_of_emod_eq_zero (Int.emod_eq_emod_iff_emod_sub_eq_zero.mp e3)
  have e5 := Nat.eq_zero_of_dvd_of_lt (Int.natAbs_dvd_natAbs.mpr e4) (by simpa using ha)
  exact ⟨by exact zq355 e5, e⟩
theorem sg_R {x : Nat} {y : Int} {k : Nat → Bool} (h : R x y) (e : sgN x k = true) (hy : y.natAbs < zH) : k (sg y) = true := by
  unfold sgN at e
  rw [fN_eq, fN_eq] at e
  have hz := zH_eq
  have e1 : ((Nat.mod (Nat.add x zH) zM : Nat) : Int) = y + zH := by
    show (((x + zH) % zM : Nat) : Int) = _
    rw [Int.natCast_emod, Int.natCast_add, Int.add_emod, h, ← Int.add_emod]
    exact Int.emod_eq_of_lt (by exact zq354 hy) (by exact zq353 hy hz)
  have e2 := zG_eq
  generalize Nat.mod (Nat.add x zH) zM = z at e e1
  have e3 : Nat.add (Nat.div z zH) (Nat.div z zG) = sg y := by
    show z / zH + z / zG = _
    unfold sg
    by_cases h1 : y < 0
    · rw [if_pos h1, Nat.div_eq_of_lt (by exact zq352 e1 h1), Nat.div_eq_of_lt (by exact zq351 e2 e1 h1)]
    · rw [if_neg h1]
      have a1 : z / zH = 1 := Nat.div_eq_of_lt_le (by exact zq350 e1 h1) (by exact zq349 hy e1)
      by_cases h2 : y = 0
      · rw [if_pos h2, a1, Nat.div_eq_of_lt (by exact zq348 e2 e1 h2)]
      · rw [if_neg h2, a1, Nat.div_eq_of_lt_le (k := 1) (by exact zq347 e2 e1 h1 h2) (by exact zq346 hy e2 e1)]
  rw [e3] at e; exact e
theorem Bd.lt {y : Int} (h : Bd y) : y.natAbs + y.natAbs < zH := by
  rw [zH_eq2]
  have e : 2 ^ 703 = 2 * 2 ^ 702 := by rw [← Nat.pow_succ']
  unfold Bd at h; rw [e]; generalize 2 ^ 702 = z at *; exact zq345 h
theorem Bd.sub {a b : Int} (h : Bd a) (k : Bd b) : (a - b).natAbs < zM ∧ (a + b - 0).natAbs < zM := by
  have := h.lt
  have := k.lt
  have := zH_eq
  omega
theorem Bd.lt1 {a : Int} (h : Bd a) : a.natAbs < zH := by
  have := h.lt
  exact zq344 this
theorem test_R {v1 v2 v3 v4 E r1 q2 t3 u1 u2 u3 u4 : Nat} {v1' v2' v3' v4' r1' q2' t3' u1' u2' u3' u4' : Int} (hv1 : R v1 v1') (hv2 : R v2 v2') (hv3 : R v3 v3') (hv4 : R v4 v4')
    (hr1 : R r1 r1') (hq2 : R q2 q2') (ht3 : R t3 t3') (hu1 : R u1 u1') (hu2 : R u2 u2') (hu3 : R u3 u3') (hu4 : R u4 u4') (e : testN v1 v2 v3 v4 E r1 q2 t3 u1 u2 u3 u4 = true) : testI v1' v2' v3' v4' E r1' q2' t3' u1' u2' u3' u4' := by
  intro hb
  obtain ⟨b1, b2, b3, b4, b5, b6, b7, b8, b9, b10, b11⟩ := hb
  unfold testN at e
  have z0 : R 0 0 := R.z
  have rv1 : R (Nat.add r1 v1) (r1' + v1') := hr1.ad0 hv1
  have rv3 : R (Nat.add t3 v3) (t3' + v3') := ht3.ad0 hv3
  obtain ⟨a1, e⟩ := eq_R rv1 z0 e (b5.sub b1).2
  obtain ⟨a2, e⟩ := eq_R hq2 hv2 e (b6.sub b2).1
  obtain ⟨a3, e⟩ := eq_R rv3 z0 e (b7.sub b3).2
  obtain ⟨a4, e⟩ := eq_R hu4 hv4 e (b11.sub b4).1
  have e := sg_R hu1 e b8.lt1
  have e := sg_R hu2 e b9.lt1
  have e := sg_R hu3 e b10.lt1
  have e := sg_R hu4 e b11.lt1
  clear b1 b2 b3 b4 b5 b6 b7 b8 b9 b10 b11
  exact ⟨by exact zq343 a1, a2, by exact zq343 a3, a4, Nat.eq_of_beq_eq_true e⟩
theorem leaf_R {v1 v2 v3 v4 E a b c d e p q r s : Nat} {v1' v2' v3' v4' a' b' c' d' e' p' q' r' s' : Int} (hv1 : R v1 v1') (hv2 : R v2 v2') (hv3 : R v3 v3') (hv4 : R v4 v4') (ha : R a a') (hb : R b b') (hc : R c c') (hd : R d d') (he : R e e') (hp : R p p') (hq : R q q') (hr : R r r') (hs : R s s')
    (e : leafN v1 v2 v3 v4 E a b c d e p q r s = true) : leafI v1' v2' v3' v4' E a' b' c' d' e' p' q' r' s' :=
  ten_R ha hb hc hd he hp hq hr hs e fun _ _ _ _ _ _ _ _ _ _ _ _ _ _ _ _ _ _ _ _ h0 h1 h2 h3 h4 h5 h6 h7 h8 h9 e =>
    berk_R h0 h1 h2 h3 h4 h5 h6 h7 h8 h9 e fun _ _ _ _ _ _ _ _ _ _ _ _ _ _ k1 k2 k3 k4 k5 k6 k7 e => test_R hv1 hv2 hv3 hv4 k1 k2 k3 k4 k5 k6 k7 e
end Mine

end

section
set_option Elab.async false
set_option linter.all false
set_option maxRecDepth 100000
set_option autoImplicit false
namespace Mine

/-! the chain, from any point on -/
noncomputable def run (c : Ch) (es : List Int) : Ch := es.foldl chStep c
structure Bnd (c : Ch) : Prop where
  n : ∀ x ∈ nine c, Sm 28 x
  fa : ∀ p ∈ c.falls, 1 ≤ p.1 ∧ p.1 ≤ 3 ∧ Le (2 ^ 60) p.2
  su : (c.falls.map (·.1)).sum ≤ 4
structure Good (c : Ch) : Prop where
  due : lasts (sqB (nine c)) = (dueK c.falls c.falls.length).due
  sum : (changes (rowV (sqB (nine c)) 4) : Int) + changes (altRow (rowV (sqB (nine c)) 4)) = (dueK c.falls c.falls.length).reach
  dif : (changes (rowV (sqB (nine c)) 4) : Int) - changes (altRow (rowV (sqB (nine c)) 4)) = (dueK c.falls c.falls.length).balance
noncomputable def Fin (c : Ch) : Prop := ∀ es, (run c es).f.length = 5 → Bnd (run c es) → Good (run c es)
theorem run_full {c : Ch} (h : ¬ c.f.length < 5) : ∀ es, run c es = c
  | [] => rfl
  | e :: es => by
    have : chStep c e = c := by unfold chStep; rw [if_neg h]
    show run (chStep c e) es = c
    rw [this]; exact run_full h es
theorem fin_leaf {c : Ch} (h5 : c.f.length = 5) (h : Bnd c → Good c) : Fin c := fun es _ hb => by
  rw [run_full (by exact zq390 h5) es] at hb ⊢; exact h hb
structure IsQ (x : Nat) (q : List Int) : Prop where
  ex : ∃ l cs, q = l :: cs ∧ l ∈ [(1 : Int), -1, 2, -2] ∧ cs.length = x ∧ ∀ y ∈ cs, y ∈ [(-1 : Int), 0, 1]
theorem coefK_in (m : Int) : ∀ k, ∀ x ∈ coefK m k, x ∈ [(-1 : Int), 0, 1]
  | 0 => fun x hx => nomatch hx
  | k + 1 => fun x hx => by
    rcases List.mem_append.mp hx with h | h
    · exact coefK_in m k x h
    · rw [List.mem_singleton] at h; subst h
      have h1 := Int.emod_nonneg (divK m k) (show (3 : Int) ≠ 0 by decide)
      have h2 := Int.emod_lt_of_pos (divK m k) (show (0 : Int) < 3 by decide)
      simp only [List.mem_cons, List.not_mem_nil, or_false]
      exact zq389
theorem drawn_isq (y : Int) (d : Nat) : IsQ d (drawn y d) := by
  refine ⟨_, _, rfl, ?_, coefK_length _ _, coefK_in _ _⟩
  have h1 := Int.emod_nonneg y (show (4 : Int) ≠ 0 by decide)
  have h2 := Int.emod_lt_of_pos y (show (0 : Int) < 4 by decide)
  generalize hm : (y % 4).toNat = m
  have hm4 : m < 4 := by exact zq277 hm
  rcases m with _ | _ | _ | _ | m
  · decide
  · decide
  · decide
  · decide
  · omega
theorem fin_step {c : Ch} {n : Nat} (hn : c.f.length = n) (h : n < 5) (k : ∀ x : Nat, 1 ≤ x → x ≤ 3 → x + n ≤ 5 → ∀ q, IsQ x q → Fin ⟨ahead q c.f c.g, c.f, ((x : Int), (ahead q c.f c.g).getD 0 0 * c.f.getD 0 0) :: c.falls⟩) : Fin c := by
  intro es h5 hb
  cases es with
  | nil => exact absurd (show c.f.length = 5 from h5) (by exact zq388 hn h)
  | cons e es =>
    have h1 := Int.emod_nonneg e (show (3 : Int) ≠ 0 by decide)
    have h2 := Int.emod_lt_of_pos e (show (0 : Int) < 3 by decide)
    have e1 : chStep c e = ⟨chNew c e, c.f, (min (1 + e % 3) (5 - c.f.length), (chNew c e).getD 0 0 * c.f.getD 0 0) :: c.falls⟩ := by unfold chStep; rw [if_pos (by exact zq387 hn h)]
    have e2 : ((min (1 + e % 3) (5 - (c.f.length : Int))).toNat : Int) = min (1 + e % 3) (5 - c.f.length) := by exact zq386 hn h
    have := k (min (1 + e % 3) (5 - (c.f.length : Int))).toNat (by exact zq385 hn h) (by exact zq384) (by exact zq383 hn e2) _ (drawn_isq (e / 3) _)
    rw [e2] at this
    have h5 : (run (chStep c e) es).f.length = 5 := h5
    have hb : Bnd (run (chStep c e) es) := hb
    show Good (run (chStep c e) es)
    rw [e1] at h5 hb ⊢
    exact this es h5 hb

/-! what is due, from the last fall on -/
noncomputable def dv : List (Int × Int) → Nat → Int
  | [], j => if j = 0 then 1 else 0
  | (x, y) :: fs, j => if j < x.toNat then (if j = 0 then 1 else 0) else y ^ x.toNat * [1, 1, -1, -1].getD x.toNat 0 * dv fs (j - x.toNat)
noncomputable def upS (p : Int × Int) : Nat := if p.1 = 1 then (if 0 < p.2 then 1 else 0) else if p.1 = 2 then 1 else (if 0 < p.2 then 2 else 1)
noncomputable def dnS (p : Int × Int) : Nat := if p.1 = 1 then (if 0 < p.2 then 0 else 1) else if p.1 = 2 then 1 else (if 0 < p.2 then 1 else 2)
noncomputable def ups : List (Int × Int) → Nat
  | [] => 0
  | p :: fs => upS p + ups fs
noncomputable def dns : List (Int × Int) → Nat
  | [] => 0
  | p :: fs => dnS p + dns fs
theorem dueK_fold (falls : List (Int × Int)) : ∀ k, k ≤ falls.length → dueK falls k = (falls.take k).foldl dueStep ⟨[0, 0, 0, 0], 0, 1, 0⟩
  | 0, _ => rfl
  | k + 1, h => by
    rw [dueK, dueK_fold falls k (by exact zq110 h), List.take_succ_eq_append_getElem (by exact zq189 h), List.foldl_append]
    have : falls.getD k (0, 0) = falls[k] := by rw [List.getD_eq_getElem?_getD, List.getElem?_eq_getElem (by exact zq189 h)]; rfl
    rw [this]; rfl
theorem fold_due : ∀ (fs : List (Int × Int)) (X : Due) (r : Nat), (∀ p ∈ fs, 1 ≤ p.1 ∧ p.1 ≤ 3) → X.due.length = 4 → X.reach = r → (∀ i, r ≤ i → X.due.getD i 0 = 0) →
    (fs.foldl dueStep X).due.length = 4 ∧ ∀ i, i < 4 → (fs.foldl dueStep X).due.getD i 0 = if i < r then X.due.getD i 0 else X.corner * dv fs (i + 1 - r)
  | [], X, r, _, hl, _, hz => ⟨hl, fun i hi => by
    show X.due.getD i 0 = _
    split
    · rfl
    · rw [hz i (by omega), dv, if_neg (by omega), Int.mul_zero]⟩
  | (x, y) :: fs, X, r, hp, hl, hr, hz => by
    have hx := hp (x, y) (.head _)
    obtain ⟨n, rfl⟩ : ∃ n : Nat, x = n := ⟨x.toNat, by have := hx.1; simp only at this; omega⟩
    have hn : 1 ≤ n ∧ n ≤ 3 := by have := hx.1; have := hx.2; simp only at *; exact zq382 hx
    have e1 : ((X.reach + (n : Int) - 1).toNat) = r + n - 1 := by rw [hr]; exact zq68
    have e2 : (dueStep X (n, y)).due = X.due.set (r + n - 1) (X.corner * y ^ n * [1, 1, -1, -1].getD n 0) := by
      show X.due.set (X.reach + (n : Int) - 1).toNat _ = _
      rw [e1]; rfl
    have e3 : (dueStep X (n, y)).corner = X.corner * y ^ n * [1, 1, -1, -1].getD n 0 := rfl
    have gs : ∀ i, i < 4 → (dueStep X (n, y)).due.getD i 0 = if i = r + n - 1 then X.corner * y ^ n * [1, 1, -1, -1].getD n 0 else X.due.getD i 0 := fun i hi => by
      rw [e2, List.getD_eq_getElem?_getD, List.getElem?_set]
      split
      · rename_i h; subst h; rw [if_pos rfl, if_pos (by exact zq381 hl hi)]; rfl
      · rw [if_neg (by omega), List.getD_eq_getElem?_getD]
    have ih := fold_due fs (dueStep X (n, y)) (r + n) (fun p hp' => hp p (.tail _ hp')) (by rw [e2, List.length_set]; exact hl) (by show X.reach + (n : Int) = _; rw [hr]; exact zq380)
      (fun i hi => by
        by_cases h4 : i < 4
        · rw [gs i h4, if_neg (by omega)]; exact hz i (by exact zq379 hi)
        · rw [List.getD_eq_getElem?_getD, List.getElem?_eq_none (by rw [e2, List.length_set]; exact zq378 hl h4)]; rfl)
    refine ⟨ih.1, fun i hi => ?_⟩
    show (fs.foldl dueStep (dueStep X (n, y))).due.getD i 0 = _
    rw [ih.2 i hi, dv, e3, gs i hi]
    have et : (n : Int).toNat = n := rfl
    rw [et]
    by_cases h1 : i < r
    · rw [if_pos (by exact zq377 h1), if_pos h1, if_neg (by omega)]
    · rw [if_neg h1]
      by_cases h2 : i + 1 - r < n
      · rw [if_pos (by exact zq376 h2), if_pos h2, if_neg (by exact zq375 h2), if_neg (by exact zq374 h1), hz i (by exact zq154 h1), Int.mul_zero]
      · rw [if_neg h2]
        by_cases h3 : i = r + n - 1
        · have hd : dv fs 0 = 1 := by
            cases fs with
            | nil => rfl
            | cons p fs =>
              obtain ⟨a, b⟩ := p
              have := hp (a, b) (.tail _ (.head _))
              rw [dv, if_pos (by simp only at this; exact zq373 this), if_pos rfl]
          rw [if_pos (by omega), if_pos h3, show i + 1 - r - n = 0 by omega, hd, Int.mul_one, Int.mul_assoc]
        · rw [if_neg (by exact zq372 h1 h2 h3), show i + 1 - (r + n) = i + 1 - r - n by exact zq371]
          simp only [Int.mul_assoc]
theorem fold_ud : ∀ (fs : List (Int × Int)) (X : Due), (∀ p ∈ fs, 1 ≤ p.1 ∧ p.1 ≤ 3) → (fs.foldl dueStep X).reach = X.reach + ups fs + dns fs ∧ (fs.foldl dueStep X).balance = X.balance + ups fs - dns fs
  | [], X, _ => by
    show X.reach = X.reach + ((0 : Nat) : Int) + ((0 : Nat) : Int) ∧ X.balance = X.balance + ((0 : Nat) : Int) - ((0 : Nat) : Int)
    exact zq370
  | (x, y) :: fs, X, hp => by
    have hx := hp (x, y) (.head _)
    have ih := fold_ud fs (dueStep X (x, y)) (fun p hp' => hp p (.tail _ hp'))
    have r1 : (dueStep X (x, y)).reach = X.reach + x := rfl
    have b1 : (dueStep X (x, y)).balance = if x % 2 = 1 then X.balance + (if 0 < y then 1 else -1) else X.balance := rfl
    show (fs.foldl dueStep (dueStep X (x, y))).reach = _ ∧ (fs.foldl dueStep (dueStep X (x, y))).balance = _
    rw [ih.1, ih.2, r1, b1, ups, dns]
    have hx1 := hx.1
    have hx2 := hx.2
    simp only at hx1 hx2
    have : x = 1 ∨ x = 2 ∨ x = 3 := by omega
    unfold upS dnS
    rcases this with rfl | rfl | rfl <;> by_cases hy : 0 < y <;> simp [hy] <;> (first | exact zq365 | exact zq366 | exact zq367 | exact zq368 | exact zq369 | omega)
theorem ud_sum : ∀ fs : List (Int × Int), (∀ p ∈ fs, 1 ≤ p.1 ∧ p.1 ≤ 3) → ((ups fs + dns fs : Nat) : Int) = (fs.map (·.1)).sum
  | [], _ => rfl
  | (x, y) :: fs, hp => by
    have hx := hp (x, y) (.head _)
    have ih := ud_sum fs (fun p hp' => hp p (.tail _ hp'))
    have hx1 := hx.1
    have hx2 := hx.2
    simp only at hx1 hx2
    rw [List.map_cons, List.sum_cons, ← ih, ups, dns]
    have : x = 1 ∨ x = 2 ∨ x = 3 := by omega
    unfold upS dnS
    rcases this with rfl | rfl | rfl <;> by_cases hy : 0 < y <;> simp [hy] <;> (first | exact zq360 | exact zq361 | exact zq362 | exact zq363 | exact zq364 | omega)
theorem dv_le {fs : List (Int × Int)} (h : ∀ p ∈ fs, 1 ≤ p.1 ∧ p.1 ≤ 3 ∧ Le (2 ^ 60) p.2) : ∀ j, Le ((2 ^ 60) ^ j) (dv fs j) := by
  induction fs with
  | nil => intro j; rw [dv]; split <;> unfold Le <;> first | exact Nat.zero_le _ | exact Nat.one_le_two_pow | exact Nat.pos_pow_of_pos _ (by decide) | exact Nat.pow_pos (by decide)
  | cons p fs ih =>
    obtain ⟨x, y⟩ := p
    intro j
    have hx := h (x, y) (.head _)
    rw [dv]
    have one : (1 : Nat) ≤ (2 ^ 60) ^ j := Nat.pow_pos (by decide)
    split
    · split
      · exact one
      · exact Nat.zero_le _
    · rename_i hj
      unfold Le
      rw [Int.natAbs_mul, Int.natAbs_mul, Int.natAbs_pow]
      have a1 := Nat.pow_le_pow_left hx.2.2 x.toNat
      have a3 : ([1, 1, -1, -1].getD x.toNat (0 : Int)).natAbs ≤ 1 := by
        have hm : x.toNat < 4 := by have := hx.2.1; simp only at this; omega
        generalize x.toNat = m at hm
        rcases m with _ | _ | _ | _ | m
        · decide
        · decide
        · decide
        · decide
        · exact zq282 hm
      have a2 := ih (fun p hp => h p (.tail _ hp)) (j - x.toNat)
      have := Nat.mul_le_mul (Nat.mul_le_mul a1 a3) a2
      rw [Nat.mul_one, ← Nat.pow_add, show x.toNat + (j - x.toNat) = j by exact zq359 hj] at this
      exact this
theorem due_dv {fs : List (Int × Int)} (h : ∀ p ∈ fs, 1 ≤ p.1 ∧ p.1 ≤ 3) : (dueK fs fs.length).due = [dv fs 1, dv fs 2, dv fs 3, dv fs 4] := by
  rw [dueK_fold fs _ (Nat.le_refl _), List.take_length]
  have := fold_due fs ⟨[0, 0, 0, 0], 0, 1, 0⟩ 0 h rfl rfl (fun i _ => by
    by_cases h4 : i < 4
    · rcases i with _ | _ | _ | _ | i
      · rfl
      · rfl
      · rfl
      · rfl
      · exact zq358 h4
    · rw [List.getD_eq_getElem?_getD, List.getElem?_eq_none (by show 4 ≤ i; exact zq357 h4)]; rfl)
  obtain ⟨hl, hg⟩ := this
  generalize (List.foldl dueStep ⟨[0, 0, 0, 0], 0, 1, 0⟩ fs).due = l at *
  match l, hl, hg with
  | [a, b, c, d], _, hg =>
    have h0 := hg 0 (by decide)
    have h1 := hg 1 (by decide)
    have h2 := hg 2 (by decide)
    have h3 := hg 3 (by decide)
    simp at h0 h1 h2 h3
    rw [h0, h1, h2, h3]
end Mine

end

section
set_option Elab.async false
set_option linter.all false
set_option maxRecDepth 100000
set_option autoImplicit false
namespace Mine

/-! changes of sign hang on the signs alone -/
theorem below_congr {r t : List Int} (h : ∀ k, (r.getD k 0 = 0 ↔ t.getD k 0 = 0) ∧ (r.getD k 0 < 0 ↔ t.getD k 0 < 0)) : ∀ n, belowK r n = belowK t n
  | 0 => rfl
  | n + 1 => by
    rw [belowK, belowK, below_congr h n]
    have := h n
    by_cases h0 : r.getD n 0 = 0
    · rw [if_pos h0, if_pos (this.1.mp h0)]
    · rw [if_neg h0, if_neg fun e => h0 (this.1.mpr e)]
      by_cases h1 : r.getD n 0 < 0
      · rw [decide_eq_true h1, decide_eq_true (this.2.mp h1)]
      · rw [decide_eq_false h1, decide_eq_false fun e => h1 (this.2.mpr e)]
theorem changes_congr {r t : List Int} (hl : r.length = t.length) (h : ∀ k, (r.getD k 0 = 0 ↔ t.getD k 0 = 0) ∧ (r.getD k 0 < 0 ↔ t.getD k 0 < 0)) : changes r = changes t := by
  rw [changes, changes, below_congr h, hl]
noncomputable def sgI (x : Int) : Int := if x < 0 then -1 else if x = 0 then 0 else 1
theorem sgI_iff (x : Int) : (x = 0 ↔ sgI x = 0) ∧ (x < 0 ↔ sgI x < 0) := by
  unfold sgI
  by_cases h : x < 0
  · rw [if_pos h]; omega
  · rw [if_neg h]
    by_cases h0 : x = 0
    · rw [if_pos h0]; omega
    · rw [if_neg h0]; omega
theorem sgI_neg (x : Int) : sgI (-x) = -sgI x := by
  unfold sgI
  by_cases h : x < 0
  · rw [if_pos h, if_neg (by exact zq407 h), if_neg (by exact zq406 h)]; rfl
  · rw [if_neg h]
    by_cases h0 : x = 0
    · rw [if_pos h0, if_neg (by exact zq405 h0), if_pos (by exact zq404 h0)]; rfl
    · rw [if_neg h0, if_pos (by exact zq403 h h0)]
theorem sgI_in (x : Int) : sgI x ∈ [(-1 : Int), 0, 1] := by
  unfold sgI
  split
  · decide
  · split <;> decide
theorem sg_sgI (x : Int) : sg x = sg (sgI x) := by
  unfold sg
  have := sgI_iff x
  by_cases h : x < 0
  · rw [if_pos h, if_pos (this.2.mp h)]
  · rw [if_neg h, if_neg fun e => h (this.2.mpr e)]
    by_cases h0 : x = 0
    · rw [if_pos h0, if_pos (this.1.mp h0)]
    · rw [if_neg h0, if_neg fun e => h0 (this.1.mpr e)]
theorem changes_sg (a b c d : Int) : changes [1, a, b, c, d] = changes [1, sgI a, sgI b, sgI c, sgI d] :=
  changes_congr rfl fun k => by
    rcases k with _ | _ | _ | _ | _ | k
    · exact sgI_iff 1
    · exact sgI_iff a
    · exact sgI_iff b
    · exact sgI_iff c
    · exact sgI_iff d
    · exact sgI_iff 0
theorem tab_all : ∀ a ∈ [(-1 : Int), 0, 1], ∀ b ∈ [(-1 : Int), 0, 1], ∀ c ∈ [(-1 : Int), 0, 1], ∀ d ∈ [(-1 : Int), 0, 1], tab (sg a) (sg b) (sg c) (sg d) = 5 * changes [1, a, b, c, d] + changes [1, -a, b, -c, d] := by
  unfold sg
  decide +kernel
theorem tab_ok (a b c d : Int) : tab (sg a) (sg b) (sg c) (sg d) = 5 * changes [1, a, b, c, d] + changes (altRow [1, a, b, c, d]) := by
  have e : altRow [1, a, b, c, d] = [1, -a, b, -c, d] := rfl
  rw [e, changes_sg a b c d, changes_sg (-a) b (-c) d, sgI_neg, sgI_neg, sg_sgI a, sg_sgI b, sg_sgI c, sg_sgI d]
  exact tab_all _ (sgI_in a) _ (sgI_in b) _ (sgI_in c) _ (sgI_in d)
theorem changes_le (r : List Int) : changes r ≤ r.length - 1 := by
  rw [changes]
  have := flipsK_le (belowK r r.length) ((belowK r r.length).length - 1)
  have := belowK_length r r.length
  omega

/-! sizes, tighter -/
structure SqOj (B : List (List Int)) : Prop where
  len : B.length = 4
  row : ∀ r ∈ B, r.length = 4 ∧ ∀ x ∈ r, Sm 60 x
theorem SqOj.at {B : List (List Int)} (h : SqOj B) {i : Nat} (hi : i < 4) : (B.getD i []).length = 4 ∧ ∀ x ∈ B.getD i [], Sm 60 x := by
  have : B.getD i [] ∈ B := by
    rw [List.getD_eq_getElem?_getD, List.getElem?_eq_getElem (by rw [h.len]; exact hi)]
    exact List.getElem_mem _
  exact h.row _ this
theorem SqOj.el {B : List (List Int)} (h : SqOj B) {i j : Nat} (hi : i < 4) (hj : j < 4) : Sm 60 ((B.getD i []).getD j 0) := getD_all (h.at hi).2 (by rw [(h.at hi).1]; exact hj)
theorem colV_sj {B : List (List Int)} (h : SqOj B) {n : Nat} (hn : n < 4) : ∀ t, ∀ x ∈ colV B n t, Sm (63 * (t + 1)) x
  | 0, x, hx => by
    obtain ⟨i, hi, rfl⟩ := List.mem_map.mp hx
    exact (h.el (by have := List.mem_range.mp hi; exact zq185 hn this) hn).le (by decide)
  | t + 1, x, hx => by
    obtain ⟨i, hi, rfl⟩ := List.mem_map.mp hx
    have hi := List.mem_range.mp hi
    have hb := h.at (i := i) (by exact zq185 hn hi)
    exact (dot_sm3 hb.2 (colV_sj h hn t) (by rw [hb.1]; exact zq183 hn) (by rw [colV_length]; exact zq182) (by exact zq181 hn)).le (by exact zq401)
theorem serV_sj {B : List (List Int)} (h : SqOj B) {n : Nat} (hn : n < 4) : ∀ x ∈ serV B n n, Sm (66 * (n + 1)) x := by
  intro x hx
  rcases List.mem_cons.mp hx with rfl | hx
  · exact (show Sm 1 1 from (by decide : (1 : Int).natAbs < 2 ^ 1)).le (by exact zq400)
  rcases List.mem_cons.mp hx with rfl | hx
  · exact (h.el hn hn).neg.le (by exact zq399)
  obtain ⟨j, hj, rfl⟩ := List.mem_map.mp hx
  have hj := List.mem_range.mp hj
  have hb := h.at hn
  exact (dot_sm3 hb.2 (colV_sj h hn j) (by rw [hb.1]; exact zq183 hn) (by rw [colV_length]; exact zq182) (by exact zq181 hn)).neg.le (by exact zq398 hj)
theorem rowV_sj {B : List (List Int)} (h : SqOj B) : ∀ n, n ≤ 4 → ∀ x ∈ rowV B n, Sm (35 * (n * (n + 1)) + 2) x
  | 0, _, x, hx => by
    have : x = 1 := by simpa [rowV] using hx
    subst this
    exact (show Sm 1 1 from (by decide : (1 : Int).natAbs < 2 ^ 1)).le (by decide)
  | n + 1, hn, x, hx => by
    obtain ⟨i, hi, rfl⟩ := List.mem_map.mp hx
    have hl : ((rowV B n).take (i + 1)).length ≤ n + 1 := by rw [List.length_take, rowV_length]; exact zq178
    have e : (n + 1) * (n + 1 + 1) = n * (n + 1) + 2 * (n + 1) := by rw [Nat.mul_comm (n + 1) (n + 1 + 1), Nat.add_mul, Nat.add_mul]; exact zq397
    refine (dot_sm3 (a := 35 * (n * (n + 1)) + 2) (b := 66 * (n + 1)) (fun y hy => rowV_sj h n (by exact zq176 hn) y (List.mem_of_mem_take hy)) (ser1_sm (serV_sj h (by exact zq177 hn)) _ _) (Nat.le_refl _) (by rw [ser1_length]; exact Nat.le_refl _) (by exact zq175 hn hl)).le (by rw [e]; exact zq396)
theorem sqB_oj {l : List Int} (h : ∀ x ∈ l, Sm 28 x) : SqOj (sqB l) := by
  have hf : ∀ x ∈ sqF l, Sm 28 x := fun x hx => h x (List.mem_of_mem_take hx)
  have hg : ∀ x ∈ sqG l, Sm 28 x := fun x hx => by
    rcases List.mem_cons.mp hx with rfl | hx
    · exact Nat.two_pow_pos _
    · exact h x (List.mem_of_mem_drop hx)
  have one : ∀ k, k ≤ 4 → (under (sqF l) (sqG l) k).length = 4 ∧ ∀ x ∈ under (sqF l) (sqG l) k, Sm 60 x := fun k hk => ⟨under_length _ _ _, fun x hx => by
    have := under_sm (M := 2 ^ 28) (fun x hx => Nat.le_of_lt (hf x hx)) (fun x hx => Nat.le_of_lt (hg x hx)) k x hx
    have h4 : k * (2 * (2 ^ 28 * 2 ^ 28)) ≤ 4 * (2 * (2 ^ 28 * 2 ^ 28)) := Nat.mul_le_mul_right _ hk
    exact Nat.lt_of_le_of_lt (Nat.le_trans this h4) (by decide)⟩
  refine ⟨rfl, fun r hr => ?_⟩
  simp only [sqB, List.mem_cons, List.not_mem_nil, or_false] at hr
  rcases hr with rfl | rfl | rfl | rfl
  · exact one 4 (by decide)
  · exact one 3 (by decide)
  · exact one 2 (by decide)
  · exact one 1 (by decide)
theorem bd_of {k : Nat} {x : Int} (h : Sm k x) (e : k ≤ 702) : Bd x := h.le e

/-! a leaf is good -/
theorem leaf_good0 {c : Ch} {v1 v2 v3 v4 b00 b01 b02 b03 b11 b12 b13 b22 b23 b33 : Int} {E : Nat} (hs : sqB (nine c) = S4 b00 b01 b02 b03 b11 b12 b13 b22 b23 b33) (h1 : dv c.falls 1 = v1) (h2 : dv c.falls 2 = v2) (h3 : dv c.falls 3 = v3) (h4 : dv c.falls 4 = v4)
    (hE : 5 * ups c.falls + dns c.falls = E) (h : berk opI apI (testI v1 v2 v3 v4 E) b00 b01 b02 b03 b11 b12 b13 b22 b23 b33) (hb : Bnd c) : Good c := by
  obtain ⟨r1, q1, q2, t1, t2, t3, u1, u2, u3, u4, e1, e2, e3, e4, ht⟩ := rows_sym _ _ _ _ _ _ _ _ _ _ _ h
  have ok := sqB_oj hb.n
  rw [hs] at ok
  have m1 := fun x hx => bd_of (x := x) (rowV_sj ok 1 (by decide) x hx) (by decide)
  have m2 := fun x hx => bd_of (x := x) (rowV_sj ok 2 (by decide) x hx) (by decide)
  have m3 := fun x hx => bd_of (x := x) (rowV_sj ok 3 (by decide) x hx) (by decide)
  have m4 := fun x hx => bd_of (x := x) (rowV_sj ok 4 (by decide) x hx) (by decide)
  have f13 : ∀ p ∈ c.falls, 1 ≤ p.1 ∧ p.1 ≤ 3 := fun p hp => ⟨(hb.fa p hp).1, (hb.fa p hp).2.1⟩
  have dl : ∀ j, j ≤ 4 → Bd (dv c.falls j) := fun j hj => by
    have := dv_le hb.fa j
    refine Nat.lt_of_le_of_lt this ?_
    rw [← Nat.pow_mul]
    exact Nat.pow_lt_pow_right (by decide) (by exact zq395 hj)
  have hk := ht ⟨h1 ▸ dl 1 (by decide), h2 ▸ dl 2 (by decide), h3 ▸ dl 3 (by decide), h4 ▸ dl 4 (by decide), m1 r1 (by rw [e1]; exact .tail _ (.head _)), m2 q2 (by rw [e2]; exact .tail _ (.tail _ (.head _))), m3 t3 (by rw [e3]; exact .tail _ (.tail _ (.tail _ (.head _)))),
    m4 u1 (by rw [e4]; exact .tail _ (.head _)), m4 u2 (by rw [e4]; exact .tail _ (.tail _ (.head _))), m4 u3 (by rw [e4]; exact .tail _ (.tail _ (.tail _ (.head _)))), m4 u4 (by rw [e4]; exact .tail _ (.tail _ (.tail _ (.tail _ (.head _)))))⟩
  obtain ⟨k1, k2, k3, k4, k5⟩ := hk
  rw [tab_ok] at k5
  have hlast : lasts (sqB (nine c)) = [-r1, q2, -t3, u4] := by
    rw [hs]
    show [(rowV _ 1).getLastD 0 * (-1) ^ 1, (rowV _ 2).getLastD 0 * (-1) ^ 2, (rowV _ 3).getLastD 0 * (-1) ^ 3, (rowV _ 4).getLastD 0 * (-1) ^ 4] = _
    rw [e1, e2, e3, e4]
    show [r1 * (-1), q2 * 1, t3 * (-1), u4 * 1] = _
    rw [Int.mul_neg_one, Int.mul_one, Int.mul_neg_one, Int.mul_one]
  have hud := fold_ud c.falls ⟨[0, 0, 0, 0], 0, 1, 0⟩ f13
  have hdk := dueK_fold c.falls c.falls.length (Nat.le_refl _)
  rw [List.take_length] at hdk
  rw [← hdk] at hud
  have hs4 := ud_sum c.falls f13
  have hsu := hb.su
  rw [← hs4] at hsu
  have c1 := changes_le [1, u1, u2, u3, u4]
  have c2 := changes_le (altRow [1, u1, u2, u3, u4])
  have l1 : ([1, u1, u2, u3, u4] : List Int).length = 5 := rfl
  have l2 : (altRow [1, u1, u2, u3, u4]).length = 5 := rfl
  rw [l1] at c1
  rw [l2] at c2
  have z1 : (0 : Int) + ups c.falls + dns c.falls = ups c.falls + dns c.falls := by exact zq394
  have z2 : (0 : Int) + ups c.falls - dns c.falls = ups c.falls - dns c.falls := by exact zq393
  refine ⟨?_, ?_, ?_⟩
  · rw [hlast, due_dv f13, h1, h2, h3, h4, k1, k2, k3, k4]
  · rw [hs, e4, hud.1]
    show _ = (0 : Int) + _ + _
    exact zq392 hE k5 hsu c2
  · rw [hs, e4, hud.2]
    show _ = (0 : Int) + _ - _
    exact zq391 hE k5 hsu c2
theorem leaf_good {c : Ch} {v1 v2 v3 v4 a b c' d e p q r s : Int} {E : Nat} (hn : nine c = [a, b, c', d, e, p, q, r, s]) (h1 : dv c.falls 1 = v1) (h2 : dv c.falls 2 = v2) (h3 : dv c.falls 3 = v3) (h4 : dv c.falls 4 = v4)
    (hE : 5 * ups c.falls + dns c.falls = E) (h : leafI v1 v2 v3 v4 E a b c' d e p q r s) (hb : Bnd c) : Good c := by
  unfold leafI at h
  rw [ten_eq] at h
  exact leaf_good0 (by rw [hn]; exact sqB_eq ..) h1 h2 h3 h4 hE h.out.out.out.out.out.out.out.out.out.out hb
end Mine

end

section
set_option Elab.async false
set_option linter.all false
set_option maxRecDepth 100000
set_option autoImplicit false
namespace Mine

/-! the walk over all chains -/
theorem R.mu0 {x y : Nat} {a b : Int} (h : R x a) (k : R y b) : R (Nat.mul x y) (a * b) := by
  show ((x * y : Nat) : Int) % _ = (a * b) % _
  rw [Int.natCast_mul, Int.mul_emod, h, k, ← Int.mul_emod]
theorem R.mod {x : Nat} {a : Int} (h : R x a) : R (Nat.mod x zM) a := by
  show ((x % zM : Nat) : Int) % _ = a % _
  rw [Int.natCast_emod, Int.emod_emod, h]
theorem R.n1 : R zN (-1) := by
  have e : ((zN : Nat) : Int) = -1 + (zM : Int) * 1 := by have := zN_eq; exact zq430 this
  unfold R
  rw [e, Int.add_mul_emod_self_left]
theorem R.ng0 {x : Nat} {a : Int} (h : R x a) : R (Nat.mul x zN) (-a) := by
  have := h.mu0 R.n1
  rw [Int.mul_neg_one] at this; exact this
theorem R.nat (n : Nat) : R n (n : Int) := rfl
noncomputable def zN2 : Nat := nat_lit 84162174424773976115855838126082058648805436845170781751972494449099714468753293153818664580441415219631727501698851483408310916002940861810045036330430093599283578738055113571066620126149163476340692027772502014
theorem zN2_eq : zN2 + 2 = zM := by decide +kernel
theorem R.n2 : R zN2 (-2) := by
  have e : ((zN2 : Nat) : Int) = -2 + (zM : Int) * 1 := by have := zN2_eq; exact zq429 this
  unfold R
  rw [e, Int.add_mul_emod_self_left]
noncomputable def andN (a b : Bool) : Bool := Bool.rec (motive := fun _ => Bool) false b a
theorem andN_eq {a b : Bool} (h : andN a b = true) : a = true ∧ b = true := by cases a <;> cases b <;> first | exact ⟨rfl, rfl⟩ | exact nomatch h
noncomputable def ldK (i j : Nat) (k : Nat → Nat → Bool) : Bool := andN (k (nat_lit 1) i) (andN (k zN j) (andN (k (nat_lit 2) i) (k zN2 j)))
noncomputable def cfK (k : Nat → Bool) : Bool := andN (k zN) (andN (k (nat_lit 0)) (k (nat_lit 1)))
theorem ld_R {i j : Nat} {k : Nat → Nat → Bool} (h : ldK i j k = true) {l' : Int} (hl : l' ∈ [(1 : Int), -1, 2, -2]) : l' ≠ 0 ∧ ∃ l m, R l l' ∧ m = (if 0 < l' then i else j) ∧ k l m = true := by
  obtain ⟨h1, h⟩ := andN_eq h
  obtain ⟨h2, h⟩ := andN_eq h
  obtain ⟨h3, h4⟩ := andN_eq h
  simp only [List.mem_cons, List.not_mem_nil, or_false] at hl
  rcases hl with rfl | rfl | rfl | rfl
  · exact ⟨by decide, _, _, R.nat 1, rfl, h1⟩
  · exact ⟨by decide, _, _, R.n1, rfl, h2⟩
  · exact ⟨by decide, _, _, R.nat 2, rfl, h3⟩
  · exact ⟨by decide, _, _, R.n2, rfl, h4⟩
theorem cf_R {k : Nat → Bool} (h : cfK k = true) {c' : Int} (hc : c' ∈ [(-1 : Int), 0, 1]) : ∃ c, R c c' ∧ k c = true := by
  obtain ⟨h1, h⟩ := andN_eq h
  obtain ⟨h2, h3⟩ := andN_eq h
  simp only [List.mem_cons, List.not_mem_nil, or_false] at hc
  rcases hc with rfl | rfl | rfl
  · exact ⟨_, R.n1, h1⟩
  · exact ⟨_, R.nat 0, h2⟩
  · exact ⟨_, R.nat 1, h3⟩
theorem shp (b c p q k : Int) : (b + k * p) * q + -((c + k * q) * p) = b * q + -(c * p) := by
  rw [Int.add_mul, Int.add_mul, Int.mul_assoc, Int.mul_assoc, Int.mul_comm p q]; exact zq428
theorem leaf_shift {v1 v2 v3 v4 a b c d e p q r s : Int} {E : Nat} (k : Int) (h : leafI v1 v2 v3 v4 E a b c d e p q r s) {b' c' d' e' : Int} (hb : b' = b + k * p) (hc : c' = c + k * q) (hd : d' = d + k * r) (he : e' = e + k * s) : leafI v1 v2 v3 v4 E a b' c' d' e' p q r s := by
  subst hb hc hd he
  unfold leafI at h ⊢
  rw [ten_eq] at h ⊢
  have h := h.out.out.out.out.out.out.out.out.out.out
  refine ⟨⟨⟨⟨⟨⟨⟨⟨⟨⟨?_⟩⟩⟩⟩⟩⟩⟩⟩⟩⟩
  have e1 : ∀ x y : Int, opI.ad x y = x + y := fun _ _ => rfl
  have e2 : ∀ x y : Int, opI.mu x y = x * y := fun _ _ => rfl
  have e3 : ∀ x : Int, opI.ng x = -x := fun _ => rfl
  simp only [e1, e2, e3, shp] at h ⊢
  exact h
/-- the state of a chain -/
structure St (c : Ch) (f h : List Int) (v1 v2 v3 : Int) (E : Nat) : Prop where
  f : c.f = f
  gl : c.g.length ≤ h.length
  g : List.replicate (h.length - c.g.length) 0 ++ c.g = h
  v1 : dv c.falls 1 = v1
  v2 : dv c.falls 2 = v2
  v3 : dv c.falls 3 = v3
  e : 5 * ups c.falls + dns c.falls = E
  n0 : c.f.getD 0 0 ≠ 0
theorem dv_1 (y : Int) (fs : List (Int × Int)) : dv (((1 : Nat), y) :: fs) 1 = y * dv fs 0 ∧ dv (((1 : Nat), y) :: fs) 2 = y * dv fs 1 ∧ dv (((1 : Nat), y) :: fs) 3 = y * dv fs 2 ∧ dv (((1 : Nat), y) :: fs) 4 = y * dv fs 3 := by
  have e : y ^ 1 * [1, 1, -1, -1].getD 1 (0 : Int) = y := by show y ^ 1 * 1 = y; rw [Int.mul_one, Int.pow_succ, Int.pow_zero, Int.one_mul]
  refine ⟨?_, ?_, ?_, ?_⟩ <;> show y ^ 1 * [1, 1, -1, -1].getD 1 (0 : Int) * dv fs _ = _ <;> rw [e] <;> rfl
theorem dv_2 (y : Int) (fs : List (Int × Int)) : dv (((2 : Nat), y) :: fs) 1 = 0 ∧ dv (((2 : Nat), y) :: fs) 2 = -(y * y) * dv fs 0 ∧ dv (((2 : Nat), y) :: fs) 3 = -(y * y) * dv fs 1 ∧ dv (((2 : Nat), y) :: fs) 4 = -(y * y) * dv fs 2 := by
  have e : y ^ 2 * [1, 1, -1, -1].getD 2 (0 : Int) = -(y * y) := by show y ^ 2 * (-1) = _; rw [Int.mul_neg_one, Int.pow_succ, Int.pow_succ, Int.pow_zero, Int.one_mul]
  refine ⟨rfl, ?_, ?_, ?_⟩ <;> show y ^ 2 * [1, 1, -1, -1].getD 2 (0 : Int) * dv fs _ = _ <;> rw [e] <;> rfl
theorem dv_3 (y : Int) (fs : List (Int × Int)) : dv (((3 : Nat), y) :: fs) 1 = 0 ∧ dv (((3 : Nat), y) :: fs) 2 = 0 ∧ dv (((3 : Nat), y) :: fs) 3 = -(y * y * y) * dv fs 0 ∧ dv (((3 : Nat), y) :: fs) 4 = -(y * y * y) * dv fs 1 := by
  have e : y ^ 3 * [1, 1, -1, -1].getD 3 (0 : Int) = -(y * y * y) := by show y ^ 3 * (-1) = _; rw [Int.mul_neg_one, Int.pow_succ, Int.pow_succ, Int.pow_succ, Int.pow_zero, Int.one_mul]
  refine ⟨rfl, rfl, ?_, ?_⟩ <;> show y ^ 3 * [1, 1, -1, -1].getD 3 (0 : Int) * dv fs _ = _ <;> rw [e] <;> rfl
theorem dv_0 : ∀ {fs : List (Int × Int)}, (∀ p ∈ fs, 1 ≤ p.1) → dv fs 0 = 1
  | [], _ => rfl
  | (x, y) :: fs, h => by
    have := h (x, y) (.head _)
    rw [dv, if_pos (by simp only at this; exact zq427 this), if_pos rfl]
theorem pos_y {l p : Int} (hp : p ≠ 0) : (0 < l * p * p) ↔ 0 < l := by
  rw [Int.mul_assoc]
  have h2 : 0 < p * p := by
    rcases Int.lt_or_gt_of_ne hp with h | h
    · exact Int.mul_pos_of_neg_of_neg h h
    · exact Int.mul_pos h h
  constructor
  · intro h
    by_cases hl : 0 < l
    · exact hl
    · have := Int.mul_nonneg_of_nonpos_of_nonpos (show l ≤ 0 by exact zq426 hl) (show -(p * p) ≤ 0 by exact zq425 h2)
      rw [Int.mul_neg] at this; exact zq424 h this
  · exact fun h => Int.mul_pos h h2
theorem ud_1 {y : Int} (fs : List (Int × Int)) : 5 * ups (((1 : Nat), y) :: fs) + dns (((1 : Nat), y) :: fs) = (5 * ups fs + dns fs) + (if 0 < y then 5 else 1) := by
  show 5 * ((if 0 < y then 1 else 0) + ups fs) + ((if 0 < y then 0 else 1) + dns fs) = _
  split <;> (first | exact zq422 | exact zq423 | omega)
theorem ud_2 {y : Int} (fs : List (Int × Int)) : 5 * ups (((2 : Nat), y) :: fs) + dns (((2 : Nat), y) :: fs) = (5 * ups fs + dns fs) + (if 0 < y then 6 else 6) := by
  show 5 * (1 + ups fs) + (1 + dns fs) = _
  split <;> exact zq421
theorem ud_3 {y : Int} (fs : List (Int × Int)) : 5 * ups (((3 : Nat), y) :: fs) + dns (((3 : Nat), y) :: fs) = (5 * ups fs + dns fs) + (if 0 < y then 11 else 7) := by
  show 5 * ((if 0 < y then 2 else 1) + ups fs) + ((if 0 < y then 1 else 2) + dns fs) = _
  split <;> (first | exact zq419 | exact zq420 | omega)
theorem pad1 {g : List Int} {h0 : Int} (hl : g.length ≤ 1) (h : List.replicate (1 - g.length) 0 ++ g = [h0]) : g = [h0] ∨ (h0 = 0 ∧ g = []) := by
  match g, hl with
  | [], _ => exact .inr ⟨by injection h with h1 h2; exact h1.symm, rfl⟩
  | [a], _ => exact .inl h
theorem pad2 {g : List Int} {h0 h1 : Int} (hl : g.length ≤ 2) (h : List.replicate (2 - g.length) 0 ++ g = [h1, h0]) : g = [h1, h0] ∨ (h1 = 0 ∧ g = [h0]) ∨ (h1 = 0 ∧ h0 = 0 ∧ g = []) := by
  match g, hl with
  | [], _ => exact .inr (.inr ⟨by injection h with h1 h2; exact h1.symm, by injection h with h1 h2; injection h2 with h3 h4; exact h3.symm, rfl⟩)
  | [a], _ => exact .inr (.inl ⟨by injection h with h1 h2; exact h1.symm, by injection h with h1 h2⟩)
  | [a, b], _ => exact .inl h
theorem pad3 {g : List Int} {h0 h1 h2 : Int} (hl : g.length ≤ 3) (h : List.replicate (3 - g.length) 0 ++ g = [h2, h1, h0]) : g = [h2, h1, h0] ∨ (h2 = 0 ∧ g = [h1, h0]) ∨ (h2 = 0 ∧ h1 = 0 ∧ g = [h0]) ∨ (h2 = 0 ∧ h1 = 0 ∧ h0 = 0 ∧ g = []) := by
  match g, hl with
  | [], _ => exact .inr (.inr (.inr ⟨by injection h with h1 h2; exact h1.symm, by injection h with h1 h2; injection h2 with h3 h4; exact h3.symm, by injection h with h1 h2; injection h2 with h3 h4; injection h4 with h5 h6; exact h5.symm, rfl⟩))
  | [a], _ => exact .inr (.inr (.inl ⟨by injection h with h1 h2; exact h1.symm, by injection h with h1 h2; injection h2 with h3 h4; exact h3.symm, by injection h with h1 h2; injection h2 with h3 h4⟩))
  | [a, b], _ => exact .inr (.inl ⟨by injection h with h1 h2; exact h1.symm, by injection h with h1 h2⟩)
  | [a, b, c], _ => exact .inl h
theorem ah_11 {l c0 p0 : Int} {g : List Int} (hl : g.length ≤ 0) (hg : List.replicate (0 - g.length) 0 ++ g = []) : ahead [l, c0] [p0] g = [l * p0, c0 * p0] := by
  have : g = [] := by cases g with | nil => rfl | cons a t => exact absurd hl (by simp)
  subst this; refine (show _ = [0 + l * p0, 0 + c0 * p0] by kernel_rfl).trans ?_; simp only [Int.zero_add]
theorem ah_12 {l c1 c0 p0 : Int} {g : List Int} (hl : g.length ≤ 0) (hg : List.replicate (0 - g.length) 0 ++ g = []) : ahead [l, c1, c0] [p0] g = [l * p0, c1 * p0, c0 * p0] := by
  have : g = [] := by cases g with | nil => rfl | cons a t => exact absurd hl (by simp)
  subst this; refine (show _ = [0 + l * p0, 0 + c1 * p0, 0 + c0 * p0] by kernel_rfl).trans ?_; simp only [Int.zero_add]
theorem ah_13 {l c2 c1 c0 p0 : Int} {g : List Int} (hl : g.length ≤ 0) (hg : List.replicate (0 - g.length) 0 ++ g = []) : ahead [l, c2, c1, c0] [p0] g = [l * p0, c2 * p0, c1 * p0, c0 * p0] := by
  have : g = [] := by cases g with | nil => rfl | cons a t => exact absurd hl (by simp)
  subst this; refine (show _ = [0 + l * p0, 0 + c2 * p0, 0 + c1 * p0, 0 + c0 * p0] by kernel_rfl).trans ?_; simp only [Int.zero_add]
theorem ah_21 {l c0 p1 p0 h0 : Int} {g : List Int} (hl : g.length ≤ 1) (hg : List.replicate (1 - g.length) 0 ++ g = [h0]) : ahead [l, c0] [p1, p0] g = [l * p1, l * p0 + c0 * p1, c0 * p0 + -h0] := by
  rcases pad1 hl hg with rfl | ⟨rfl, rfl⟩
  · refine (show _ = [0 + l * p1, 0 + l * p0 + c0 * p1, 0 + c0 * p0 - h0] by kernel_rfl).trans ?_; simp only [Int.zero_add, Int.sub_eq_add_neg, Int.neg_zero, Int.add_zero]
  · refine (show _ = [0 + l * p1, 0 + l * p0 + c0 * p1, 0 + c0 * p0] by kernel_rfl).trans ?_; simp only [Int.zero_add, Int.sub_eq_add_neg, Int.neg_zero, Int.add_zero]
theorem ah_22 {l c1 c0 p1 p0 h0 : Int} {g : List Int} (hl : g.length ≤ 1) (hg : List.replicate (1 - g.length) 0 ++ g = [h0]) : ahead [l, c1, c0] [p1, p0] g = [l * p1, l * p0 + c1 * p1, c1 * p0 + c0 * p1, c0 * p0 + -h0] := by
  rcases pad1 hl hg with rfl | ⟨rfl, rfl⟩
  · refine (show _ = [0 + l * p1, 0 + l * p0 + c1 * p1, 0 + c1 * p0 + c0 * p1, 0 + c0 * p0 - h0] by kernel_rfl).trans ?_; simp only [Int.zero_add, Int.sub_eq_add_neg, Int.neg_zero, Int.add_zero]
  · refine (show _ = [0 + l * p1, 0 + l * p0 + c1 * p1, 0 + c1 * p0 + c0 * p1, 0 + c0 * p0] by kernel_rfl).trans ?_; simp only [Int.zero_add, Int.sub_eq_add_neg, Int.neg_zero, Int.add_zero]
theorem ah_23 {l c2 c1 c0 p1 p0 h0 : Int} {g : List Int} (hl : g.length ≤ 1) (hg : List.replicate (1 - g.length) 0 ++ g = [h0]) : ahead [l, c2, c1, c0] [p1, p0] g = [l * p1, l * p0 + c2 * p1, c2 * p0 + c1 * p1, c1 * p0 + c0 * p1, c0 * p0 + -h0] := by
  rcases pad1 hl hg with rfl | ⟨rfl, rfl⟩
  · refine (show _ = [0 + l * p1, 0 + l * p0 + c2 * p1, 0 + c2 * p0 + c1 * p1, 0 + c1 * p0 + c0 * p1, 0 + c0 * p0 - h0] by kernel_rfl).trans ?_; simp only [Int.zero_add, Int.sub_eq_add_neg, Int.neg_zero, Int.add_zero]
  · refine (show _ = [0 + l * p1, 0 + l * p0 + c2 * p1, 0 + c2 * p0 + c1 * p1, 0 + c1 * p0 + c0 * p1, 0 + c0 * p0] by kernel_rfl).trans ?_; simp only [Int.zero_add, Int.sub_eq_add_neg, Int.neg_zero, Int.add_zero]
theorem ah_31 {l c0 p2 p1 p0 h1 h0 : Int} {g : List Int} (hl : g.length ≤ 2) (hg : List.replicate (2 - g.length) 0 ++ g = [h1, h0]) : ahead [l, c0] [p2, p1, p0] g = [l * p2, l * p1 + c0 * p2, l * p0 + c0 * p1 + -h1, c0 * p0 + -h0] := by
  rcases pad2 hl hg with rfl | ⟨rfl, rfl⟩ | ⟨rfl, rfl, rfl⟩
  · refine (show _ = [0 + l * p2, 0 + l * p1 + c0 * p2, 0 + l * p0 + c0 * p1 - h1, 0 + c0 * p0 - h0] by kernel_rfl).trans ?_; simp only [Int.zero_add, Int.sub_eq_add_neg, Int.neg_zero, Int.add_zero]
  · refine (show _ = [0 + l * p2, 0 + l * p1 + c0 * p2, 0 + l * p0 + c0 * p1, 0 + c0 * p0 - h0] by kernel_rfl).trans ?_; simp only [Int.zero_add, Int.sub_eq_add_neg, Int.neg_zero, Int.add_zero]
  · refine (show _ = [0 + l * p2, 0 + l * p1 + c0 * p2, 0 + l * p0 + c0 * p1, 0 + c0 * p0] by kernel_rfl).trans ?_; simp only [Int.zero_add, Int.sub_eq_add_neg, Int.neg_zero, Int.add_zero]
theorem ah_32 {l c1 c0 p2 p1 p0 h1 h0 : Int} {g : List Int} (hl : g.length ≤ 2) (hg : List.replicate (2 - g.length) 0 ++ g = [h1, h0]) : ahead [l, c1, c0] [p2, p1, p0] g = [l * p2, l * p1 + c1 * p2, l * p0 + c1 * p1 + c0 * p2, c1 * p0 + c0 * p1 + -h1, c0 * p0 + -h0] := by
  rcases pad2 hl hg with rfl | ⟨rfl, rfl⟩ | ⟨rfl, rfl, rfl⟩
  · refine (show _ = [0 + l * p2, 0 + l * p1 + c1 * p2, 0 + l * p0 + c1 * p1 + c0 * p2, 0 + c1 * p0 + c0 * p1 - h1, 0 + c0 * p0 - h0] by kernel_rfl).trans ?_; simp only [Int.zero_add, Int.sub_eq_add_neg, Int.neg_zero, Int.add_zero]
  · refine (show _ = [0 + l * p2, 0 + l * p1 + c1 * p2, 0 + l * p0 + c1 * p1 + c0 * p2, 0 + c1 * p0 + c0 * p1, 0 + c0 * p0 - h0] by kernel_rfl).trans ?_; simp only [Int.zero_add, Int.sub_eq_add_neg, Int.neg_zero, Int.add_zero]
  · refine (show _ = [0 + l * p2, 0 + l * p1 + c1 * p2, 0 + l * p0 + c1 * p1 + c0 * p2, 0 + c1 * p0 + c0 * p1, 0 + c0 * p0] by kernel_rfl).trans ?_; simp only [Int.zero_add, Int.sub_eq_add_neg, Int.neg_zero, Int.add_zero]
theorem ah_41 {l c0 p3 p2 p1 p0 h2 h1 h0 : Int} {g : List Int} (hl : g.length ≤ 3) (hg : List.replicate (3 - g.length) 0 ++ g = [h2, h1, h0]) : ahead [l, c0] [p3, p2, p1, p0] g = [l * p3, l * p2 + c0 * p3, l * p1 + c0 * p2 + -h2, l * p0 + c0 * p1 + -h1, c0 * p0 + -h0] := by
  rcases pad3 hl hg with rfl | ⟨rfl, rfl⟩ | ⟨rfl, rfl, rfl⟩ | ⟨rfl, rfl, rfl, rfl⟩
  · refine (show _ = [0 + l * p3, 0 + l * p2 + c0 * p3, 0 + l * p1 + c0 * p2 - h2, 0 + l * p0 + c0 * p1 - h1, 0 + c0 * p0 - h0] by kernel_rfl).trans ?_; simp only [Int.zero_add, Int.sub_eq_add_neg, Int.neg_zero, Int.add_zero]
  · refine (show _ = [0 + l * p3, 0 + l * p2 + c0 * p3, 0 + l * p1 + c0 * p2, 0 + l * p0 + c0 * p1 - h1, 0 + c0 * p0 - h0] by kernel_rfl).trans ?_; simp only [Int.zero_add, Int.sub_eq_add_neg, Int.neg_zero, Int.add_zero]
  · refine (show _ = [0 + l * p3, 0 + l * p2 + c0 * p3, 0 + l * p1 + c0 * p2, 0 + l * p0 + c0 * p1, 0 + c0 * p0 - h0] by kernel_rfl).trans ?_; simp only [Int.zero_add, Int.sub_eq_add_neg, Int.neg_zero, Int.add_zero]
  · refine (show _ = [0 + l * p3, 0 + l * p2 + c0 * p3, 0 + l * p1 + c0 * p2, 0 + l * p0 + c0 * p1, 0 + c0 * p0] by kernel_rfl).trans ?_; simp only [Int.zero_add, Int.sub_eq_add_neg, Int.neg_zero, Int.add_zero]
noncomputable def go4 (p0 p1 p2 p3 h0 h1 h2 v1 v2 v3 E : Nat) : Bool :=
  (ldK (nat_lit 5) (nat_lit 1) fun l i => fN (Nat.mod (Nat.mul l p3) zM) fun n4 => fN (Nat.mod (Nat.mul l p2) zM) fun n3 => fN (Nat.mod (Nat.add (Nat.mul l p1) (Nat.mul h2 zN)) zM) fun n2 => fN (Nat.mod (Nat.add (Nat.mul l p0) (Nat.mul h1 zN)) zM) fun n1 => fN (Nat.mod (Nat.mul h0 zN) zM) fun n0 => fN (Nat.mod (Nat.mul n4 p3) zM) fun y => fN y fun K => fN K fun w1 => fN (Nat.mod (Nat.mul K v1) zM) fun w2 => fN (Nat.mod (Nat.mul K v2) zM) fun w3 => fN (Nat.mod (Nat.mul K v3) zM) fun w4 => leafN w1 w2 w3 w4 (Nat.add E i) n4 n3 n2 n1 n0 p3 p2 p1 p0)
noncomputable def go3 (p0 p1 p2 h0 h1 v1 v2 v3 E : Nat) : Bool :=
  andN (ldK (nat_lit 5) (nat_lit 1) fun l i => cfK fun c0 => fN (Nat.mod (Nat.mul l p2) zM) fun n3 => fN (Nat.mod (Nat.add (Nat.mul l p1) (Nat.mul c0 p2)) zM) fun n2 => fN (Nat.mod (Nat.add (Nat.add (Nat.mul l p0) (Nat.mul c0 p1)) (Nat.mul h1 zN)) zM) fun n1 => fN (Nat.mod (Nat.add (Nat.mul c0 p0) (Nat.mul h0 zN)) zM) fun n0 => fN (Nat.mod (Nat.mul n3 p2) zM) fun y => fN y fun K => fN K fun w1 => fN (Nat.mod (Nat.mul K v1) zM) fun w2 => fN (Nat.mod (Nat.mul K v2) zM) fun w3 => go4 n0 n1 n2 n3 p0 p1 p2 w1 w2 w3 (Nat.add E i)) ((ldK (nat_lit 6) (nat_lit 6) fun l i => cfK fun c1 => fN (Nat.mod (Nat.mul l p2) zM) fun n4 => fN (Nat.mod (Nat.add (Nat.mul l p1) (Nat.mul c1 p2)) zM) fun n3 => fN (Nat.mod (Nat.add (Nat.mul l p0) (Nat.mul c1 p1)) zM) fun n2 => fN (Nat.mod (Nat.add (Nat.mul c1 p0) (Nat.mul h1 zN)) zM) fun n1 => fN (Nat.mod (Nat.mul h0 zN) zM) fun n0 => fN (Nat.mod (Nat.mul n4 p2) zM) fun y => fN (Nat.mod (Nat.mul (Nat.mul y y) zN) zM) fun K => fN 0 fun w1 => fN K fun w2 => fN (Nat.mod (Nat.mul K v1) zM) fun w3 => fN (Nat.mod (Nat.mul K v2) zM) fun w4 => leafN w1 w2 w3 w4 (Nat.add E i) n4 n3 n2 n1 n0 0 p2 p1 p0))
noncomputable def go2 (p0 p1 h0 v1 v2 v3 E : Nat) : Bool :=
  andN (ldK (nat_lit 5) (nat_lit 1) fun l i => cfK fun c0 => fN (Nat.mod (Nat.mul l p1) zM) fun n2 => fN (Nat.mod (Nat.add (Nat.mul l p0) (Nat.mul c0 p1)) zM) fun n1 => fN (Nat.mod (Nat.add (Nat.mul c0 p0) (Nat.mul h0 zN)) zM) fun n0 => fN (Nat.mod (Nat.mul n2 p1) zM) fun y => fN y fun K => fN K fun w1 => fN (Nat.mod (Nat.mul K v1) zM) fun w2 => fN (Nat.mod (Nat.mul K v2) zM) fun w3 => go3 n0 n1 n2 p0 p1 w1 w2 w3 (Nat.add E i)) (andN (ldK (nat_lit 6) (nat_lit 6) fun l i => cfK fun c1 => cfK fun c0 => fN (Nat.mod (Nat.mul l p1) zM) fun n3 => fN (Nat.mod (Nat.add (Nat.mul l p0) (Nat.mul c1 p1)) zM) fun n2 => fN (Nat.mod (Nat.add (Nat.mul c1 p0) (Nat.mul c0 p1)) zM) fun n1 => fN (Nat.mod (Nat.add (Nat.mul c0 p0) (Nat.mul h0 zN)) zM) fun n0 => fN (Nat.mod (Nat.mul n3 p1) zM) fun y => fN (Nat.mod (Nat.mul (Nat.mul y y) zN) zM) fun K => fN 0 fun w1 => fN K fun w2 => fN (Nat.mod (Nat.mul K v1) zM) fun w3 => go4 n0 n1 n2 n3 p0 p1 0 w1 w2 w3 (Nat.add E i)) ((ldK (nat_lit 11) (nat_lit 7) fun l i => cfK fun c2 => cfK fun c1 => fN (Nat.mod (Nat.mul l p1) zM) fun n4 => fN (Nat.mod (Nat.add (Nat.mul l p0) (Nat.mul c2 p1)) zM) fun n3 => fN (Nat.mod (Nat.add (Nat.mul c2 p0) (Nat.mul c1 p1)) zM) fun n2 => fN (Nat.mod (Nat.mul c1 p0) zM) fun n1 => fN (Nat.mod (Nat.mul h0 zN) zM) fun n0 => fN (Nat.mod (Nat.mul n4 p1) zM) fun y => fN (Nat.mod (Nat.mul (Nat.mul (Nat.mul y y) y) zN) zM) fun K => fN 0 fun w1 => fN 0 fun w2 => fN K fun w3 => fN (Nat.mod (Nat.mul K v1) zM) fun w4 => leafN w1 w2 w3 w4 (Nat.add E i) n4 n3 n2 n1 n0 0 0 p1 p0)))
noncomputable def go1 (p0 v1 v2 v3 E : Nat) : Bool :=
  andN (ldK (nat_lit 5) (nat_lit 1) fun l i => cfK fun c0 => fN (Nat.mod (Nat.mul l p0) zM) fun n1 => fN (Nat.mod (Nat.mul c0 p0) zM) fun n0 => fN (Nat.mod (Nat.mul n1 p0) zM) fun y => fN y fun K => fN K fun w1 => fN (Nat.mod (Nat.mul K v1) zM) fun w2 => fN (Nat.mod (Nat.mul K v2) zM) fun w3 => go2 n0 n1 p0 w1 w2 w3 (Nat.add E i)) (andN (ldK (nat_lit 6) (nat_lit 6) fun l i => cfK fun c1 => cfK fun c0 => fN (Nat.mod (Nat.mul l p0) zM) fun n2 => fN (Nat.mod (Nat.mul c1 p0) zM) fun n1 => fN (Nat.mod (Nat.mul c0 p0) zM) fun n0 => fN (Nat.mod (Nat.mul n2 p0) zM) fun y => fN (Nat.mod (Nat.mul (Nat.mul y y) zN) zM) fun K => fN 0 fun w1 => fN K fun w2 => fN (Nat.mod (Nat.mul K v1) zM) fun w3 => go3 n0 n1 n2 p0 0 w1 w2 w3 (Nat.add E i)) ((ldK (nat_lit 11) (nat_lit 7) fun l i => cfK fun c2 => cfK fun c1 => cfK fun c0 => fN (Nat.mod (Nat.mul l p0) zM) fun n3 => fN (Nat.mod (Nat.mul c2 p0) zM) fun n2 => fN (Nat.mod (Nat.mul c1 p0) zM) fun n1 => fN (Nat.mod (Nat.mul c0 p0) zM) fun n0 => fN (Nat.mod (Nat.mul n3 p0) zM) fun y => fN (Nat.mod (Nat.mul (Nat.mul (Nat.mul y y) y) zN) zM) fun K => fN 0 fun w1 => fN 0 fun w2 => fN K fun w3 => go4 n0 n1 n2 n3 p0 0 0 w1 w2 w3 (Nat.add E i))))
theorem go4_ok {p0 p1 p2 p3 h0 h1 h2 v1 v2 v3 E : Nat} {p0' p1' p2' p3' h0' h1' h2' v1' v2' v3' : Int} (hp0 : R p0 p0') (hp1 : R p1 p1') (hp2 : R p2 p2') (hp3 : R p3 p3') (hh0 : R h0 h0') (hh1 : R h1 h1') (hh2 : R h2 h2') (hv1 : R v1 v1') (hv2 : R v2 v2') (hv3 : R v3 v3') (h : go4 p0 p1 p2 p3 h0 h1 h2 v1 v2 v3 E = true) {c : Ch} (hst : St c [p3', p2', p1', p0'] [h2', h1', h0'] v1' v2' v3' E)
    (hd : dv c.falls 0 = 1) : Fin c := by
  unfold go4 at h
  have b1 := h
  clear h
  have hf := hst.f
  refine fin_step (n := 4) (by rw [hf]; rfl) (by decide) fun x hx1 hx2 hx3 q hq => ?_
  obtain ⟨l', cs, rfl, hl, hcs, hc⟩ := hq
  have nz := hst.n0
  rw [hf] at nz ⊢
  have nz : p3' ≠ 0 := nz
  have hx : x = 1 := by exact zq418 hx1 hx3
  subst hx
  · match cs, hcs, hc with
    | [c0'], _, hc =>
      rw [ah_41 hst.gl hst.g]
      obtain ⟨hl0, l, i, hl, hi, b1⟩ := ld_R b1 hl
      rw [fN_eq, fN_eq, fN_eq, fN_eq, fN_eq, fN_eq, fN_eq, fN_eq, fN_eq, fN_eq, fN_eq] at b1
      have hn4 := ((hl.mu0 hp3)).mod
      have hn3 := ((hl.mu0 hp2)).mod
      have hn2 := (((hl.mu0 hp1).ad0 hh2.ng0)).mod
      have hn1 := (((hl.mu0 hp0).ad0 hh1.ng0)).mod
      have hn0 := (hh0.ng0).mod
      have hy := (hn4.mu0 hp3).mod
      have hK := hy
      have hw1 := hK
      have hw2 := (hK.mu0 hv1).mod
      have hw3 := (hK.mu0 hv2).mod
      have hw4 := (hK.mu0 hv3).mod
      obtain ⟨d1, d2, d3, d4⟩ := dv_1 (l' * p3' * p3') c.falls
      have hE : 5 * ups ((((1 : Nat) : Int), (l' * p3' * p3')) :: c.falls) + dns ((((1 : Nat) : Int), (l' * p3' * p3')) :: c.falls) = Nat.add E i := by
        rw [ud_1, hst.e, hi]; simp only [pos_y nz]; rfl
      have hlf := leaf_R hw1 hw2 hw3 hw4 hn4 hn3 hn2 hn1 hn0 hp3 hp2 hp1 hp0 b1
      have hlf := leaf_shift c0' hlf (b' := l' * p2' + c0' * p3') (c' := l' * p1' + c0' * p2' + -h2') (d' := l' * p0' + c0' * p1' + -h1') (e' := c0' * p0' + -h0') (by exact zq413) (by exact zq415) (by exact zq415) (by exact zq412)
      exact fin_leaf rfl (leaf_good rfl (d1.trans (by rw [hd, Int.mul_one])) (d2.trans (by rw [hst.v1])) (d3.trans (by rw [hst.v2])) (d4.trans (by rw [hst.v3])) hE hlf)
theorem go3_ok {p0 p1 p2 h0 h1 v1 v2 v3 E : Nat} {p0' p1' p2' h0' h1' v1' v2' v3' : Int} (hp0 : R p0 p0') (hp1 : R p1 p1') (hp2 : R p2 p2') (hh0 : R h0 h0') (hh1 : R h1 h1') (hv1 : R v1 v1') (hv2 : R v2 v2') (hv3 : R v3 v3') (h : go3 p0 p1 p2 h0 h1 v1 v2 v3 E = true) {c : Ch} (hst : St c [p2', p1', p0'] [h1', h0'] v1' v2' v3' E)
    (hd : dv c.falls 0 = 1) : Fin c := by
  unfold go3 at h
  obtain ⟨b1, h⟩ := andN_eq h
  have b2 := h
  clear h
  have hf := hst.f
  refine fin_step (n := 3) (by rw [hf]; rfl) (by decide) fun x hx1 hx2 hx3 q hq => ?_
  obtain ⟨l', cs, rfl, hl, hcs, hc⟩ := hq
  have nz := hst.n0
  rw [hf] at nz ⊢
  have nz : p2' ≠ 0 := nz
  have hx : x = 1 ∨ x = 2 := by exact zq417 hx1 hx3
  rcases hx with rfl | rfl
  · match cs, hcs, hc with
    | [c0'], _, hc =>
      rw [ah_31 hst.gl hst.g]
      obtain ⟨hl0, l, i, hl, hi, b1⟩ := ld_R b1 hl
      obtain ⟨c0, hc0, b1⟩ := cf_R b1 (hc c0' (.head _))
      rw [fN_eq, fN_eq, fN_eq, fN_eq, fN_eq, fN_eq, fN_eq, fN_eq, fN_eq] at b1
      have hn3 := ((hl.mu0 hp2)).mod
      have hn2 := (((hl.mu0 hp1).ad0 (hc0.mu0 hp2))).mod
      have hn1 := ((((hl.mu0 hp0).ad0 (hc0.mu0 hp1)).ad0 hh1.ng0)).mod
      have hn0 := (((hc0.mu0 hp0).ad0 hh0.ng0)).mod
      have hy := (hn3.mu0 hp2).mod
      have hK := hy
      have hw1 := hK
      have hw2 := (hK.mu0 hv1).mod
      have hw3 := (hK.mu0 hv2).mod
      obtain ⟨d1, d2, d3, d4⟩ := dv_1 (l' * p2' * p2') c.falls
      have hE : 5 * ups ((((1 : Nat) : Int), (l' * p2' * p2')) :: c.falls) + dns ((((1 : Nat) : Int), (l' * p2' * p2')) :: c.falls) = Nat.add E i := by
        rw [ud_1, hst.e, hi]; simp only [pos_y nz]; rfl
      refine go4_ok hn0 hn1 hn2 hn3 hp0 hp1 hp2 hw1 hw2 hw3 b1 ⟨rfl, Nat.le_of_ble_eq_true rfl, rfl, d1.trans (by rw [hd, Int.mul_one]), d2.trans (by rw [hst.v1]), d3.trans (by rw [hst.v2]), hE, ?_⟩ rfl
      exact Int.mul_ne_zero hl0 nz
  · match cs, hcs, hc with
    | [c1', c0'], _, hc =>
      rw [ah_32 hst.gl hst.g]
      obtain ⟨hl0, l, i, hl, hi, b2⟩ := ld_R b2 hl
      obtain ⟨c1, hc1, b2⟩ := cf_R b2 (hc c1' (.head _))
      rw [fN_eq, fN_eq, fN_eq, fN_eq, fN_eq, fN_eq, fN_eq, fN_eq, fN_eq, fN_eq, fN_eq] at b2
      have hn4 := ((hl.mu0 hp2)).mod
      have hn3 := (((hl.mu0 hp1).ad0 (hc1.mu0 hp2))).mod
      have hn2 := (((hl.mu0 hp0).ad0 (hc1.mu0 hp1))).mod
      have hn1 := (((hc1.mu0 hp0).ad0 hh1.ng0)).mod
      have hn0 := (hh0.ng0).mod
      have hy := (hn4.mu0 hp2).mod
      have hK := (hy.mu0 hy).ng0.mod
      have hw1 := R.z
      have hw2 := hK
      have hw3 := (hK.mu0 hv1).mod
      have hw4 := (hK.mu0 hv2).mod
      obtain ⟨d1, d2, d3, d4⟩ := dv_2 (l' * p2' * p2') c.falls
      have hE : 5 * ups ((((2 : Nat) : Int), (l' * p2' * p2')) :: c.falls) + dns ((((2 : Nat) : Int), (l' * p2' * p2')) :: c.falls) = Nat.add E i := by
        rw [ud_2, hst.e, hi]; simp only [pos_y nz]; rfl
      have hlf := leaf_R hw1 hw2 hw3 hw4 hn4 hn3 hn2 hn1 hn0 R.z hp2 hp1 hp0 b2
      have hlf := leaf_shift c0' hlf (b' := l' * p1' + c1' * p2') (c' := l' * p0' + c1' * p1' + c0' * p2') (d' := c1' * p0' + c0' * p1' + -h1') (e' := c0' * p0' + -h0') (by exact zq414) (by exact zq416) (by exact zq415) (by exact zq412)
      exact fin_leaf rfl (leaf_good rfl (d1) (d2.trans (by rw [hd, Int.mul_one])) (d3.trans (by rw [hst.v1])) (d4.trans (by rw [hst.v2])) hE hlf)
theorem go2_ok {p0 p1 h0 v1 v2 v3 E : Nat} {p0' p1' h0' v1' v2' v3' : Int} (hp0 : R p0 p0') (hp1 : R p1 p1') (hh0 : R h0 h0') (hv1 : R v1 v1') (hv2 : R v2 v2') (hv3 : R v3 v3') (h : go2 p0 p1 h0 v1 v2 v3 E = true) {c : Ch} (hst : St c [p1', p0'] [h0'] v1' v2' v3' E)
    (hd : dv c.falls 0 = 1) : Fin c := by
  unfold go2 at h
  obtain ⟨b1, h⟩ := andN_eq h
  obtain ⟨b2, h⟩ := andN_eq h
  have b3 := h
  clear h
  have hf := hst.f
  refine fin_step (n := 2) (by rw [hf]; rfl) (by decide) fun x hx1 hx2 hx3 q hq => ?_
  obtain ⟨l', cs, rfl, hl, hcs, hc⟩ := hq
  have nz := hst.n0
  rw [hf] at nz ⊢
  have nz : p1' ≠ 0 := nz
  have hx : x = 1 ∨ x = 2 ∨ x = 3 := by exact zq411 hx1 hx2
  rcases hx with rfl | rfl | rfl
  · match cs, hcs, hc with
    | [c0'], _, hc =>
      rw [ah_21 hst.gl hst.g]
      obtain ⟨hl0, l, i, hl, hi, b1⟩ := ld_R b1 hl
      obtain ⟨c0, hc0, b1⟩ := cf_R b1 (hc c0' (.head _))
      rw [fN_eq, fN_eq, fN_eq, fN_eq, fN_eq, fN_eq, fN_eq, fN_eq] at b1
      have hn2 := ((hl.mu0 hp1)).mod
      have hn1 := (((hl.mu0 hp0).ad0 (hc0.mu0 hp1))).mod
      have hn0 := (((hc0.mu0 hp0).ad0 hh0.ng0)).mod
      have hy := (hn2.mu0 hp1).mod
      have hK := hy
      have hw1 := hK
      have hw2 := (hK.mu0 hv1).mod
      have hw3 := (hK.mu0 hv2).mod
      obtain ⟨d1, d2, d3, d4⟩ := dv_1 (l' * p1' * p1') c.falls
      have hE : 5 * ups ((((1 : Nat) : Int), (l' * p1' * p1')) :: c.falls) + dns ((((1 : Nat) : Int), (l' * p1' * p1')) :: c.falls) = Nat.add E i := by
        rw [ud_1, hst.e, hi]; simp only [pos_y nz]; rfl
      refine go3_ok hn0 hn1 hn2 hp0 hp1 hw1 hw2 hw3 b1 ⟨rfl, Nat.le_of_ble_eq_true rfl, rfl, d1.trans (by rw [hd, Int.mul_one]), d2.trans (by rw [hst.v1]), d3.trans (by rw [hst.v2]), hE, ?_⟩ rfl
      exact Int.mul_ne_zero hl0 nz
  · match cs, hcs, hc with
    | [c1', c0'], _, hc =>
      rw [ah_22 hst.gl hst.g]
      obtain ⟨hl0, l, i, hl, hi, b2⟩ := ld_R b2 hl
      obtain ⟨c1, hc1, b2⟩ := cf_R b2 (hc c1' (.head _))
      obtain ⟨c0, hc0, b2⟩ := cf_R b2 (hc c0' (.tail _ (.head _)))
      rw [fN_eq, fN_eq, fN_eq, fN_eq, fN_eq, fN_eq, fN_eq, fN_eq, fN_eq] at b2
      have hn3 := ((hl.mu0 hp1)).mod
      have hn2 := (((hl.mu0 hp0).ad0 (hc1.mu0 hp1))).mod
      have hn1 := (((hc1.mu0 hp0).ad0 (hc0.mu0 hp1))).mod
      have hn0 := (((hc0.mu0 hp0).ad0 hh0.ng0)).mod
      have hy := (hn3.mu0 hp1).mod
      have hK := (hy.mu0 hy).ng0.mod
      have hw1 := R.z
      have hw2 := hK
      have hw3 := (hK.mu0 hv1).mod
      obtain ⟨d1, d2, d3, d4⟩ := dv_2 (l' * p1' * p1') c.falls
      have hE : 5 * ups ((((2 : Nat) : Int), (l' * p1' * p1')) :: c.falls) + dns ((((2 : Nat) : Int), (l' * p1' * p1')) :: c.falls) = Nat.add E i := by
        rw [ud_2, hst.e, hi]; simp only [pos_y nz]; rfl
      refine go4_ok hn0 hn1 hn2 hn3 hp0 hp1 R.z hw1 hw2 hw3 b2 ⟨rfl, Nat.le_of_ble_eq_true rfl, rfl, d1, d2.trans (by rw [hd, Int.mul_one]), d3.trans (by rw [hst.v1]), hE, ?_⟩ rfl
      exact Int.mul_ne_zero hl0 nz
  · match cs, hcs, hc with
    | [c2', c1', c0'], _, hc =>
      rw [ah_23 hst.gl hst.g]
      obtain ⟨hl0, l, i, hl, hi, b3⟩ := ld_R b3 hl
      obtain ⟨c2, hc2, b3⟩ := cf_R b3 (hc c2' (.head _))
      obtain ⟨c1, hc1, b3⟩ := cf_R b3 (hc c1' (.tail _ (.head _)))
      rw [fN_eq, fN_eq, fN_eq, fN_eq, fN_eq, fN_eq, fN_eq, fN_eq, fN_eq, fN_eq, fN_eq] at b3
      have hn4 := ((hl.mu0 hp1)).mod
      have hn3 := (((hl.mu0 hp0).ad0 (hc2.mu0 hp1))).mod
      have hn2 := (((hc2.mu0 hp0).ad0 (hc1.mu0 hp1))).mod
      have hn1 := ((hc1.mu0 hp0)).mod
      have hn0 := (hh0.ng0).mod
      have hy := (hn4.mu0 hp1).mod
      have hK := ((hy.mu0 hy).mu0 hy).ng0.mod
      have hw1 := R.z
      have hw2 := R.z
      have hw3 := hK
      have hw4 := (hK.mu0 hv1).mod
      obtain ⟨d1, d2, d3, d4⟩ := dv_3 (l' * p1' * p1') c.falls
      have hE : 5 * ups ((((3 : Nat) : Int), (l' * p1' * p1')) :: c.falls) + dns ((((3 : Nat) : Int), (l' * p1' * p1')) :: c.falls) = Nat.add E i := by
        rw [ud_3, hst.e, hi]; simp only [pos_y nz]; rfl
      have hlf := leaf_R hw1 hw2 hw3 hw4 hn4 hn3 hn2 hn1 hn0 R.z R.z hp1 hp0 b3
      have hlf := leaf_shift c0' hlf (b' := l' * p0' + c2' * p1') (c' := c2' * p0' + c1' * p1') (d' := c1' * p0' + c0' * p1') (e' := c0' * p0' + -h0') (by exact zq414) (by exact zq414) (by exact zq413) (by exact zq412)
      exact fin_leaf rfl (leaf_good rfl (d1) (d2) (d3.trans (by rw [hd, Int.mul_one])) (d4.trans (by rw [hst.v1])) hE hlf)
theorem go1_ok {p0 v1 v2 v3 E : Nat} {p0' v1' v2' v3' : Int} (hp0 : R p0 p0') (hv1 : R v1 v1') (hv2 : R v2 v2') (hv3 : R v3 v3') (h : go1 p0 v1 v2 v3 E = true) {c : Ch} (hst : St c [p0'] [] v1' v2' v3' E)
    (hd : dv c.falls 0 = 1) : Fin c := by
  unfold go1 at h
  obtain ⟨b1, h⟩ := andN_eq h
  obtain ⟨b2, h⟩ := andN_eq h
  have b3 := h
  clear h
  have hf := hst.f
  refine fin_step (n := 1) (by rw [hf]; rfl) (by decide) fun x hx1 hx2 hx3 q hq => ?_
  obtain ⟨l', cs, rfl, hl, hcs, hc⟩ := hq
  have nz := hst.n0
  rw [hf] at nz ⊢
  have nz : p0' ≠ 0 := nz
  have hx : x = 1 ∨ x = 2 ∨ x = 3 := by exact zq411 hx1 hx2
  rcases hx with rfl | rfl | rfl
  · match cs, hcs, hc with
    | [c0'], _, hc =>
      rw [ah_11 hst.gl hst.g]
      obtain ⟨hl0, l, i, hl, hi, b1⟩ := ld_R b1 hl
      obtain ⟨c0, hc0, b1⟩ := cf_R b1 (hc c0' (.head _))
      rw [fN_eq, fN_eq, fN_eq, fN_eq, fN_eq, fN_eq, fN_eq] at b1
      have hn1 := ((hl.mu0 hp0)).mod
      have hn0 := ((hc0.mu0 hp0)).mod
      have hy := (hn1.mu0 hp0).mod
      have hK := hy
      have hw1 := hK
      have hw2 := (hK.mu0 hv1).mod
      have hw3 := (hK.mu0 hv2).mod
      obtain ⟨d1, d2, d3, d4⟩ := dv_1 (l' * p0' * p0') c.falls
      have hE : 5 * ups ((((1 : Nat) : Int), (l' * p0' * p0')) :: c.falls) + dns ((((1 : Nat) : Int), (l' * p0' * p0')) :: c.falls) = Nat.add E i := by
        rw [ud_1, hst.e, hi]; simp only [pos_y nz]; rfl
      refine go2_ok hn0 hn1 hp0 hw1 hw2 hw3 b1 ⟨rfl, Nat.le_of_ble_eq_true rfl, rfl, d1.trans (by rw [hd, Int.mul_one]), d2.trans (by rw [hst.v1]), d3.trans (by rw [hst.v2]), hE, ?_⟩ rfl
      exact Int.mul_ne_zero hl0 nz
  · match cs, hcs, hc with
    | [c1', c0'], _, hc =>
      rw [ah_12 hst.gl hst.g]
      obtain ⟨hl0, l, i, hl, hi, b2⟩ := ld_R b2 hl
      obtain ⟨c1, hc1, b2⟩ := cf_R b2 (hc c1' (.head _))
      obtain ⟨c0, hc0, b2⟩ := cf_R b2 (hc c0' (.tail _ (.head _)))
      rw [fN_eq, fN_eq, fN_eq, fN_eq, fN_eq, fN_eq, fN_eq, fN_eq] at b2
      have hn2 := ((hl.mu0 hp0)).mod
      have hn1 := ((hc1.mu0 hp0)).mod
      have hn0 := ((hc0.mu0 hp0)).mod
      have hy := (hn2.mu0 hp0).mod
      have hK := (hy.mu0 hy).ng0.mod
      have hw1 := R.z
      have hw2 := hK
      have hw3 := (hK.mu0 hv1).mod
      obtain ⟨d1, d2, d3, d4⟩ := dv_2 (l' * p0' * p0') c.falls
      have hE : 5 * ups ((((2 : Nat) : Int), (l' * p0' * p0')) :: c.falls) + dns ((((2 : Nat) : Int), (l' * p0' * p0')) :: c.falls) = Nat.add E i := by
        rw [ud_2, hst.e, hi]; simp only [pos_y nz]; rfl
      refine go3_ok hn0 hn1 hn2 hp0 R.z hw1 hw2 hw3 b2 ⟨rfl, Nat.le_of_ble_eq_true rfl, rfl, d1, d2.trans (by rw [hd, Int.mul_one]), d3.trans (by rw [hst.v1]), hE, ?_⟩ rfl
      exact Int.mul_ne_zero hl0 nz
  · match cs, hcs, hc with
    | [c2', c1', c0'], _, hc =>
      rw [ah_13 hst.gl hst.g]
      obtain ⟨hl0, l, i, hl, hi, b3⟩ := ld_R b3 hl
      obtain ⟨c2, hc2, b3⟩ := cf_R b3 (hc c2' (.head _))
      obtain ⟨c1, hc1, b3⟩ := cf_R b3 (hc c1' (.tail _ (.head _)))
      obtain ⟨c0, hc0, b3⟩ := cf_R b3 (hc c0' (.tail _ (.tail _ (.head _))))
      rw [fN_eq, fN_eq, fN_eq, fN_eq, fN_eq, fN_eq, fN_eq, fN_eq, fN_eq] at b3
      have hn3 := ((hl.mu0 hp0)).mod
      have hn2 := ((hc2.mu0 hp0)).mod
      have hn1 := ((hc1.mu0 hp0)).mod
      have hn0 := ((hc0.mu0 hp0)).mod
      have hy := (hn3.mu0 hp0).mod
      have hK := ((hy.mu0 hy).mu0 hy).ng0.mod
      have hw1 := R.z
      have hw2 := R.z
      have hw3 := hK
      obtain ⟨d1, d2, d3, d4⟩ := dv_3 (l' * p0' * p0') c.falls
      have hE : 5 * ups ((((3 : Nat) : Int), (l' * p0' * p0')) :: c.falls) + dns ((((3 : Nat) : Int), (l' * p0' * p0')) :: c.falls) = Nat.add E i := by
        rw [ud_3, hst.e, hi]; simp only [pos_y nz]; rfl
      refine go4_ok hn0 hn1 hn2 hn3 hp0 R.z R.z hw1 hw2 hw3 b3 ⟨rfl, Nat.le_of_ble_eq_true rfl, rfl, d1, d2, d3.trans (by rw [hd, Int.mul_one]), hE, ?_⟩ rfl
      exact Int.mul_ne_zero hl0 nz
end Mine

end

section
set_option Elab.async false
set_option linter.all false
set_option maxRecDepth 100000
set_option autoImplicit false
namespace Mine

/-! the kernel's reckoning -/
theorem ke1a : go1 (nat_lit 1) 0 0 0 0 = true := by kernel_rfl
theorem ke1c : go1 (nat_lit 2) 0 0 0 0 = true := by kernel_rfl
theorem ke2a : cfK (fun c0 => go2 c0 (nat_lit 1) 0 0 0 0 0) = true := by kernel_rfl
theorem ke2c : cfK (fun c0 => go2 c0 (nat_lit 2) 0 0 0 0 0) = true := by kernel_rfl
theorem ke3 : ldK 0 0 (fun l _ => cfK fun c1 => cfK fun c0 => go3 c0 c1 l 0 0 0 0 0 0) = true := by kernel_rfl

/-! a chain with all its signs turned -/
noncomputable def ng (l : List Int) : List Int := l.map fun x => -x
theorem ng_length (l : List Int) : (ng l).length = l.length := List.length_map ..
theorem ng_getD (l : List Int) (k : Nat) : (ng l).getD k 0 = -(l.getD k 0) := by
  unfold ng
  rw [List.getD_eq_getElem?_getD, List.getD_eq_getElem?_getD, List.getElem?_map]
  cases l[k]? <;> rfl
theorem ng_set (l : List Int) (k : Nat) (x : Int) : (ng l).set k (-x) = ng (l.set k x) := List.map_set.symm
theorem ng_zeros (n : Nat) : ng (List.replicate n 0) = List.replicate n 0 := List.map_replicate
theorem aheadJ_ng (new q row : List Int) (i : Nat) : ∀ k, aheadJ (ng new) q (ng row) i k = ng (aheadJ new q row i k)
  | 0 => rfl
  | k + 1 => by
    show (aheadJ (ng new) q (ng row) i k).set (i + k) ((aheadJ (ng new) q (ng row) i k).getD (i + k) 0 + q.getD i 0 * (ng row).getD k 0) = ng ((aheadJ new q row i k).set (i + k) ((aheadJ new q row i k).getD (i + k) 0 + q.getD i 0 * row.getD k 0))
    rw [aheadJ_ng new q row i k, ng_getD, ng_getD, Int.mul_neg, ← Int.neg_add, ng_set]
theorem aheadI_ng (new q row : List Int) : ∀ k, aheadI (ng new) q (ng row) k = ng (aheadI new q row k)
  | 0 => rfl
  | k + 1 => by
    show aheadJ (aheadI (ng new) q (ng row) k) q (ng row) k (ng row).length = ng (aheadJ (aheadI new q row k) q row k row.length)
    rw [aheadI_ng new q row k, ng_length, aheadJ_ng]
theorem aheadB_ng (new behind : List Int) (o : Nat) : ∀ k, aheadB (ng new) (ng behind) o k = ng (aheadB new behind o k)
  | 0 => rfl
  | k + 1 => by
    show (aheadB (ng new) (ng behind) o k).set (o + k) ((aheadB (ng new) (ng behind) o k).getD (o + k) 0 - (ng behind).getD k 0) = ng ((aheadB new behind o k).set (o + k) ((aheadB new behind o k).getD (o + k) 0 - behind.getD k 0))
    rw [aheadB_ng new behind o k, ng_getD, ng_getD, ← ng_set]
    congr 1
    rw [Int.sub_neg, Int.neg_sub, Int.sub_eq_add_neg, Int.add_comm]
theorem ahead_ng (q row behind : List Int) : ahead q (ng row) (ng behind) = ng (ahead q row behind) := by
  unfold ahead
  rw [ng_length, ng_length, ← aheadB_ng, ← aheadI_ng, ng_zeros]
noncomputable def ngC (c : Ch) : Ch := ⟨ng c.f, ng c.g, c.falls⟩
theorem chNew_ng (c : Ch) (d : Int) : chNew (ngC c) d = ng (chNew c d) := by
  show ahead (drawn (d / 3) (min (1 + d % 3) (5 - (ng c.f).length)).toNat) (ng c.f) (ng c.g) = _
  rw [ng_length, ahead_ng]; rfl
theorem chStep_ng (c : Ch) (d : Int) : chStep (ngC c) d = ngC (chStep c d) := by
  by_cases h : c.f.length < 5
  · have h' : (ngC c).f.length < 5 := by rw [show (ngC c).f = ng c.f from rfl, ng_length]; exact h
    unfold chStep
    rw [if_pos h, if_pos h', chNew_ng]
    show (⟨ng (chNew c d), ng c.f, (min (1 + d % 3) (5 - ((ng c.f).length : Int)), (ng (chNew c d)).getD 0 0 * (ng c.f).getD 0 0) :: c.falls⟩ : Ch) = ⟨ng (chNew c d), ng c.f, (min (1 + d % 3) (5 - (c.f.length : Int)), (chNew c d).getD 0 0 * c.f.getD 0 0) :: c.falls⟩
    rw [ng_length, ng_getD, ng_getD, Int.neg_mul_neg]
  · have h' : ¬ (ngC c).f.length < 5 := by rw [show (ngC c).f = ng c.f from rfl, ng_length]; exact h
    unfold chStep
    rw [if_neg h, if_neg h']
theorem run_ng : ∀ (es : List Int) (c : Ch), run (ngC c) es = ngC (run c es)
  | [], _ => rfl
  | e :: es, c => by
    show run (chStep (ngC c) e) es = ngC (run (chStep c e) es)
    rw [chStep_ng]; exact run_ng es _
theorem nine_ng (c : Ch) : nine (ngC c) = ng (nine c) := by
  show ng c.f ++ List.replicate (4 - (ng c.g).length) 0 ++ ng c.g = (c.f ++ List.replicate (4 - c.g.length) 0 ++ c.g).map fun x => -x
  rw [List.map_append, List.map_append, ng_length]
  show _ = ng c.f ++ ng _ ++ ng c.g
  rw [ng_zeros]
theorem sqE_ng (f g un : List Int) (i m : Nat) : sqE (ng f) (ng g) un i m = sqE f g un i m := by
  unfold sqE
  simp only [ng_getD, Int.neg_mul_neg]
theorem sqRow_ng (f g un : List Int) (i : Nat) : ∀ m, sqRow (ng f) (ng g) un i m = sqRow f g un i m
  | 0 => rfl
  | m + 1 => by
    show sqRow (ng f) (ng g) un i m ++ [sqE (ng f) (ng g) un i m] = sqRow f g un i m ++ [sqE f g un i m]
    rw [sqRow_ng f g un i m, sqE_ng]
theorem under_ng (f g : List Int) : ∀ k, under (ng f) (ng g) k = under f g k
  | 0 => rfl
  | k + 1 => by
    show sqRow (ng f) (ng g) (under (ng f) (ng g) k) (3 - k) 4 = sqRow f g (under f g k) (3 - k) 4
    rw [under_ng f g k, sqRow_ng]
theorem sqB_ng (l : List Int) : sqB (ng l) = sqB l := by
  have e1 : sqF (ng l) = ng (sqF l) := List.map_take.symm
  have e2 : sqG (ng l) = ng (sqG l) := by
    show (0 : Int) :: (ng l).drop 5 = -0 :: (l.drop 5).map fun x => -x
    rw [List.map_drop]; rfl
  unfold sqB
  simp only [e1, e2, under_ng]
theorem fin_ng {c : Ch} (h : Fin c) : Fin (ngC c) := by
  intro es h5 hb
  rw [run_ng] at h5 hb ⊢
  have h5 : (ng (run c es).f).length = 5 := h5
  rw [ng_length] at h5
  have := h es h5 ⟨fun x hx => ?_, hb.fa, hb.su⟩
  · have e : sqB (nine (ngC (run c es))) = sqB (nine (run c es)) := by rw [nine_ng, sqB_ng]
    have e2 : (ngC (run c es)).falls = (run c es).falls := rfl
    exact ⟨by rw [e, e2]; exact this.due, by rw [e, e2]; exact this.sum, by rw [e, e2]; exact this.dif⟩
  · have := hb.n (-x) (by rw [nine_ng]; exact List.mem_map_of_mem hx)
    unfold Sm at this ⊢
    rw [Int.natAbs_neg] at this; exact this
theorem lead_in {P : Int → Prop} (h1 : P 1) (h2 : P 2) (n : ∀ x, P x → P (-x)) {l : Int} (hl : l ∈ [(1 : Int), -1, 2, -2]) : P l := by
  simp only [List.mem_cons, List.not_mem_nil, or_false] at hl
  rcases hl with rfl | rfl | rfl | rfl
  · exact h1
  · exact n 1 h1
  · exact h2
  · exact n 2 h2
theorem fin1 {l : Int} (hl : l ∈ [(1 : Int), -1, 2, -2]) : Fin ⟨[l], [], []⟩ :=
  lead_in (P := fun l => Fin ⟨[l], [], []⟩) (go1_ok (R.nat 1) R.z R.z R.z ke1a ⟨rfl, Nat.le_refl _, rfl, rfl, rfl, rfl, rfl, by decide⟩ rfl)
    (go1_ok (R.nat 2) R.z R.z R.z ke1c ⟨rfl, Nat.le_refl _, rfl, rfl, rfl, rfl, rfl, by decide⟩ rfl) (fun _ h => fin_ng h) hl
theorem fin2 {l c : Int} (hl : l ∈ [(1 : Int), -1, 2, -2]) (hc : c ∈ [(-1 : Int), 0, 1]) : Fin ⟨[l, c], [], []⟩ := by
  refine lead_in (P := fun l => ∀ c ∈ [(-1 : Int), 0, 1], Fin ⟨[l, c], [], []⟩) (fun c hc => ?_) (fun c hc => ?_) (fun l h c hc => ?_) hl c hc
  · obtain ⟨c0, h0, b⟩ := cf_R ke2a hc
    exact go2_ok h0 (R.nat 1) R.z R.z R.z R.z b ⟨rfl, Nat.le_of_ble_eq_true rfl, rfl, rfl, rfl, rfl, rfl, show (1 : Int) ≠ 0 by decide⟩ rfl
  · obtain ⟨c0, h0, b⟩ := cf_R ke2c hc
    exact go2_ok h0 (R.nat 2) R.z R.z R.z R.z b ⟨rfl, Nat.le_of_ble_eq_true rfl, rfl, rfl, rfl, rfl, rfl, show (2 : Int) ≠ 0 by decide⟩ rfl
  · have := fin_ng (h (-c) (by simp only [List.mem_cons, List.not_mem_nil, or_false] at hc ⊢; rcases hc with rfl | rfl | rfl <;> simp))
    have e : ngC ⟨[l, -c], [], []⟩ = ⟨[-l, c], [], []⟩ := by
      show (⟨[-l, - -c], [], []⟩ : Ch) = _
      rw [Int.neg_neg]
    rw [e] at this; exact this

theorem fin0 (d : Int) : Fin (ch0 d) := by
  have h1 := Int.emod_nonneg d (show (3 : Int) ≠ 0 by decide)
  have h2 := Int.emod_lt_of_pos d (show (0 : Int) < 3 by decide)
  have hq := drawn_isq (d / 3) (d % 3).toNat
  unfold ch0
  generalize hx : (d % 3).toNat = x at hq ⊢
  have hx3 : x < 3 := by exact zq432 hx
  obtain ⟨l', cs, hq, hl, hcs, hc⟩ := hq
  rw [hq]
  have nz : l' ≠ 0 := by
    simp only [List.mem_cons, List.not_mem_nil, or_false] at hl
    exact zq431 hl
  rcases x with _ | _ | _ | x
  · match cs, hcs with
    | [], _ => exact fin1 hl
  · match cs, hcs, hc with
    | [c0'], _, hc => exact fin2 hl (hc _ (.head _))
  · match cs, hcs, hc with
    | [c1', c0'], _, hc =>
      obtain ⟨_, l, m, hl, _, b⟩ := ld_R ke3 hl
      obtain ⟨c1, h1, b⟩ := cf_R b (hc _ (.head _))
      obtain ⟨c0, h0, b⟩ := cf_R b (hc _ (.tail _ (.head _)))
      exact go3_ok h0 h1 hl R.z R.z R.z R.z R.z b ⟨rfl, Nat.le_of_ble_eq_true rfl, rfl, rfl, rfl, rfl, rfl, nz⟩ rfl
  · omega
theorem le60 : 4 * 10000 ^ 4 ≤ 2 ^ 60 := by decide +kernel
/-- the plain law -/
theorem plain (ds : List Int) : Asks ds := by
  have e : chK ds 4 = run (ch0 (ds.getD 0 0)) [ds.getD 1 0, ds.getD 2 0, ds.getD 3 0, ds.getD 4 0] := by
    simp only [run, List.foldl, chK]
  have ok := chK_ok ds 4
  have h5 := ch_done ds
  have fa : ∀ p ∈ (chK ds 4).falls, 1 ≤ p.1 ∧ p.1 ≤ 3 ∧ Le (2 ^ 60) p.2 := fun p hp => by
    obtain ⟨a, b, c⟩ := ok.fa p hp
    refine ⟨a, b, ?_⟩
    unfold Le at c ⊢
    exact Nat.le_trans c le60
  have su : ((chK ds 4).falls.map (·.1)).sum ≤ 4 := by
    have := ok.su
    rw [h5] at this
    exact this
  have hb : Bnd (chK ds 4) := ⟨nine_sm, fa, su⟩
  have := fin0 (ds.getD 0 0) [ds.getD 1 0, ds.getD 2 0, ds.getD 3 0, ds.getD 4 0]
  rw [← e] at this
  have := this h5 hb
  exact ⟨this.due, this.sum, this.dif⟩
end Mine

end

section
set_option Elab.async false
set_option linter.all false
set_option maxRecDepth 100000
set_option autoImplicit false
namespace Mine
open PySem PySem.Spec PySem.Calls PyProof.Rows PySem.W PySem.Challenge

/-! what stands behind the top -/
noncomputable def fAt (i : Nat) : Addr := ([21, 28, 35, 42, 101, 49, 115, 122, 127, 134, 141, 148, 155, 160, 165, 108, 63, 70, 77, 84] : List Nat).getD i 0
noncomputable def adX (w : World) : Ads := ⟨w, fAt, 390, 92, 87⟩
noncomputable abbrev pT : Addr := 103
noncomputable abbrev cT : Addr := 107
noncomputable abbrev aL : Addr := 170
noncomputable abbrev cL : Addr := 169
/-- the defs: where they lie, their code objects, what they are -/
noncomputable def dTab : List (Addr × Addr × Stmt) := [(21, 20, stm 1), (28, 27, stm 2), (35, 34, stm 3), (42, 41, stm 4), (101, 100, stm 60), (49, 48, stm 6), (115, 114, stm 63), (122, 121, stm 64), (127, 126, stm 65), (134, 133, stm 66), (141, 140, stm 67), (148, 147, stm 68), (155, 154, stm 69), (160, 159, stm 70), (165, 164, stm 71), (108, 107, stm 62), (63, 62, dStm (stm 8) 0), (70, 69, dStm (stm 8) 1), (77, 76, dStm (stm 8) 2), (84, 83, dStm (stm 8) 3)]
noncomputable def recQ (h : Heap) (cd : Value) (q : Str) : Bool := match cd with
  | .ref c => (match h.get? c with
    | some o => (match o.data with
      | .fields vs => (match (vs[1]? : Option Value) with
        | some (.str x _) => x == q
        | _ => false)
      | _ => false)
    | none => false)
  | _ => false
theorem recQ_ok {h : Heap} {cd : Value} {q : Str} (e : recQ h cd q = true) : h.CodeRec cd q := by
  unfold recQ at e
  split at e
  · split at e
    · split at e
      · split at e
        · rename_i c _ o ho _ vs hd _ x t hv
          exact ⟨c, o, vs, t, rfl, ho, hd, by rw [hv, eq_of_beq e]⟩
        · cases e
      · cases e
    · cases e
  · cases e
noncomputable def fnView (h : Heap) (a : Addr) : Option (Value × Arguments × FuncBody × Scope × Addr × List (Str × Addr) × Value × Value × Addr × Value × Bool) := match h.get? a with
  | some o => (match o.data with
    | .func fd => some (o.cls, fd.params, fd.body, fd.scope, fd.globals, fd.closure, fd.defaults, fd.kwdefaults, fd.builtins, fd.code, recQ h fd.code fd.qualname)
    | _ => none)
  | none => none
noncomputable def fnWant (c : Addr) (st : Stmt) : Option (Value × Arguments × FuncBody × Scope × Addr × List (Str × Addr) × Value × Value × Addr × Value × Bool) :=
  some (.type "function", dArgs st, .stmts (dBody st), dScope st, mainGlobals, [], .none, .none, builtinsNs, .ref c, true)
noncomputable def IsFnC (h : Heap) (f c : Addr) (st : Stmt) : Prop :=
  ∃ fo name qual doc pm an ct, h.get? f = some fo ∧ fo.cls = .type "function" ∧ fo.data = .func (fnX name qual (dArgs st) (dBody st) (dScope st) [] .none .none doc pm an (.ref c) ct) ∧ h.CodeRec (.ref c) qual
theorem fn_of_view {h : Heap} {f c : Addr} {st : Stmt} (e : fnView h f = fnWant c st) : IsFnC h f c st := by
  unfold fnView fnWant at e
  split at e
  · rename_i o ho
    split at e
    · rename_i fd hd
      obtain ⟨name, qual, params, body, scope, globals, closure, dV, kV, doc, pm, an, cd, ct, bl⟩ := fd
      injection e with e
      simp only [Prod.mk.injEq] at e
      obtain ⟨e1, rfl, rfl, rfl, rfl, rfl, rfl, rfl, rfl, rfl, e2⟩ := e
      exact ⟨o, name, qual, doc, pm, an, ct, ho, e1, hd, recQ_ok e2⟩
    · cases e
  · cases e
theorem IsFnC.keeps {h h' : Heap} {f c : Addr} {st : Stmt} (k : h.StaysIn h') (x : IsFnC h f c st) : IsFnC h' f c st :=
  let ⟨fo, name, qual, doc, pm, an, ct, a, b, d, e⟩ := x
  ⟨fo, name, qual, doc, pm, an, ct, k _ _ a, b, d, e.keeps k⟩
theorem IsFnC.isFn {h : Heap} {f c : Addr} {st : Stmt} (x : IsFnC h f c st) : IsFn h f (dArgs st) (dBody st) (dScope st) [] :=
  let ⟨fo, name, qual, doc, pm, an, ct, r⟩ := x; ⟨fo, name, qual, doc, pm, an, .ref c, ct, r⟩
theorem IsFnC.hide {h : Heap} {f c P : Addr} {st : Stmt} (x : IsFnC h f c st) (hf : f ≠ P) (hc : c ≠ P) : IsFnC (hideAll h [P]) f c st := by
  obtain ⟨fo, name, qual, doc, pm, an, ct, a, b, d, c', o, vs, t, e1, e2, e3⟩ := x
  cases e1
  exact ⟨fo, name, qual, doc, pm, an, ct, hideAll_get _ a (by simpa using hf), b, d, c, o, vs, t, rfl, hideAll_get _ e2 (by simpa using hc), e3⟩
theorem IsFnC.code {h : Heap} {f c : Addr} {st : Stmt} (x : IsFnC h f c st) : CodeIs h f (.ref c) :=
  let ⟨fo, name, qual, doc, pm, an, ct, a, b, d, e⟩ := x; ⟨fo, _, a, d, rfl⟩

noncomputable def keysX : List Str := (["!", "!=", "%", "%=", "&", "&=", "(", ")", "*", "**", "**=", "*=", "+", "+=", ",", "-", "-=", "->", ".", "...", "/", "//", "//=", "/=", ":", ":=", ";", "<", "<<", "<<=", "<=", "=", "==", ">", ">=", ">>", ">>=", "@", "@=", "[", "]", "^", "^=", "{", "|", "|=", "}", "~"] : List String).map Str.ofString
noncomputable def dictView (h : Heap) (a : Addr) : Option (Value × Option Addr × Array (Option Value) × List (Option Str × Int) × Option Value × Option Value) := match h.get? a with
  | some o => (match o.data with
    | .dict es _ => some (o.cls, o.dict, o.slots, es.toList.map (fun e => ((match e.key with | .str x _ => some x | _ => none), e.hash)), findBy Value.isStrOf es "+", findBy Value.isStrOf es "-")
    | _ => none)
  | none => none
noncomputable def dictWant (P : Params) : Option (Value × Option Addr × Array (Option Value) × List (Option Str × Int) × Option Value × Option Value) :=
  some (.type "dict", none, #[], keysX.map (fun x => (some x, PyData.keyHash P x)), some (.int 14 308), some (.int 15 310))
theorem tab_of_view {h : Heap} {w : World} {a : Addr} (e : dictView h a = dictWant w.params) : ∃ (f : Str → Option Value) (t u : Tok), (∀ prog, h.MapOf (strKind prog w) a f) ∧ f (Str.ofString "+") = some (.int 14 t) ∧ f (Str.ofString "-") = some (.int 15 u) := by
  unfold dictView dictWant at e
  split at e
  · rename_i o ho
    split at e
    · rename_i es n hd
      injection e with e
      simp only [Prod.mk.injEq] at e
      obtain ⟨e1, e2, e3, e4, e5, e6⟩ := e
      refine ⟨fun k => findBy Value.isStrOf es k, 308, 310, fun prog => ⟨o, es, n, ho, ⟨e1, e2, e3⟩, hd, fun e he => ?_, fun _ => rfl⟩, e5, e6⟩
      have hm := List.mem_map_of_mem (f := fun e : DictEntry => ((match e.key with | .str x _ => some x | _ => none), e.hash)) (Array.mem_toList_iff.mpr he)
      rw [e4] at hm
      obtain ⟨x, _, hx⟩ := List.mem_map.mp hm
      obtain ⟨h1, h2⟩ := Prod.mk.inj hx
      split at h1
      · rename_i y t hk
        cases h1
        exact ⟨x, by rw [hk]; exact strKind_is prog w x t, h2.symm⟩
      · cases h1
    · cases e
  · cases e
noncomputable def codeView (h : Heap) (c : Addr) : Option (Value × Option Value × Value × Value × Value × Value) := match h.get? c with
  | some o => (match o.data with
    | .fields vs => some (o.cls, vs[11]?, vs.getD 18 .none, vs.getD 7 .none, vs.getD 9 .none, vs.getD 10 .none)
    | _ => none)
  | none => none
theorem code_of_view {h : Heap} {c P : Addr} {file : Str} {tf tg tt : Tok} {flags text : Int} {inF : Bool} (e : codeView h c = some (.type "code", some (.ref P), .str file tf, .int flags tg, .bool inF, .int text tt)) (ne : c ≠ P) : CodeHd h c P := by
  unfold codeView at e
  split at e
  · rename_i o ho
    split at e
    · rename_i vs hd
      injection e with e
      simp only [Prod.mk.injEq] at e
      obtain ⟨e1, e2, e3, e4, e5, e6⟩ := e
      have e7 : vs.getD 11 .none = .ref P := by rw [Array.getD_eq_getD_getElem?, e2]; rfl
      exact ⟨o, vs, file, tf, flags, tg, inF, text, tt, ho, e1, hd, e2, e7, e3, e4, e5, e6, ne⟩
    · cases e
  · cases e
theorem CodeHd.hide {h : Heap} {c P : Addr} (x : CodeHd h c P) : CodeHd (hideAll h [P]) c P := by
  obtain ⟨o, vs, file, tf, flags, tg, inF, text, tt, e, r⟩ := x
  have hne : c ≠ P := r.2.2.2.2.2.2.2.2
  exact ⟨o, vs, file, tf, flags, tg, inF, text, tt, hideAll_get _ e (by simpa using hne), r⟩
end Mine

end

section
set_option Elab.async false
set_option linter.all false
set_option maxRecDepth 100000
set_option autoImplicit false
namespace Mine
open PySem PySem.Spec PySem.Calls PyProof.Rows PySem.W PySem.Challenge

noncomputable def gP : List (Str × Value) := [
  ("mul", .ref 21), ("neg", .ref 28), ("iadd", .ref 35), ("isub", .ref 42), ("ISTERMINAL", .ref 101), ("Int2AP", .ref 49), ("_law_word", .ref 115), ("_law_number", .ref 122),
  ("_law_page", .ref 127), ("_law_drawn", .ref 134), ("_law_ahead", .ref 141), ("_law_square", .ref 148), ("_law_sum", .ref 155), ("_law_corners", .ref 160), ("_law_changes", .ref 165), ("_law_lexer", .ref 108),
  ("NT_OFFSET", .int 256 390), ("EXACT_TOKEN_TYPES", .ref 92), ("_netrclex", .ref 87), ("law", .ref aL)]
noncomputable def bP : List (Str × Value) := [
  ("len", .builtin "len"), ("range", .type "range"), ("ord", .builtin "ord"), ("int", .type "int"), ("abs", .builtin "abs"), ("divmod", .builtin "divmod"), ("iter", .builtin "iter"), ("min", .builtin "min")]
noncomputable def cP : List (Str × Option Value) := [
  ("__init__", some (.ref 63)), ("_read_char", some (.ref 70)), ("get_token", some (.ref 77)), ("push_token", some (.ref 84)),
  ("__getattribute__", none), ("__setattr__", none), ("__getattr__", none), ("lineno", none), ("instream", none), ("whitespace", none), ("pushback", none)]
noncomputable def clsX : Obj := excClassObj "_netrclex" "_netrclex" 87 86 [.type "object"] [.type "object"] true [] [] false none none none none (some (.str "_netrclex" 234)) (some (.str "_netrclex" 242)) (some (.bool true)) "object.__new__"

noncomputable def obsX (s : Shared) :=
  (dTab.map (fun p => fnView s.heap p.1), fnView s.heap aL, dictView s.heap 92, codeView s.heap cT, s.heap.get? pT, s.heap.get? 87, s.heap.isNs 86, cP.map (fun p => s.heap.nsMap 86 p.1),
    s.heap.isNs mainGlobals, gP.map (fun p => s.heap.nsMap mainGlobals p.1), s.heap.isNs builtinsNs, bP.map (fun p => (s.heap.nsMap mainGlobals p.1, s.heap.nsMap builtinsNs p.1)))
noncomputable def wantX (w : World) :=
  (dTab.map (fun p => fnWant p.2.1 p.2.2), fnWant cL (stm 72), dictWant w.params, (some (.type "code", some (.ref pT), .str "/claim/cut.py" 507, .int 3 0, .bool true, .int 181 0) : Option (Value × Option Value × Value × Value × Value × Value)), (some (tabObj #[]) : Option Obj), (some clsX : Option Obj), true, cP.map (fun p => p.2),
    true, gP.map (fun p => some p.2), true, bP.map (fun p => ((none : Option Value), some p.2)))
structure SaysX (w : World) (h : Heap) : Prop where
  fns : ∀ p ∈ dTab, IsFnC h p.1 p.2.1 p.2.2
  law : IsFnC h aL cL (stm 72)
  tab : Tab (adX w) h
  code : CodeHd h cT pT
  tb : h.get? pT = some (tabObj #[])
  cls : h.get? 87 = some clsX
  cns : ∃ mN, h.Ns 86 mN ∧ ∀ p ∈ cP, mN p.1 = p.2
  glob : ∃ mg mb, h.Ns mainGlobals mg ∧ h.Ns builtinsNs mb ∧ (∀ p ∈ gP, mg p.1 = some p.2) ∧ ∀ p ∈ bP, mg p.1 = none ∧ mb p.1 = some p.2
theorem saysX_of (w : World) (s : Shared) (e : obsX s = wantX w) : SaysX w s.heap := by
  unfold obsX wantX at e
  simp only [Prod.mk.injEq] at e
  obtain ⟨e1, e2, e3, e4, e5, e6, e7, e8, e9, e10, e11, e12⟩ := e
  rw [List.map_inj_left] at e1 e8 e10 e12
  exact ⟨fun p hp => fn_of_view (e1 p hp), fn_of_view e2, tab_of_view e3, code_of_view e4 (by decide), e5, e6, ⟨_, Heap.Ns.of_isNs e7, e8⟩,
    ⟨_, _, Heap.Ns.of_isNs e9, Heap.Ns.of_isNs e11, e10, fun p hp => Prod.mk.inj (e12 p hp)⟩⟩
theorem SaysX.keeps {w : World} {h h' : Heap} (x : SaysX w h) (k : h.StaysIn h') : SaysX w h' :=
  ⟨fun p hp => (x.fns p hp).keeps k, x.law.keeps k, x.tab.keeps k, x.code.keeps k, k _ _ x.tb, k _ _ x.cls, let ⟨m, a, b⟩ := x.cns; ⟨m, a.keeps k, b⟩,
    let ⟨mg, mb, a, b, r⟩ := x.glob; ⟨mg, mb, a.keeps k, b.keeps k, r⟩⟩
noncomputable def hookX : Hook := ⟨_, obsX, wantX, SaysX, saysX_of, fun _ _ _ x k => x.keeps k⟩

/-! the ground of the walk, with the code table hidden -/
theorem ns_hide {h : Heap} {a P : Addr} {m : Str → Option Value} (x : h.Ns a m) (ne : a ≠ P) : (hideAll h [P]).Ns a m :=
  let ⟨o, es, ep, e, r⟩ := x; ⟨o, es, ep, hideAll_get _ e (by simpa using ne), r⟩
theorem ftabX (w : World) : ftab (adX w) = dTab.map (fun p => (p.1, p.2.2)) := by kernel_rfl
theorem gtabX (w : World) : gtab (adX w) = gP.take 19 ++ bP := by kernel_rfl
theorem clsTabX (w : World) : clsTab (adX w) = cP := by kernel_rfl
theorem dTab_ne : ∀ p ∈ dTab.map (fun p => (p.1, p.2.1)), p.1 ≠ pT ∧ p.2 ≠ pT := by
  have e : dTab.map (fun p => (p.1, p.2.1)) = [(21, 20), (28, 27), (35, 34), (42, 41), (101, 100), (49, 48), (115, 114), (122, 121), (127, 126), (134, 133), (141, 140), (148, 147), (155, 154), (160, 159), (165, 164), (108, 107), (63, 62), (70, 69), (77, 76), (84, 83)] := rfl
  rw [e]; decide
theorem baseX {w : World} {h : Heap} (x : SaysX w h) (lim : h.NoLimit) : Base (adX w) (hideAll h [pT]) := by
  refine ⟨?_, ?_, ?_, ?_⟩
  · obtain ⟨f, t, u, m, r⟩ := x.tab
    exact ⟨f, t, u, fun p => let ⟨o, es, ep, ho, q⟩ := m p; ⟨o, es, ep, hideAll_get _ ho (by show ¬ ((92 : Nat) ∈ [pT]); decide), q⟩, r⟩
  · obtain ⟨mc, a, b⟩ := lim
    exact ⟨mc, ns_hide a (by decide), b⟩
  · obtain ⟨mg, mb, a, b, c, d⟩ := x.glob
    refine ⟨mg, mb, ns_hide a (by decide), ns_hide b (by decide), fun p hp => ?_⟩
    rw [gtabX] at hp
    rcases List.mem_append.mp hp with hp | hp
    · exact .inl (c p (List.mem_of_mem_take hp))
    · exact .inr (d p hp)
  · intro p hp
    rw [ftabX] at hp
    obtain ⟨q, hq, rfl⟩ := List.mem_map.mp hp
    have ne := dTab_ne _ (List.mem_map_of_mem (f := fun p : Addr × Addr × Stmt => (p.1, p.2.1)) hq)
    exact ((x.fns q hq).hide ne.1 ne.2).isFn
theorem clsX_ok {w : World} {h : Heap} (x : SaysX w h) : ClsOk (adX w) (hideAll h [pT]) := by
  obtain ⟨mN, a, b⟩ := x.cns
  refine ⟨86, mN, ⟨⟨_, _, _, _, _, _, _, _, _, _, _, _, hideAll_get _ x.cls (show ¬ ((87 : Nat) ∈ [pT]) by decide)⟩, ns_hide a (by decide)⟩, ?_⟩
  rw [clsTabX]; exact b
theorem codeX {w : World} {h : Heap} (x : SaysX w h) : CodeIs (hideAll h [pT]) ((adX w).fn 15) (.ref cT) := by
  have hq : (108, 107, stm 62) ∈ dTab := by
    show _ ∈ _ :: _
    refine List.mem_of_getElem? (i := 15) ?_
    rfl
  have := ((x.fns _ hq).hide (P := pT) (by decide) (by decide)).code
  exact this
/-- the last step: law returns True on the whole heap -/
theorem law_whole {w : World} {s : Shared} {fn sc : Addr} {script : List Int} (x : SaysX w s.heap) (lim : s.heap.NoLimit) (mg : Str → Option Value) (hg : s.heap.Ns mainGlobals mg)
    (bm : ∃ bm ob, mg "__builtins__" = some (.ref bm) ∧ bm ≠ builtinsNs ∧ bm ≠ mainGlobals ∧ s.heap.get? bm = some ob ∧ ob.cls = .type "module" ∧ ob.dict = some builtinsNs ∧ ob.data = .plain)
    (hfn : mg "law" = some (.ref fn)) (hsc : D.At s.heap sc (.ints script)) (hlen : script.length ≤ 100000) (as : Asks (drawsK script (min 20 script.length))) {R : Result → Shared → Prop}
    (k : ∀ s' ps, (hideAll s.heap [pT]).StaysIn s'.heap → s'.heap.get? pT = some (tabObj ps) → Same s s' → R (.ok (.ret (.bool true))) s') :
    codeAny (model pw_wj0028_01 w) callerA (.call (.ref fn) ⟨[.ref sc], []⟩) R s := by
  have hL : fn = aL := by
    obtain ⟨mg', mb, a, b, c, d⟩ := x.glob
    have e := c ("law", .ref aL) (by show _ ∈ _ :: _; refine List.mem_of_getElem? (i := 19) ?_; rfl)
    obtain ⟨o, es, ep, h1, h2, h3, h4⟩ := hg
    obtain ⟨o', es', ep', g1, g2, g3, g4⟩ := a
    rw [h1] at g1; cases g1
    rw [h2] at g2; cases g2
    have := (h4 "law").symm.trans (g4 "law")
    rw [hfn] at this
    have e2 := this.trans e
    injection e2 with e3
    injection e3
  subst hL
  have mk : MkOk cT pT (hideAll s.heap [pT]) := by
    refine ⟨CodeHd.hide x.code, ?_⟩
    obtain ⟨b, ob, h1, h2, h3, h4, h5, h6, h7⟩ := bm
    refine ⟨mg, b, ob, ns_hide hg (by decide), h1, h2, h3, hideAll_get _ h4 ?_, h5, h6, h7⟩
    intro q
    rw [List.mem_singleton] at q; subst q
    rw [x.tb] at h4; cases h4; cases h5
  have hsc' : D.At (hideAll s.heap [pT]) sc (.ints script) := by
    obtain ⟨vs, n, e, i⟩ := hsc
    refine ⟨vs, n, hideAll_get _ e ?_, i⟩
    intro q
    rw [List.mem_singleton] at q; subst q
    rw [x.tb] at e; cases e
  have hm : MtOk s.heap [(pT, .obj (tabObj #[]))] := ⟨fun p hp => by rw [List.mem_singleton] at hp; subst hp; exact x.tb, by simp⟩
  have room : Room callerA 8 := ⟨rfl, by decide, by decide⟩
  refine codeAny_mono (law_ok (ad := adX w) (w := w) (prog := pw_wj0028_01) rfl x.law.isFn (baseX x lim) (clsX_ok x) mk (codeX x) hm hsc' hlen as callerA (fun v s' => R (.ok (.ret v)) s') room fun v s' mt' e hk same hat hP => ?_) fun r s' h => ?_
  · obtain ⟨rfl, ps, rfl⟩ := hP
    exact k s' ps hk (hat _ (.head _)) same
  · match r, h with
    | .ok (.ret v), h => exact h
end Mine

end

section
set_option Elab.async false
set_option linter.all false
set_option maxRecDepth 100000
set_option maxHeartbeats 8000000
set_option autoImplicit false
namespace Mine
open PySem PySem.Spec PySem.Calls PyProof.Rows PySem.W PySem.Challenge

noncomputable abbrev qv : Program := view pw_wj0028_01 [72]
noncomputable def looseN : List Str := (pw_wj0028_01.main.scope.names.map (·.1)).filter fun n => n != "law" && n != "__name__"
noncomputable abbrev topS (P : Params) (os : OsState) : Shared := ⟨boot_heap P, Array.mk [], boot_drawn, boot_toks, os⟩
noncomputable abbrev xtX : Shared → Bool := fun s => xlAt qv [] s && recOk (rw_wj0028_01.row.toRowW.records) s
theorem topEnds0 : (fun (w : World) (os : OsState) => (topFrom treeTable pw_wj0028_01 (w.withFollow "special-get-raises" false) 4800 (topS w.params os)).map (fun s => (openSeen qv looseN (importedModules pw_wj0028_01.main.body) xtX true s, obsX s))) = fun w _ => some (openGood qv looseN, wantX (w.withFollow "special-get-raises" false)) := by
  unfold topFrom; rw [PySem.W.Fast.te14082659384304107361]; kernel_rfl
theorem topEnds1 : (fun (w : World) (os : OsState) => (topFrom treeTable pw_wj0028_01 (w.withFollow "special-get-raises" true) 4800 (topS w.params os)).map (fun s => (openSeen qv looseN (importedModules pw_wj0028_01.main.body) xtX true s, obsX s))) = fun w _ => some (openGood qv looseN, wantX (w.withFollow "special-get-raises" true)) := by
  unfold topFrom; rw [PySem.W.Fast.te14082659384304107361]; kernel_rfl
theorem openX : opening pw_wj0028_01 = plainProg pw_wj0028_01.main.scope.names := by kernel_rfl
theorem fenceX (s : Shared) : fenceModules? pw_wj0028_01 s = some s := by kernel_rfl
theorem leftX : LeftO pw_wj0028_01 qv looseN xtX obsX wantX 4800 := LeftO.of_split "special-get-raises" fun w => by
  obtain ⟨s0, h1, h2⟩ := Option.map_eq_some_iff.mp (boot_open (p := pw_wj0028_01) (N := 4800) openX rfl fenceX w)
  obtain ⟨hp, g, d, t, os⟩ := s0
  simp only [Prod.mk.injEq] at h2
  obtain ⟨rfl, rfl, rfl, rfl⟩ := h2
  rw [h1]
  exact congrArg some (Prod.ext_iff.mpr ⟨congrFun (congrFun topEnds0 w) os, congrFun (congrFun topEnds1 w) os⟩)
end Mine

end

section
set_option Elab.async false
set_option linter.all false
set_option maxRecDepth 100000
set_option maxHeartbeats 8000000
set_option autoImplicit false
namespace Mine
open PySem PySem.Spec PySem.Calls PyProof.Rows PySem.W PySem.Challenge

theorem ints_of {P : Params} {h : Heap} : ∀ {vs : List Value} {xs : List WData}, WellAll P h vs xs → (∀ x ∈ xs, ∃ i, x = .int i) → ∃ ns, IntsAre vs ns ∧ ns.length = xs.length
  | _, _, .nil, _ => ⟨[], .nil, rfl⟩
  | _, _, .cons (d := d) a b, hx => by
    obtain ⟨i, rfl⟩ := hx d (.head _)
    obtain ⟨ns, h1, h2⟩ := ints_of b fun x hx' => hx x (.tail _ hx')
    cases a with
    | int _ t => exact ⟨_, .cons i t h1, by simp [h2]⟩
theorem int_items : ∀ {xs : List WData}, WShape.hasItems [] xs .int = true → ∀ x ∈ xs, ∃ i, x = .int i
  | _ :: _, h, _, hx => (List.mem_cons.mp hx).elim (fun e => e ▸ hasW_int (Bool.and_eq_true_iff.mp h).1) (fun hx => int_items (Bool.and_eq_true_iff.mp h).2 _ hx)
theorem args_of {args : List WData} (h : WShape.hasAll [] args [.list .int] = true) : ∃ xs, args = [.list xs] ∧ ∀ x ∈ xs, ∃ i, x = .int i := by
  cases args with
  | nil => exact nomatch (show false = true from h)
  | cons d r =>
    cases r with
    | nil =>
      obtain ⟨xs, rfl, h2⟩ := hasW_list (Bool.and_eq_true_iff.mp h).1
      exact ⟨xs, rfl, int_items h2⟩
    | cons _ _ => exact nomatch (Bool.and_eq_true_iff.mp h).2
theorem pre_len {xs : List WData} (h : rw_wj0028_01.pre.holds [] { args := [.list xs] } = true) : xs.length ≤ 100000 := by
  have h : WTm.holds [] (.and (.lit (.bool (!decide ((63 : Int) < xs.length)))) (.lit (.bool true))) { args := [] } = true := h
  by_cases h63 : (63 : Int) < xs.length
  · rw [decide_eq_true h63] at h; exact nomatch (show false = true from h)
  · omega
theorem post_ok (args : List WData) : rw_wj0028_01.row.claim.post args (.bool true) args = true := by
  show (WShape.has [] (.bool true) .bool && WTm.holds [] (.eq .res (.lit (.bool true))) { args := args, res := some (.bool true), after := args }) = true
  refine Bool.and_eq_true_iff.mpr ⟨?_, ?_⟩
  · rfl
  · show (match some (WData.bool (PySem.W.same (.bool true) (.bool true))) with | some (.bool true) => true | _ => false) = true
    rw [PySem.W.same_self]
theorem holdsX (said : rw_wj0028_01.row.wellSaid = true) : rw_wj0028_01.row.Holds := by
  refine holds_open (r := rw_wj0028_01.row) (q := qv) (loose := looseN) (Xt := xtX) (XP := XL qv []) (Yf := obsX) (Ya := wantX) (YP := SaysX) (N := 4800) leftX saysX_of (fun _ _ _ x k => x.keeps k) (fun s e => xl_of s (Bool.and_eq_true_iff.mp e).1) XL.keeps (by rfl) (by rfl) (by rfl) (fun s e => recFacts_of (Bool.and_eq_true_iff.mp e).2) rfl said (by decide +kernel) ⟨rfl, rfl, rfl, rfl, rfl, by decide +kernel⟩ ?hw ?hc
  case hw => w_witness2
  case hc =>
    intro w s₀ s₁ mg mb G Y a o pm cd doc dV kV ho hd hcd hD hmg hg args vals as hpre hlay hrd hwl hlo
    clear ho hd hcd hD hlay hrd hlo
    have hp := Bool.and_eq_true_iff.mp hpre
    obtain ⟨xs, rfl, hx⟩ := args_of hp.1
    have hle := pre_len hp.2
    cases hwl with
    | cons hw1 hwr =>
      cases hwr
      cases hw1
      rename_i sc its hl hits
      obtain ⟨ns, hi, hlen⟩ := ints_of hits hx
      rw [← hlen] at hle
      refine wpAny_call ?_
      obtain ⟨bm, ob, b1, b2, b4, b5, b6, b7⟩ := G.T.bmain
      have b3 : bm ≠ mainGlobals := by
        rintro rfl
        obtain ⟨o', es, ep, e1, e2, _⟩ := G.T.g
        rw [b4] at e1; cases e1
        rw [b7] at e2; cases e2
      refine law_whole (script := ns) Y G.T.nolimit mg G.T.g ⟨bm, ob, b1, b2, b3, b4, b5, b6, b7⟩ hmg ⟨its, 0, hl, hi⟩ hle (plain _) fun s' ps hk hP same => ?_
      have he : s'.heap.get? pT = some (tabObj ps) := hP
      refine ⟨.inl ⟨.bool true, .bool true, [], rfl, fun _ => rfl, .bool true, post_ok _, fun _ => ⟨List.nodup_nil, fun a ha => nomatch ha⟩⟩, ⟨fun b o e => ?_, fun b o e => ?_⟩, same.2.1, .of_eq (same.1.trans hg)⟩
      · by_cases hb : b = pT
        · subst hb
          rw [Y.tb] at e; cases e
          exact .inr (.inl ⟨(Y.code.tab Y.tb).isCodeTable, rfl, #[], ps, rfl, by rw [Array.empty_append]; exact hP⟩)
        · exact .inl (hk b o (hideAll_get _ e (by simpa using hb)))
      · by_cases hb : b = pT
        · subst hb; exact ⟨_, hP⟩
        · exact ⟨o, hk b o (hideAll_get _ e (by simpa using hb))⟩
end Mine

end


namespace Mine
theorem wsx : PySem.Challenge.rw_wj0028_01.wellSaid = true := by kernel_rfl
end Mine

theorem PySem.Challenge.cw_wj0028_01_holds : PySem.Challenge.rw_wj0028_01.Holds := by
  exact PySem.W.holds_law Mine.wsx Mine.holdsX
