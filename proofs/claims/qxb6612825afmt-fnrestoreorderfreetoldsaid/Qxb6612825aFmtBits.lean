/-
  THE BITS THAT THE BLOCK's TEXT USES: &^ 0x8000, & 0x8000, << 8 |.
-/
import Derived.Laws.BitsLemmas
import Derived.Lib.EndianBits
namespace Go.Proofs.Qxb6612825aFmt

theorem i64_or_byte (x y : Int) (hx0 : 0 ≤ x) (hx : x % 256 = 0) (hx1 : x < 65536) (hy0 : 0 ≤ y) (hy : y < 256) : bits .or .i64 x y = x + y :=
  bits_join .i64 16 (by decide) (fun n h0 h1 => by rw [IntKind.wrap_i64]; omega) 8 x y hx0 hx hx1 hy0 hy (by omega)

theorem ofInt_nat (n : Nat) (h : n < 65536) : (BitVec.ofInt 64 (n : Int)).toNat = n := by
  rw [BitVec.toNat_ofInt]
  omega

theorem bit15 (n : Nat) (h : n < 65536) : n.testBit 15 = decide (32768 ≤ n) := by
  rw [Nat.testBit_eq_decide_div_mod_eq]
  have : n / 2 ^ 15 % 2 = 1 ↔ 32768 ≤ n := by omega
  simp only [this]

theorem i64_and_top (n : Nat) (h : n < 65536) : bits .and .i64 (n : Int) 32768 = if 32768 ≤ n then 32768 else 0 := by
  have hm : (BitVec.ofInt 64 32768).toNat = 2 ^ 15 := by decide
  have key : (BitVec.ofInt 64 (n : Int) &&& BitVec.ofInt 64 32768).toNat = if 32768 ≤ n then 32768 else 0 := by
    rw [BitVec.toNat_and, ofInt_nat n h, hm]
    apply Nat.eq_of_testBit_eq
    intro i
    rw [Nat.testBit_and, Nat.testBit_two_pow]
    by_cases h2 : 15 = i
    · subst h2
      rw [bit15 n h]
      by_cases h' : 32768 ≤ n
      · rw [if_pos h', show (32768 : Nat) = 2 ^ 15 from rfl, Nat.testBit_two_pow_self]; simp [h']
      · rw [if_neg h']; simp [h']
    · by_cases h' : 32768 ≤ n
      · rw [if_pos h', show (32768 : Nat) = 2 ^ 15 from rfl, Nat.testBit_two_pow]; simp [h2]
      · rw [if_neg h']; simp [h2]
  show IntKind.i64.wrap ((BitVec.ofInt 64 (n : Int) &&& BitVec.ofInt 64 32768).toNat : Nat) = _
  rw [key, IntKind.wrap_i64]
  split <;> omega

theorem i64_andNot_top (n : Nat) (h : n < 65536) : bits .andNot .i64 (n : Int) 32768 = ((n % 32768 : Nat) : Int) := by
  have key : (BitVec.ofInt 64 (n : Int) &&& ~~~ BitVec.ofInt 64 32768).toNat = n % 32768 := by
    have e1 : BitVec.ofInt 64 (n : Int) = BitVec.ofNat 64 n := by simp
    have e2 : BitVec.ofInt 64 32768 = BitVec.ofNat 64 (2 ^ 15) := by decide
    rw [e1, e2]
    apply Nat.eq_of_testBit_eq
    intro i
    rw [BitVec.testBit_toNat, show (32768 : Nat) = 2 ^ 15 from rfl, Nat.testBit_mod_two_pow]
    simp only [BitVec.getLsbD_and, BitVec.getLsbD_not, BitVec.getLsbD_ofNat, Nat.testBit_two_pow]
    by_cases h1 : i < 15
    · have : ¬ 15 = i := by omega
      simp [h1, this, (by omega : i < 64)]
    · by_cases h2 : i = 15
      · subst h2; simp
      · have hf : n.testBit i = false := Nat.testBit_lt_two_pow (Nat.lt_of_lt_of_le h (by
          have : 2 ^ 16 ≤ 2 ^ i := Nat.pow_le_pow_right (by omega) (by omega)
          omega))
        simp [hf]
  show IntKind.i64.wrap ((BitVec.ofInt 64 (n : Int) &&& ~~~ BitVec.ofInt 64 32768).toNat : Nat) = _
  rw [key, IntKind.wrap_i64]
  omega
end Go.Proofs.Qxb6612825aFmt
