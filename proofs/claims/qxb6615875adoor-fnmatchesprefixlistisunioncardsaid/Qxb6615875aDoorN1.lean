import Derived.Laws.BitsLemmas
import Derived.Lib.Endian
import Derived.Lib.EndianBits
namespace Go.Proofs.Qxb6615875aDoor

/-- Bit i of a row of bytes, the first byte's highest bit first. -/
def bitOf (b : Nat → UInt8) (i : Nat) : Bool := (b (i / 8)).toNat.testBit (7 - i % 8)
/-- The first m bytes as a number, the first byte highest. -/
def beN (b : Nat → UInt8) : Nat → Nat
  | 0 => 0
  | m + 1 => beN b m * 256 + (b m).toNat
theorem beN_lt (b : Nat → UInt8) (m : Nat) : beN b m < 2 ^ (8 * m) := by
  induction m with
  | zero => simp [beN]
  | succ m ih =>
    have h := (b m).toNat_lt
    have e : (2 : Nat) ^ (8 * (m + 1)) = 2 ^ (8 * m) * 256 := by rw [Nat.mul_succ, Nat.pow_add]
    rw [beN, e]
    omega
theorem beN_bit (b : Nat → UInt8) (m : Nat) : ∀ i, i < 8 * m → (beN b m).testBit (8 * m - 1 - i) = bitOf b i := by
  induction m with
  | zero => intro i hi; omega
  | succ m ih =>
    intro i hi
    have h := (b m).toNat_lt
    have e : beN b (m + 1) = 2 ^ 8 * beN b m + (b m).toNat := by rw [beN]; omega
    rw [e, Nat.testBit_two_pow_mul_add _ (show (b m).toNat < 2 ^ 8 by omega)]
    by_cases hc : 8 * m ≤ i
    · rw [if_pos (by omega)]
      unfold bitOf
      rw [show i / 8 = m by omega, show 8 * (m + 1) - 1 - i = 7 - i % 8 by omega]
    · rw [if_neg (by omega), show 8 * (m + 1) - 1 - i - 8 = 8 * m - 1 - i by omega]
      exact ih i (by omega)

/-- Two rows of bytes agree on the first n bits just where the difference of the numbers lies below. -/
theorem agree_iff (a p : Nat → UInt8) (m n : Nat) (hn : n ≤ 8 * m) : (beN a m ^^^ beN p m) < 2 ^ (8 * m - n) ↔ ∀ i, i < n → bitOf p i = bitOf a i := by
  constructor
  · intro h i hi
    have := Nat.testBit_lt_two_pow (i := 8 * m - 1 - i) (Nat.lt_of_lt_of_le h (Nat.pow_le_pow_right (by decide) (by omega)))
    rw [Nat.testBit_xor, beN_bit a m i (by omega), beN_bit p m i (by omega)] at this
    revert this
    cases bitOf p i <;> cases bitOf a i <;> simp
  · intro h
    refine Nat.lt_pow_two_of_testBit _ fun j hj => ?_
    rw [Nat.testBit_xor]
    by_cases hc : 8 * m ≤ j
    · rw [Nat.testBit_lt_two_pow (Nat.lt_of_lt_of_le (beN_lt a m) (Nat.pow_le_pow_right (by decide) hc)), Nat.testBit_lt_two_pow (Nat.lt_of_lt_of_le (beN_lt p m) (Nat.pow_le_pow_right (by decide) hc))]
      rfl
    · have e := h (8 * m - 1 - j) (by omega)
      have ea := beN_bit a m (8 * m - 1 - j) (by omega)
      have ep := beN_bit p m (8 * m - 1 - j) (by omega)
      rw [show 8 * m - 1 - (8 * m - 1 - j) = j by omega] at ea ep
      rw [ea, ep, e]
      simp

def agree (p a : Nat → UInt8) (n : Nat) : Bool := decide (∀ i, i < n → bitOf p i = bitOf a i)
/-- Is the address held? -/
def hold (pis4 : Bool) (p : Nat → UInt8) (n : Int) (is4 : Bool) (a : Nat → UInt8) : Bool :=
  (decide (0 ≤ n ∧ n ≤ (if pis4 then 32 else 128))) && ((pis4 == is4) && agree p a n.toNat)

theorem bits_xor_nat (a b : Nat) (ha : a < 2 ^ 64) (hb : b < 2 ^ 64) : bits .xor .u64 a b = ((a ^^^ b : Nat) : Int) := by
  have ha' : a % 2 ^ 64 = a := Nat.mod_eq_of_lt ha
  have hb' : b % 2 ^ 64 = b := Nat.mod_eq_of_lt hb
  have e : IntKind.u64.bits = 64 := rfl
  simp only [bits, BitVec.ofInt_natCast, BitVec.toNat_xor, BitVec.toNat_ofNat, e, ha', hb']
  exact wraps_u64 _ (Int.natCast_nonneg _) (by exact_mod_cast Nat.xor_lt_two_pow ha hb)
theorem bits_and_nat (a b : Nat) (ha : a < 2 ^ 64) (hb : b < 2 ^ 64) : bits .and .u64 a b = ((a &&& b : Nat) : Int) := (bits_nat .u64 64 (by decide) wraps_u64 a b ha hb).1
theorem bits_or_nat (a b : Nat) (ha : a < 2 ^ 64) (hb : b < 2 ^ 64) : bits .or .u64 a b = ((a ||| b : Nat) : Int) := (bits_nat .u64 64 (by decide) wraps_u64 a b ha hb).2

/-- A number with nothing but its t lowest bits out of 64. -/
theorem and_high (x t : Nat) (hx : x < 2 ^ 64) (ht : t ≤ 64) : x &&& (2 ^ 64 - 2 ^ t) = 0 ↔ x < 2 ^ t := by
  have e : 2 ^ 64 - 2 ^ t = 2 ^ t * (2 ^ (64 - t) - 1) := by
    rw [Nat.mul_sub, ← Nat.pow_add, Nat.mul_one, show t + (64 - t) = 64 by omega]
  have hb : ∀ j, (2 ^ 64 - 2 ^ t).testBit j = (decide (t ≤ j) && decide (j < 64)) := by
    intro j
    rw [e, Nat.testBit_two_pow_mul, Nat.testBit_two_pow_sub_one]
    by_cases h : t ≤ j
    · simp only [ge_iff_le, h, decide_true, Bool.true_and]
      congr 1
      exact propext ⟨fun _ => by omega, fun _ => by omega⟩
    · simp [h]
  constructor
  · intro h
    refine Nat.lt_pow_two_of_testBit _ fun j hj => ?_
    have h1 : (x &&& (2 ^ 64 - 2 ^ t)).testBit j = false := by rw [h]; exact Nat.zero_testBit j
    rw [Nat.testBit_and, hb] at h1
    by_cases h64 : j < 64
    · simpa [hj, h64] using h1
    · exact Nat.testBit_lt_two_pow (Nat.lt_of_lt_of_le hx (Nat.pow_le_pow_right (by decide) (by omega)))
  · intro h
    refine Nat.eq_of_testBit_eq fun j => ?_
    rw [Nat.zero_testBit, Nat.testBit_and, hb]
    by_cases hj : t ≤ j
    · rw [Nat.testBit_lt_two_pow (Nat.lt_of_lt_of_le h (Nat.pow_le_pow_right (by decide) hj)), Bool.false_and]
    · simp [hj]
theorem or_zero (x y : Nat) : x ||| y = 0 ↔ x = 0 ∧ y = 0 := by
  constructor
  · intro h
    have hb : ∀ j, (x.testBit j || y.testBit j) = false := fun j => by rw [← Nat.testBit_or, h, Nat.zero_testBit]
    exact ⟨Nat.eq_of_testBit_eq fun j => by rw [Nat.zero_testBit]; exact (Bool.or_eq_false_iff.1 (hb j)).1, Nat.eq_of_testBit_eq fun j => by rw [Nat.zero_testBit]; exact (Bool.or_eq_false_iff.1 (hb j)).2⟩
  · rintro ⟨rfl, rfl⟩; rfl

/-! ### The fourth family -/
theorem xor4 (a p : Nat) (ha : a < 2 ^ 32) (hp : p < 2 ^ 32) : (281470681743360 + a) ^^^ (281470681743360 + p) = a ^^^ p := by
  refine Nat.eq_of_testBit_eq fun j => ?_
  have e : ∀ x : Nat, 281470681743360 + x = 2 ^ 32 * 65535 + x := fun x => by omega
  rw [Nat.testBit_xor, Nat.testBit_xor, e a, e p, Nat.testBit_two_pow_mul_add _ ha, Nat.testBit_two_pow_mul_add _ hp]
  by_cases h : j < 32
  · simp [h]
  · rw [if_neg h, if_neg h, Nat.testBit_lt_two_pow (Nat.lt_of_lt_of_le ha (Nat.pow_le_pow_right (by decide) (by omega))), Nat.testBit_lt_two_pow (Nat.lt_of_lt_of_le hp (Nat.pow_le_pow_right (by decide) (by omega)))]
    simp
theorem div_zero (x t : Nat) : x / 2 ^ t = 0 ↔ x < 2 ^ t := by
  rw [Nat.div_eq_zero_iff]
  constructor
  · rintro (h | h)
    · exact absurd h (Nat.ne_of_gt (Nat.two_pow_pos t))
    · exact h
  · exact .inr
/-- What Contains reckons for two addresses of the fourth family. -/
theorem four (a p : Nat → UInt8) (n : Nat) (hn : n ≤ 32) : (IntKind.u32.wrap ((bits .xor .u64 (281470681743360 + (beN a 4 : Int)) (281470681743360 + (beN p 4 : Int))) / 2 ^ (32 - n)) == 0) = agree p a n := by
  have ha := beN_lt a 4
  have hp := beN_lt p 4
  have e : ∀ x : Nat, (281470681743360 + (x : Int)) = ((281470681743360 + x : Nat) : Int) := fun x => by omega
  rw [e, e, bits_xor_nat _ _ (by omega) (by omega), xor4 _ _ (by omega) (by omega)]
  have e2 : (((beN a 4 ^^^ beN p 4 : Nat) : Int) / 2 ^ (32 - n)) = (((beN a 4 ^^^ beN p 4) / 2 ^ (32 - n) : Nat) : Int) := by simp
  have hx : beN a 4 ^^^ beN p 4 < 2 ^ 32 := Nat.xor_lt_two_pow ha hp
  rw [e2, wraps_u32 _ (Int.natCast_nonneg _) (by exact_mod_cast Nat.lt_of_le_of_lt (Nat.div_le_self _ _) hx)]
  have h := agree_iff a p 4 n hn
  rw [← div_zero] at h
  unfold agree
  rw [Bool.eq_iff_iff]
  simp only [beq_iff_eq, decide_eq_true_eq]
  rw [← h]
  exact ⟨fun q => by exact_mod_cast q, fun q => by exact_mod_cast q⟩

/-! ### The sixth -/
theorem bit_hi (b : Nat → UInt8) (i : Nat) : bitOf (fun j => b (8 + j)) i = bitOf b (64 + i) := by
  unfold bitOf
  rw [show (64 + i) / 8 = 8 + i / 8 by omega, show (64 + i) % 8 = i % 8 by omega]
/-- The two masks. -/
def mhi (n : Nat) : Nat := 2 ^ 64 - 2 ^ (64 - min n 64)
def mlo (n : Nat) : Nat := 2 ^ 64 - 2 ^ (min (128 - n) 64)
theorem six (a p : Nat → UInt8) (n : Nat) (hn : n ≤ 128) :
    (bits .or .u64 (bits .and .u64 (bits .xor .u64 (beN a 8 : Int) (beN p 8 : Int)) (mhi n : Int)) (bits .and .u64 (bits .xor .u64 (beN (fun j => a (8 + j)) 8 : Int) (beN (fun j => p (8 + j)) 8 : Int)) (mlo n : Int)) == 0) = agree p a n := by
  have ha := beN_lt a 8
  have hp := beN_lt p 8
  have ha' := beN_lt (fun j => a (8 + j)) 8
  have hp' := beN_lt (fun j => p (8 + j)) 8
  have hmh : mhi n < 2 ^ 64 := Nat.sub_lt (by decide) (Nat.two_pow_pos _)
  have hml : mlo n < 2 ^ 64 := Nat.sub_lt (by decide) (Nat.two_pow_pos _)
  rw [bits_xor_nat _ _ ha hp, bits_xor_nat _ _ ha' hp', bits_and_nat _ _ (Nat.xor_lt_two_pow ha hp) hmh, bits_and_nat _ _ (Nat.xor_lt_two_pow ha' hp') hml,
    bits_or_nat _ _ (Nat.and_lt_two_pow _ hmh) (Nat.and_lt_two_pow _ hml)]
  have h1 := agree_iff a p 8 (min n 64) (by omega)
  have h2 := agree_iff (fun j => a (8 + j)) (fun j => p (8 + j)) 8 (n - 64) (by omega)
  rw [show 8 * 8 - min n 64 = 64 - min n 64 by omega, ← and_high _ _ (Nat.xor_lt_two_pow ha hp) (by omega)] at h1
  rw [show 8 * 8 - (n - 64) = min (128 - n) 64 by omega, ← and_high _ _ (Nat.xor_lt_two_pow ha' hp') (by omega)] at h2
  unfold agree
  rw [Bool.eq_iff_iff]
  simp only [beq_iff_eq, decide_eq_true_eq]
  have key : ((beN a 8 ^^^ beN p 8) &&& mhi n) ||| ((beN (fun j => a (8 + j)) 8 ^^^ beN (fun j => p (8 + j)) 8) &&& mlo n) = 0 ↔ ∀ i, i < n → bitOf p i = bitOf a i := by
    unfold mhi mlo
    rw [or_zero, h1, h2]
    constructor
    · rintro ⟨q1, q2⟩ i hi
      by_cases hc : i < 64
      · exact q1 i (by omega)
      · have := q2 (i - 64) (by omega)
        rw [bit_hi, bit_hi, show 64 + (i - 64) = i by omega] at this
        exact this
    · intro q
      refine ⟨fun i hi => q i (by omega), fun i hi => ?_⟩
      rw [bit_hi, bit_hi]
      exact q (64 + i) (by omega)
  rw [← key]
  exact ⟨fun q => by exact_mod_cast q, fun q => by exact_mod_cast q⟩
end Go.Proofs.Qxb6615875aDoor
