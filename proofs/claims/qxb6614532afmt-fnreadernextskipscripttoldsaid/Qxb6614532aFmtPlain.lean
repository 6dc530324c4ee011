import Derived.Laws.BitsAllLaws
namespace Go.Proofs.Qxb6614532aFmt

/-- The number whose groups of seven bits are f 0 .. f (m-1), the least first. -/
def valTo (f : Nat → Nat) : Nat → Nat
  | 0 => 0
  | m + 1 => valTo f m + f m % 128 * 128 ^ m
/-- The same, m groups from j on. -/
def hiTo (f : Nat → Nat) (j : Nat) : Nat → Nat
  | 0 => 0
  | m + 1 => f j % 128 + 128 * hiTo f (j + 1) m

theorem valTo_lt (f : Nat → Nat) (m : Nat) : valTo f m < 128 ^ m := by
  induction m with
  | zero => simp [valTo]
  | succ m ih =>
    simp only [valTo, Nat.pow_succ]
    have h1 : f m % 128 ≤ 127 := by omega
    have h2 : f m % 128 * 128 ^ m ≤ 127 * 128 ^ m := Nat.mul_le_mul_right _ h1
    omega
theorem hiTo_snoc (f : Nat → Nat) (j m : Nat) : hiTo f j (m + 1) = hiTo f j m + f (j + m) % 128 * 128 ^ m := by
  induction m generalizing j with
  | zero => simp [hiTo]
  | succ m ih =>
    rw [hiTo, ih (j + 1), hiTo]
    have e : j + 1 + m = j + (m + 1) := by omega
    rw [e, Nat.pow_succ]
    have : 128 * (f (j + (m + 1)) % 128 * 128 ^ m) = f (j + (m + 1)) % 128 * (128 ^ m * 128) := by
      rw [Nat.mul_comm (128 ^ m) 128, Nat.mul_left_comm]
    omega
theorem hiTo_val (f : Nat → Nat) (m : Nat) : hiTo f 0 m = valTo f m := by
  induction m with
  | zero => rfl
  | succ m ih => rw [hiTo_snoc, ih, valTo, Nat.zero_add]
theorem hiTo_lt (f : Nat → Nat) (j m : Nat) : hiTo f j m < 128 ^ m := by
  induction m generalizing j with
  | zero => simp [hiTo]
  | succ m ih =>
    simp only [hiTo, Nat.pow_succ]
    have := ih (j + 1)
    omega
theorem pow128_63 (m : Nat) (h : m ≤ 9) : 128 ^ m ≤ 9223372036854775808 := by
  have : 128 ^ m ≤ 128 ^ 9 := Nat.pow_le_pow_right (by omega) h
  omega
/-- A head that ends at its tenth byte, which is at most 1, fits. -/
theorem valTo_u64 (f : Nat → Nat) (e : Nat) (he : e < 10) (h9 : ¬ (e = 9 ∧ 1 < f 9)) (hf : f e < 128) : valTo f (e + 1) < 18446744073709551616 := by
  by_cases h : e = 9
  · subst h
    simp only [valTo]
    have h1 := valTo_lt f 9
    simp only [valTo] at h1
    have h2 : f 9 ≤ 1 := by omega
    have h3 : f 9 % 128 ≤ 1 := by omega
    have h4 : f 9 % 128 * 128 ^ 9 ≤ 1 * 128 ^ 9 := Nat.mul_le_mul_right _ h3
    omega
  · have := valTo_lt f (e + 1)
    have := pow128_63 (e + 1) (by omega)
    omega
theorem hiTo_u64 (f : Nat → Nat) (e j : Nat) (hj : j ≤ e) (he : e < 10) (h9 : ¬ (e = 9 ∧ 1 < f 9)) (hf : f e < 128) : hiTo f j (e + 1 - j) < 18446744073709551616 := by
  by_cases h : j = 0
  · subst h; rw [hiTo_val]; exact valTo_u64 f e he h9 hf
  · have := hiTo_lt f j (e + 1 - j)
    have := pow128_63 (e + 1 - j) (by omega)
    omega
theorem hiTo_step (f : Nat → Nat) (e j : Nat) (hj : j ≤ e) : hiTo f j (e + 1 - j) = f j % 128 + 128 * hiTo f (j + 1) (e - j) := by
  have h1 : e + 1 - j = (e - j) + 1 := by omega
  rw [h1, hiTo]

/-- 'b & 0x7f'. -/
theorem and7 (x : Nat) (h : x < 256) : bits .and .u8 (x : Int) 127 = ((x % 128 : Nat) : Int) := by
  have := u8_and_nat x 127 h (by omega)
  rw [show ((127 : Nat) : Int) = 127 from rfl] at this
  rw [this]
  have e : x &&& 127 = x % 128 := Nat.and_two_pow_sub_one_eq_mod x 7
  rw [e]
/-- 'v<<7 | b'. -/
theorem or7 (v b : Nat) (hb : b < 128) (hv : v * 128 + b < 18446744073709551616) : bits .or .u64 ((v : Int) * 128) (b : Int) = ((b + 128 * v : Nat) : Int) := by
  have e : (v : Int) * 128 = ((v * 128 : Nat) : Int) := by omega
  rw [e, u64_or_nat _ _ (by omega) (by omega)]
  have hj : v * 128 ||| b = v * 128 + b := nat_join 7 (v * 128) b (by omega) (by omega)
  rw [hj]
  omega
/-- 'x | b<<s' where x lies below the s-th bit. -/
theorem orShift (x b m : Nat) (hx : x < 128 ^ m) (h : x + b * 128 ^ m < 18446744073709551616) : bits .or .u64 (x : Int) (IntKind.u64.wrap ((b : Int) * 2 ^ (7 * m))) = ((x + b * 128 ^ m : Nat) : Int) := by
  have e2 : (2 : Nat) ^ (7 * m) = 128 ^ m := by rw [Nat.pow_mul]
  have e1 : (b : Int) * 2 ^ (7 * m) = ((b * 128 ^ m : Nat) : Int) := by
    rw [← e2]; simp
  rw [e1, IntKind.wrap_u64]
  have e3 : ((b * 128 ^ m : Nat) : Int) % 18446744073709551616 = ((b * 128 ^ m : Nat) : Int) := by
    generalize b * 128 ^ m = q at *
    omega
  rw [e3, u64_or_nat _ _ (by omega) (by omega)]
  have hj : b * 128 ^ m ||| x = b * 128 ^ m + x := nat_join (7 * m) (b * 128 ^ m) x (by rw [e2]; exact Nat.mul_mod_left _ _) (by rw [e2]; exact hx)
  rw [Nat.or_comm, hj]
  omega
end Go.Proofs.Qxb6614532aFmt
