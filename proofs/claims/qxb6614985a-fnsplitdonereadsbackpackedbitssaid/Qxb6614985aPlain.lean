import Derived.Laws.BitsAllLaws
namespace Go.Proofs.Qxb6614985a

/-- 'x & (1 << k) != 0' is bit k. -/
theorem done_bit (x k : Nat) (hx : x < 18446744073709551616) (hk : k < 64) :
    (bits .and .u64 (x : Int) (IntKind.u64.wrap (2 ^ k)) != 0) = x.testBit k := by
  have hp : 2 ^ k < 18446744073709551616 := by
    have : 2 ^ k < 2 ^ 64 := Nat.pow_lt_pow_right (by omega) hk
    omega
  have e : IntKind.u64.wrap (2 ^ k) = ((2 ^ k : Nat) : Int) := by
    have e2 : ((2 ^ k : Nat) : Int) = (2 : Int) ^ k := by simp
    rw [IntKind.wrap_u64, ← e2]
    generalize 2 ^ k = q at hp
    omega
  rw [e, u64_and_nat x (2 ^ k) hx hp]
  rw [Bool.eq_iff_iff, bne_iff_ne]
  constructor
  · intro h
    cases hb : x.testBit k
    · exfalso
      apply h
      have : x &&& 2 ^ k = 0 := by
        apply Nat.eq_of_testBit_eq
        intro i
        rw [Nat.testBit_and, Nat.testBit_two_pow]
        by_cases hi : k = i
        · subst hi; simp [hb]
        · simp [hi]
      rw [this]; rfl
    · rfl
  · intro hb h
    have h0 : x &&& 2 ^ k = 0 := by omega
    have := congrArg (fun n => n.testBit k) h0
    simp [Nat.testBit_and, hb] at this

/-- The word after s steps of the packing loop over flags f (flag 63 first). -/
def acc (f : Nat → Bool) : Nat → Nat
  | 0 => 0
  | s + 1 => 2 * acc f s + (f (63 - s)).toNat

theorem acc_lt (f : Nat → Bool) (s : Nat) : acc f s < 2 ^ s := by
  induction s with
  | zero => simp [acc]
  | succ s ih =>
    simp only [acc]
    have : (f (63 - s)).toNat ≤ 1 := Bool.toNat_le _
    rw [Nat.pow_succ]
    omega

theorem acc_lt64 (f : Nat → Bool) (s : Nat) (h : s ≤ 64) : acc f s < 18446744073709551616 := by
  have := acc_lt f s
  have h2 : 2 ^ s ≤ 2 ^ 64 := Nat.pow_le_pow_right (by omega) h
  omega

theorem acc_lt63 (f : Nat → Bool) (s : Nat) (h : s ≤ 63) : acc f s ≤ 9223372036854775807 := by
  have := acc_lt f s
  have h2 : 2 ^ s ≤ 2 ^ 63 := Nat.pow_le_pow_right (by omega) h
  omega

theorem acc_bit (f : Nat → Bool) (s : Nat) (hs : s ≤ 64) (m : Nat) (hm : m < s) : (acc f s).testBit m = f (64 - s + m) := by
  induction s generalizing m with
  | zero => omega
  | succ s ih =>
    simp only [acc]
    match m with
    | 0 =>
      have e : 64 - (s + 1) + 0 = 63 - s := by omega
      rw [e]
      cases f (63 - s)
      · simp
      · simp only [Bool.toNat_true, Nat.testBit_zero, decide_eq_true_eq]
        omega
    | m + 1 =>
      have e : 64 - (s + 1) + (m + 1) = 64 - s + m := by omega
      rw [e, ← ih (by omega) m (by omega), Nat.testBit_succ]
      congr 1
      have : (f (63 - s)).toNat ≤ 1 := Bool.toNat_le _
      omega

/-- The number of ones among the first n bits. -/
def pop : Nat → Nat → Nat
  | 0, _ => 0
  | n + 1, w => w % 2 + pop n (w / 2)

theorem pop_le (n w : Nat) : pop n w ≤ n := by
  induction n generalizing w with
  | zero => simp [pop]
  | succ n ih =>
    simp only [pop]
    have := ih (w / 2)
    omega

theorem pop_zero (n : Nat) : pop n 0 = 0 := by
  induction n with
  | zero => rfl
  | succ n ih => simp [pop, ih]

theorem and_two (a b c d : Nat) (hc : c < 2) (hd : d < 2) : (2 * a + c) &&& (2 * b + d) = 2 * (a &&& b) + (c &&& d) := by
  apply Nat.eq_of_testBit_eq
  intro i
  have hcd : c &&& d < 2 := Nat.lt_of_le_of_lt Nat.and_le_left hc
  cases i with
  | zero =>
    rw [Nat.testBit_and]
    simp only [Nat.testBit_zero]
    have e1 : (2 * a + c) % 2 = c := by omega
    have e2 : (2 * b + d) % 2 = d := by omega
    have e3 : (2 * (a &&& b) + (c &&& d)) % 2 = (c &&& d) := by omega
    rw [e1, e2, e3]
    have : c = 0 ∨ c = 1 := by omega
    have : d = 0 ∨ d = 1 := by omega
    rcases ‹c = 0 ∨ c = 1› with rfl | rfl <;> rcases ‹d = 0 ∨ d = 1› with rfl | rfl <;> rfl
  | succ i =>
    rw [Nat.testBit_and]
    simp only [Nat.testBit_succ]
    have e1 : (2 * a + c) / 2 = a := by omega
    have e2 : (2 * b + d) / 2 = b := by omega
    have e3 : (2 * (a &&& b) + (c &&& d)) / 2 = (a &&& b) := by omega
    rw [e1, e2, e3, Nat.testBit_and]

theorem pop_step (n w : Nat) (hw : w < 2 ^ n) (h0 : w ≠ 0) : pop n (w &&& (w - 1)) + 1 = pop n w := by
  induction n generalizing w with
  | zero => simp at hw; omega
  | succ n ih =>
    simp only [pop]
    rw [Nat.pow_succ] at hw
    by_cases hodd : w % 2 = 1
    · obtain ⟨a, rfl⟩ : ∃ a, w = 2 * a + 1 := ⟨w / 2, by omega⟩
      have e : (2 * a + 1) &&& (2 * a + 1 - 1) = 2 * a := by
        have := and_two a a 1 0 (by omega) (by omega)
        simpa using this
      rw [e]
      have e1 : 2 * a / 2 = a := by omega
      have e2 : (2 * a + 1) / 2 = a := by omega
      rw [e1, e2]
      omega
    · obtain ⟨a, rfl⟩ : ∃ a, w = 2 * a := ⟨w / 2, by omega⟩
      have ha : a ≠ 0 := by omega
      have e : (2 * a) &&& (2 * a - 1) = 2 * (a &&& (a - 1)) := by
        have := and_two a (a - 1) 0 1 (by omega) (by omega)
        have e3 : 2 * (a - 1) + 1 = 2 * a - 1 := by omega
        rw [e3] at this
        simpa using this
      rw [e]
      have e1 : 2 * (a &&& (a - 1)) / 2 = (a &&& (a - 1)) := by omega
      have e2 : 2 * a / 2 = a := by omega
      rw [e1, e2]
      have := ih a (by omega) ha
      omega

/-- The ones found among bits 0 .. k-1. -/
def ones (w : Nat) : Nat → Nat
  | 0 => 0
  | k + 1 => ones w k + (w.testBit k).toNat

theorem ones_le (w k : Nat) : ones w k ≤ k := by
  induction k with
  | zero => simp [ones]
  | succ k ih =>
    simp only [ones]
    have : (w.testBit k).toNat ≤ 1 := Bool.toNat_le _
    omega

theorem ones_succ_left (w k : Nat) : ones w (k + 1) = w % 2 + ones (w / 2) k := by
  induction k with
  | zero =>
    simp only [ones, Nat.testBit_zero]
    have : w % 2 = 0 ∨ w % 2 = 1 := by omega
    rcases this with h | h <;> simp [h]
  | succ k ih =>
    rw [ones, ih]
    simp only [ones, Nat.testBit_succ]
    omega

theorem ones_pop (k w : Nat) : ones w k = pop k w := by
  induction k generalizing w with
  | zero => rfl
  | succ k ih => rw [ones_succ_left, ih, pop]

theorem and_pred_lt (w : Nat) (h : w ≠ 0) : (w &&& (w - 1)) < w := by
  have : (w &&& (w - 1)) ≤ w - 1 := Nat.and_le_right
  omega

/-- 'w & (w - 1)' as the walk writes it. -/
theorem and_pred (w : Nat) (h : w ≠ 0) (hw : w < 18446744073709551616) : bits .and .u64 (w : Int) ((w : Int) - 1) = ((w &&& (w - 1) : Nat) : Int) := by
  have e : (w : Int) - 1 = ((w - 1 : Nat) : Int) := by omega
  rw [e, u64_and_nat w (w - 1) hw (by omega)]

end Go.Proofs.Qxb6614985a
