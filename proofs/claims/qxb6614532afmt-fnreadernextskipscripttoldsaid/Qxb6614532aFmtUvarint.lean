import Derived.Test.Qxb6614532aFmtWant
namespace Go.Proofs.Qxb6614532aFmt
open Go.RowKit
set_option linter.unusedVariables false
theorem ret2 {a b a' b' : Value} (h1 : a = a') (h2 : b = b') : Ending.returned (.tuple #[a, b]) = .returned (.tuple #[a', b']) := by rw [h1, h2]
section
variable {w : World} {ad : Option Addr} {n b o c e : Nat} {f : Nat → Nat}

set_option maxRecDepth 100000 in
set_option maxHeartbeats 1000000 in
theorem uvarint_end (h : Bytes w ad n b o f) (hen : e < n) (he : e < 10) (hfe : f e < 128) (hlo : ∀ t, t < e → 128 ≤ f t) (h9 : ¬ (e = 9 ∧ 1 < f 9)) :
    Calls Tryf.prog 27 #[.slice ad n c] w fun en w' => en = .returned (.tuple #[.int .u64 (valTo f (e + 1) : Nat), .int .i64 ((e : Int) + 1)]) ∧ w = w' := by
  obtain ⟨hadr, hcell, hu8, hlen⟩ := h
  obtain rfl := hadr (by omega)
  have HB := hideP hlo
  have HC := hideP hcell
  clear hadr hlo hcell
  go_enter Tryf.func27, Tryf.ntmps27
  go_wp2
  go_loop [4, 5, 10] (fun x s i => ∃ k : Nat, k ≤ e ∧ i = .int .i64 k ∧ x = .int .u64 (valTo f k : Nat) ∧ s = .int .u64 (7 * k : Nat)) (fun _ _ i => n - (intOf i).toNat)
  case atStart => exact ⟨0, Nat.zero_le _, rfl, rfl, rfl⟩
  case round =>
    obtain ⟨k, hk, rfl, rfl, rfl⟩ := hrel
    have hk1 : (k : Int) < (n : Int) := by omega
    have hk0 : (0 : Int) ≤ (k : Int) := by omega
    have hkb : ((k : Int) == 10) = false := beq_eq_false_iff_ne.2 (by omega)
    have hck := HC.out k (by omega)
    have hf8 := hu8 k
    have e7 := and7 (f k) hf8
    have hvl := valTo_lt f k
    have hp := pow128_63 k (by omega)
    by_cases hke : k < e
    · have hf := HB.out k hke
      have hfI : ¬ (f k : Int) < 128 := by omega
      have hb1 := valTo_lt f (k + 1)
      have hb2 := pow128_63 (k + 1) (by omega)
      have hb3 : valTo f k + f k % 128 * 128 ^ k < 18446744073709551616 := by simp only [valTo] at hb1; omega
      have HO := hideP (orShift (valTo f k) (f k % 128) k hvl hb3)
      clear hf hb1 hb2 hb3 hvl hp
      go_wp2
      go_round
      case rel => exact ⟨k + 1, by omega, by go_num, by rw [show ((f k : Int) % 128) = ((f k % 128 : Nat) : Int) by omega, HO.out]; rfl, by go_num⟩
      case measure => simp [intOf]; omega
    · obtain rfl : k = e := by omega
      have hfI : (f k : Int) < 128 := by omega
      have hb1 := valTo_u64 f k he h9 hfe
      have hmod : f k % 128 = f k := by omega
      have hb3 : valTo f k + f k * 128 ^ k < 18446744073709551616 := by simp only [valTo, hmod] at hb1; exact hb1
      have HO := hideP (orShift (valTo f k) (f k) k hvl hb3)
      have HE := hideP (show valTo f k + f k * 128 ^ k = valTo f (k + 1) by simp only [valTo, hmod])
      have H9 := hideP h9
      clear hb1 hmod hb3 hvl hp h9
      by_cases h99 : k = 9
      · have hb9 : ((k : Int) == 9) = true := beq_iff_eq.2 (by omega)
        have hnot : ¬ (1 : Int) < (f k : Int) := by
          have := H9.out
          subst h99
          omega
        clear h99
        go_wp2
        go_ret2
        exact ⟨ret2 (by show Value.int .u64 (bits .or .u64 (valTo f k : Nat) (IntKind.u64.wrap ((f k : Int) * 2 ^ (7 * k)))) = _; rw [HO.out, HE.out]) rfl, rfl⟩
      · have hb9 : ((k : Int) == 9) = false := beq_eq_false_iff_ne.2 (by omega)
        clear h99
        go_wp2
        go_ret2
        exact ⟨ret2 (by show Value.int .u64 (bits .or .u64 (valTo f k : Nat) (IntKind.u64.wrap ((f k : Int) * 2 ^ (7 * k)))) = _; rw [HO.out, HE.out]) rfl, rfl⟩

set_option maxRecDepth 100000 in
set_option maxHeartbeats 1000000 in
theorem uvarint_bad (h : Bytes w ad n b o f) (hen : 9 < n) (hfe : f 9 < 128) (hlo : ∀ t, t < 9 → 128 ≤ f t) (h9 : 1 < f 9) :
    Calls Tryf.prog 27 #[.slice ad n c] w fun en w' => en = .returned (.tuple #[.int .u64 0, .int .i64 (-10)]) ∧ w = w' := by
  obtain ⟨hadr, hcell, hu8, hlen⟩ := h
  obtain rfl := hadr (by omega)
  have HB := hideP hlo
  have HC := hideP hcell
  clear hadr hlo hcell
  go_enter Tryf.func27, Tryf.ntmps27
  go_wp2
  go_loop [4, 5, 10] (fun x s i => ∃ (k : Nat) (q : Int), k ≤ 9 ∧ i = .int .i64 k ∧ x = .int .u64 q ∧ s = .int .u64 (7 * k : Nat)) (fun _ _ i => n - (intOf i).toNat)
  case atStart => exact ⟨0, _, Nat.zero_le _, rfl, rfl, rfl⟩
  case round =>
    obtain ⟨k, q, hk, rfl, rfl, rfl⟩ := hrel
    have hk1 : (k : Int) < (n : Int) := by omega
    have hk0 : (0 : Int) ≤ (k : Int) := by omega
    have hkb : ((k : Int) == 10) = false := beq_eq_false_iff_ne.2 (by omega)
    have hck := HC.out k (by omega)
    have hf8 := hu8 k
    have e7 := and7 (f k) hf8
    by_cases hke : k < 9
    · have hf := HB.out k hke
      have hfI : ¬ (f k : Int) < 128 := by omega
      clear hf
      go_wp2
      go_round
      case rel => exact ⟨k + 1, _, by omega, by go_num, rfl, by go_num⟩
      case measure => simp [intOf]; omega
    · have H99 := hideP (show k = 9 by omega)
      have hb9 : ((k : Int) == 9) = true := beq_iff_eq.2 (by omega)
      have hfI : (f k : Int) < 128 := by rw [H99.out]; omega
      have hfI2 : (1 : Int) < (f k : Int) := by rw [H99.out]; omega
      clear hke
      go_wp2
      go_ret2
      exact ⟨ret2 rfl (by rw [H99.out]; rfl), rfl⟩

set_option maxRecDepth 100000 in
set_option maxHeartbeats 1000000 in
theorem uvarint_none (h : Bytes w ad n b o f) (hn : n ≤ 10) (hlo : ∀ t, t < n → 128 ≤ f t) :
    Calls Tryf.prog 27 #[.slice ad n c] w fun en w' => en = .returned (.tuple #[.int .u64 0, .int .i64 0]) ∧ w = w' := by
  obtain ⟨hadr, hcell, hu8, hlen⟩ := h
  by_cases hn0 : n = 0
  · subst hn0
    go_enter Tryf.func27, Tryf.ntmps27
    go_wp2
    refine wp_loop_rounds 1 ?_; rw [rounds_succ]
    go_wp2
    go_ret2
    exact ⟨rfl, rfl⟩
  obtain rfl := hadr (by omega)
  have HB := hideP hlo
  have HC := hideP hcell
  clear hadr hlo hcell
  go_enter Tryf.func27, Tryf.ntmps27
  go_wp2
  go_loop [4, 5, 10] (fun x s i => ∃ (k : Nat) (q : Int), k ≤ n ∧ i = .int .i64 k ∧ x = .int .u64 q ∧ s = .int .u64 (7 * k : Nat)) (fun _ _ i => n - (intOf i).toNat)
  case atStart => exact ⟨0, _, Nat.zero_le _, rfl, rfl, rfl⟩
  case round =>
    obtain ⟨k, q, hk, rfl, rfl, rfl⟩ := hrel
    have hk0 : (0 : Int) ≤ (k : Int) := by omega
    by_cases hke : k < n
    · have hk1 : (k : Int) < (n : Int) := by omega
      have hkb : ((k : Int) == 10) = false := beq_eq_false_iff_ne.2 (by omega)
      have hck := HC.out k (by omega)
      have hf8 := hu8 k
      have e7 := and7 (f k) hf8
      have hf := HB.out k hke
      have hfI : ¬ (f k : Int) < 128 := by omega
      clear hf
      go_wp2
      go_round
      case rel => exact ⟨k + 1, _, by omega, by go_num, rfl, by go_num⟩
      case measure => simp [intOf]; omega
    · go_wp2
      go_ret2
      exact ⟨rfl, rfl⟩
end
end Go.Proofs.Qxb6614532aFmt
