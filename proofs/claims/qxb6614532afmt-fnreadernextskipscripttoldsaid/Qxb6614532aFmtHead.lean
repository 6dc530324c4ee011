import Derived.Test.Qxb6614532aFmtMem
import Derived.Test.Qxb6614532aFmtPlain
namespace Go.Proofs.Qxb6614532aFmt
open Go.RowKit
set_option linter.unusedVariables false

/-- n bytes f 0 .. f (n-1) behind a slice's address. -/
structure Bytes (w : World) (ad : Option Addr) (n b o : Nat) (f : Nat → Nat) : Prop where
  adr : 0 < n → ad = some ⟨b, o, none⟩
  cell : ∀ t, t < n → w.cell? ⟨b, o + t, none⟩ = some (.int .u8 (f t))
  u8 : ∀ t, f t < 256
  len : n ≤ 1048576
theorem Bytes.drewN {w : World} {ad : Option Addr} {n b o d : Nat} {f : Nat → Nat} (h : Bytes w ad n b o f) : Bytes (w.drewN d) ad n b o f := ⟨h.adr, h.cell, h.u8, h.len⟩

section
variable {w : World} {ad : Option Addr} {n b o c e : Nat} {f : Nat → Nat}

theorem ret3 {a b c a' b' c' : Value} (h1 : a = a') (h2 : b = b') (h3 : c = c') : Ending.returned (.tuple #[a, b, c]) = .returned (.tuple #[a', b', c']) := by rw [h1, h2, h3]

set_option maxRecDepth 100000 in
set_option maxHeartbeats 1000000 in
/-- zzHead, a length that ends at byte e. -/
theorem head_end (h : Bytes w ad n b o f) (hen : e < n) (he : e < 10) (hfe : f e < 128) (hlo : ∀ t, t < e → 128 ≤ f t) (h9 : ¬ (e = 9 ∧ 1 < f 9)) :
    Calls Tryf.prog 13 #[.slice ad n c] w fun en w' => en = .returned (.tuple #[.int .u64 (valTo f (e + 1) : Nat), .int .i64 ((e : Int) + 1), .int .i64 0]) ∧ w = w' := by
  obtain ⟨hadr, hcell, hu8, hlen⟩ := h
  obtain rfl := hadr (by omega)
  have heI : (e : Int) < 10 := by omega
  have henI : (e : Int) < (n : Int) := by omega
  have HB := hideP hlo
  have HC := hideP hcell
  clear hadr hlo hcell
  go_enter Tryf.func13, Tryf.ntmps13
  go_wp2
  go_loop [5, 6] (fun en i => ∃ k : Nat, k ≤ e ∧ i = .int .i64 k ∧ en = .int .i64 (-1)) (fun _ i => n - (intOf i).toNat)
  case atStart => exact ⟨0, Nat.zero_le _, rfl, rfl⟩
  case round =>
    obtain ⟨k, hk, rfl, rfl⟩ := hrel
    have hk1 : (k : Int) < (n : Int) := by omega
    have hk2 : (k : Int) < 10 := by omega
    have hk0 : (0 : Int) ≤ (k : Int) := by omega
    have hck := HC.out k (by omega)
    by_cases hke : k < e
    · have hf := HB.out k hke
      have hfI : ¬ (f k : Int) < 128 := by omega
      clear hf
      go_wp2
      go_round
      case rel => exact ⟨k + 1, by omega, by go_num, rfl⟩
      case measure => simp [intOf]; omega
    · obtain rfl : k = e := by omega
      have hfI : (f k : Int) < 128 := by omega
      by_cases h99 : k = 9
      · have hb9 : ((k : Int) == 9) = true := beq_iff_eq.2 (by omega)
        have hck9 := HC.out 9 (by omega)
        have h9n : (9 : Int) < (n : Int) := by omega
        have hnot : ¬ (1 : Int) < (f 9 : Int) := by omega
        have H99 := hideP h99
        have H9 := hideP h9
        clear h99 h9
        go_wp2
        go_loop [7, 8] (fun x j => ∃ m : Nat, m ≤ k + 1 ∧ j = .int .i64 ((m : Int) - 1) ∧ x = .int .u64 (hiTo f m (k + 1 - m) : Nat)) (fun _ j => (intOf j + 1).toNat)
        case atStart => exact ⟨k + 1, Nat.le_refl _, by go_num, by rw [Nat.sub_self]; rfl⟩
        case round =>
          obtain ⟨m, hm, rfl, rfl⟩ := hrel
          by_cases hm0 : m = 0
          · subst hm0
            have HV := hideP (hiTo_val f (k + 1))
            go_wp2
            go_ret3
            exact ⟨ret3 (by show Value.int .u64 (hiTo f 0 (k + 1) : Nat) = _; rw [HV.out]) rfl rfl, rfl⟩
          · obtain ⟨j, rfl⟩ : ∃ j, m = j + 1 := ⟨m - 1, by omega⟩
            have hj1 : (j : Int) < (n : Int) := by omega
            have hj0 : (0 : Int) ≤ (j : Int) := by omega
            have ej : ((j + 1 : Nat) : Int) - 1 = (j : Int) := by omega
            have hcj := HC.out j (by omega)
            have hst := hiTo_step f k j (by omega)
            have hlt := hiTo_u64 f k j (by omega) he H9.out hfe
            have hf8 := hu8 j
            have e7 := and7 (f j) hf8
            have ekj : k + 1 - (j + 1) = k - j := by omega
            rw [ej, ekj]
            have HO := hideP (or7 (hiTo f (j + 1) (k - j)) (f j % 128) (by omega) (by omega))
            have HST := hideP hst
            have hq : (hiTo f (j + 1) (k - j) : Int) * 128 ≤ 18446744073709551615 := by omega
            have hq0 : (0 : Int) ≤ (hiTo f (j + 1) (k - j) : Int) := by omega
            generalize hiTo f (j + 1) (k - j) = q at HO HST hq hq0 ⊢
            clear hst hlt ej ekj
            go_wp2
            go_round
            case rel => exact ⟨j, by omega, rfl, by rw [HST.out, show ((f j : Int) % 128) = ((f j % 128 : Nat) : Int) by omega, HO.out]⟩
            case measure => simp [intOf]
      · have hb9 : ((k : Int) == 9) = false := beq_eq_false_iff_ne.2 (by omega)
        have H9 := hideP h9
        clear h99 h9
        go_wp2
        go_loop [7, 8] (fun x j => ∃ m : Nat, m ≤ k + 1 ∧ j = .int .i64 ((m : Int) - 1) ∧ x = .int .u64 (hiTo f m (k + 1 - m) : Nat)) (fun _ j => (intOf j + 1).toNat)
        case atStart => exact ⟨k + 1, Nat.le_refl _, by go_num, by rw [Nat.sub_self]; rfl⟩
        case round =>
          obtain ⟨m, hm, rfl, rfl⟩ := hrel
          by_cases hm0 : m = 0
          · subst hm0
            have HV := hideP (hiTo_val f (k + 1))
            go_wp2
            go_ret3
            exact ⟨ret3 (by show Value.int .u64 (hiTo f 0 (k + 1) : Nat) = _; rw [HV.out]) rfl rfl, rfl⟩
          · obtain ⟨j, rfl⟩ : ∃ j, m = j + 1 := ⟨m - 1, by omega⟩
            have hj1 : (j : Int) < (n : Int) := by omega
            have hj0 : (0 : Int) ≤ (j : Int) := by omega
            have ej : ((j + 1 : Nat) : Int) - 1 = (j : Int) := by omega
            have hcj := HC.out j (by omega)
            have hst := hiTo_step f k j (by omega)
            have hlt := hiTo_u64 f k j (by omega) he H9.out hfe
            have hf8 := hu8 j
            have e7 := and7 (f j) hf8
            have ekj : k + 1 - (j + 1) = k - j := by omega
            rw [ej, ekj]
            have HO := hideP (or7 (hiTo f (j + 1) (k - j)) (f j % 128) (by omega) (by omega))
            have HST := hideP hst
            have hq : (hiTo f (j + 1) (k - j) : Int) * 128 ≤ 18446744073709551615 := by omega
            have hq0 : (0 : Int) ≤ (hiTo f (j + 1) (k - j) : Int) := by omega
            generalize hiTo f (j + 1) (k - j) = q at HO HST hq hq0 ⊢
            clear hst hlt ej ekj
            go_wp2
            go_round
            case rel => exact ⟨j, by omega, rfl, by rw [HST.out, show ((f j : Int) % 128) = ((f j % 128 : Nat) : Int) by omega, HO.out]⟩
            case measure => simp [intOf]

set_option maxRecDepth 100000 in
set_option maxHeartbeats 1000000 in
/-- zzHead, ten bytes and wider than 64 bits. -/
theorem head_bad (h : Bytes w ad n b o f) (hen : 9 < n) (hfe : f 9 < 128) (hlo : ∀ t, t < 9 → 128 ≤ f t) (h9 : 1 < f 9) :
    Calls Tryf.prog 13 #[.slice ad n c] w fun en w' => en = .returned (.tuple #[.int .u64 0, .int .i64 0, .int .i64 3]) ∧ w = w' := by
  obtain ⟨hadr, hcell, hu8, hlen⟩ := h
  obtain rfl := hadr (by omega)
  have HB := hideP hlo
  have HC := hideP hcell
  have h9n : (9 : Int) < (n : Int) := by omega
  have h9I : (1 : Int) < (f 9 : Int) := by omega
  have hck9 := HC.out 9 (by omega)
  clear hadr hlo hcell
  go_enter Tryf.func13, Tryf.ntmps13
  go_wp2
  go_loop [5, 6] (fun en i => ∃ k : Nat, k ≤ 9 ∧ i = .int .i64 k ∧ en = .int .i64 (-1)) (fun _ i => n - (intOf i).toNat)
  case atStart => exact ⟨0, Nat.zero_le _, rfl, rfl⟩
  case round =>
    obtain ⟨k, hk, rfl, rfl⟩ := hrel
    have hk1 : (k : Int) < (n : Int) := by omega
    have hk2 : (k : Int) < 10 := by omega
    have hk0 : (0 : Int) ≤ (k : Int) := by omega
    have hck := HC.out k (by omega)
    by_cases hke : k < 9
    · have hf := HB.out k hke
      have hfI : ¬ (f k : Int) < 128 := by omega
      clear hf
      go_wp2
      go_round
      case rel => exact ⟨k + 1, by omega, by go_num, rfl⟩
      case measure => simp [intOf]; omega
    · have H9 := hideP (show k = 9 by omega)
      have hb9 : ((k : Int) == 9) = true := beq_iff_eq.2 (by omega)
      have hfI : (f k : Int) < 128 := by rw [H9.out]; omega
      clear hke
      go_wp2
      go_ret3
      exact ⟨rfl, rfl⟩

/-- The class of a head that does not end. -/
def noneSt (n : Nat) : Int := if n = 0 then 1 else if n < 10 then 2 else 3

set_option maxRecDepth 100000 in
set_option maxHeartbeats 1000000 in
/-- zzHead, no byte among the first ten ends a length. -/
theorem head_none (h : Bytes w ad n b o f) (hlo : ∀ t, t < n → t < 10 → 128 ≤ f t) :
    Calls Tryf.prog 13 #[.slice ad n c] w fun en w' => en = .returned (.tuple #[.int .u64 0, .int .i64 0, .int .i64 (noneSt n)]) ∧ w = w' := by
  obtain ⟨hadr, hcell, hu8, hlen⟩ := h
  by_cases hn0 : n = 0
  · subst hn0
    go_enter Tryf.func13, Tryf.ntmps13
    go_wp2
    refine wp_loop_rounds 1 ?_; rw [rounds_succ]
    go_wp2
    go_ret3
    exact ⟨rfl, rfl⟩
  obtain rfl := hadr (by omega)
  have HB := hideP hlo
  have HC := hideP hcell
  have hnb : ((n : Int) == 0) = false := beq_eq_false_iff_ne.2 (by omega)
  clear hadr hlo hcell
  go_enter Tryf.func13, Tryf.ntmps13
  go_wp2
  go_loop [5, 6] (fun en i => ∃ k : Nat, k ≤ n ∧ k ≤ 10 ∧ i = .int .i64 k ∧ en = .int .i64 (-1)) (fun _ i => n - (intOf i).toNat)
  case atStart => exact ⟨0, Nat.zero_le _, Nat.zero_le _, rfl, rfl⟩
  case round =>
    obtain ⟨k, hk, hk10, rfl, rfl⟩ := hrel
    have hk0 : (0 : Int) ≤ (k : Int) := by omega
    by_cases hke : k < n ∧ k < 10
    · have hf := HB.out k hke.1 hke.2
      have hfI : ¬ (f k : Int) < 128 := by omega
      have hk1 : (k : Int) < (n : Int) := by omega
      have hk2 : (k : Int) < 10 := by omega
      have hck := HC.out k hke.1
      clear hf hke
      go_wp2
      go_round
      case rel => exact ⟨k + 1, by omega, by omega, by go_num, rfl⟩
      case measure => simp [intOf]; omega
    · by_cases hkn : k < n
      · have hk1 : (k : Int) < (n : Int) := by omega
        have hk2 : ¬ (k : Int) < 10 := by omega
        have hn10 : ¬ (n : Int) < 10 := by omega
        clear hke
        go_wp2
        go_ret3
        exact ⟨ret3 rfl rfl (by simp [noneSt, hn0]; omega), rfl⟩
      · have hk1 : ¬ (k : Int) < (n : Int) := by omega
        clear hke
        by_cases hn10 : n < 10
        · have hn10' : (n : Int) < 10 := by omega
          go_wp2
          go_ret3
          exact ⟨ret3 rfl rfl (by simp [noneSt, hn0, hn10]), rfl⟩
        · have hn10' : ¬ (n : Int) < 10 := by omega
          go_wp2
          go_ret3
          exact ⟨ret3 rfl rfl (by simp [noneSt, hn0, hn10]), rfl⟩
end
end Go.Proofs.Qxb6614532aFmt
