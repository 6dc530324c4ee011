import Derived.Test.Qxb6614997aGrid
namespace Go.Proofs.Qxb6614997a
open Go.RowKit

/-- What zzKeyBlocksFit says: no; or yes, and then the blocks fit. -/
def FitPost (n : Nat) (L : Nat → Nat) (e : Ending) : Prop :=
  (∃ t : Int, e = .returned (.tuple #[.int .i64 t, .bool false])) ∨
  (∃ t : Int, e = .returned (.tuple #[.int .i64 t, .bool true]) ∧ n ≤ 4096 ∧ (∀ i, i < n → L i ≤ 8192) ∧ 0 < n ∧ 0 < L (n - 1))
theorem fit_no {n : Nat} {L : Nat → Nat} {e : Ending} {t : Int} (h : e = .returned (.tuple #[.int .i64 t, .bool false])) : FitPost n L e := .inl ⟨t, h⟩

variable {b off n c : Nat} {A : Nat → Option Addr} {L C bb oo : Nat → Nat} {X : Nat → Nat → Nat}

set_option maxHeartbeats 400000 in
theorem fit_zero (a : Option Addr) (w : World) : Calls Try.prog 7 #[.slice a 0 c] w fun e w' => e = .returned (.tuple #[.int .i64 0, .bool false]) ∧ w = w' := by
  go_enter Try.func7, Try.ntmps7
  go_wp2
  refine wp_loop_rounds 1 ?_; rw [rounds_succ]
  go_wp2
  go_ret2
  exact ⟨rfl, rfl⟩

set_option maxHeartbeats 1000000 in
theorem fit_any (w : World) (hn : n ≤ 9223372036854775807) (h0 : 0 < n) (g : Grid w b off n A L C bb oo X) :
    Calls Try.prog 7 #[.slice (some ⟨b, off, none⟩) n c] w fun e w' => FitPost n L e ∧ w = w' := by
  have h0' : ((n : Int) == 0) = false := beq_eq_false_iff_ne.2 (by omega)
  by_cases hbig : 4096 < n
  · go_enter Try.func7, Try.ntmps7
    go_wp2
    go_ret2
    exact ⟨fit_no rfl, rfl⟩
  have hn1 : n ≤ 4096 := by omega
  clear hbig hn
  go_enter Try.func7, Try.ntmps7
  go_wp2
  go_loop [4, 5, 6] (fun y t i => ∃ (k : Nat) (p q : Int), k ≤ n ∧ i = .int .i64 k ∧ y = .int .i64 p ∧ t = .int .i64 q ∧ ∀ j, j < k → L j ≤ 8192) (fun _ _ i => n - (intOf i).toNat)
  case atStart => exact ⟨0, _, _, Nat.zero_le _, rfl, rfl, rfl, by omega⟩
  case round =>
    obtain ⟨k, p, q, hk, rfl, rfl, rfl, hL⟩ := hrel
    by_cases hlt : k < n
    · have h1 := g.top k hlt
      have h2 := g.len k hlt
      have h3 : L k ≤ 9223372036854775807 := by omega
      have HL : Hid _ := hL
      clear h2 hL
      by_cases h8 : 8192 < L k
      · go_wp2
        go_ret2
        exact ⟨fit_no rfl, rfl⟩
      · have hstep : ∀ j, j < k + 1 → L j ≤ 8192 := fun j hj => by
          by_cases e : j = k
          · subst e; omega
          · exact HL.out j (by omega)
        have HS : Hid _ := hstep
        clear hstep
        go_wp2
        all_goals first
          | (go_ret2; exact ⟨fit_no rfl, rfl⟩)
          | (go_round
             case rel => exact ⟨k + 1, _, _, by omega, by go_num, rfl, rfl, HS.out⟩
             case measure => simp [intOf]; omega)
    · obtain rfl : k = n := by omega
      have h1 := g.top (k - 1) (by omega)
      have h2 := g.len (k - 1) (by omega)
      have HL : Hid _ := hL
      have e1 : ((k - 1 : Nat) : Int) = (k : Int) - 1 := by omega
      have e2 : (0 : Int) ≤ (k : Int) - 1 := by omega
      clear hL
      go_wp2
      · go_ret2
        exact ⟨fit_no rfl, rfl⟩
      · have hb : ((L (k - 1) : Int) == 0) = false := by assumption
        have hp : 0 < L (k - 1) := by
          have := beq_eq_false_iff_ne.1 hb
          omega
        go_ret2
        exact ⟨.inr ⟨_, rfl, hn1, HL.out, h0, hp⟩, rfl⟩
end Go.Proofs.Qxb6614997a
