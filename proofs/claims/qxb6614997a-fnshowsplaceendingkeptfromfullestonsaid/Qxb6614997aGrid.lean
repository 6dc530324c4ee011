import Derived.Test.Qxb6614997aRows
import Derived.WalkKit
import Derived.WalkSpells
import Derived.WalkLawsBesides
import Derived.Deep.QuietTactic
import Derived.BigQuiet
import Derived.Laws.BitsAllLaws
namespace Go.Proofs.Qxb6614997a
open Go.RowKit

/-- What a walk is told of a slice of slices of uint64 that has a block. -/
structure Grid (w : World) (b off n : Nat) (A : Nat → Option Addr) (L C bb oo : Nat → Nat) (X : Nat → Nat → Nat) : Prop where
  top : ∀ i, i < n → w.cell? ⟨b, off + i, none⟩ = some (.slice (A i) (L i) (C i))
  len : ∀ i, i < n → L i ≤ C i ∧ C i ≤ 9223372036854775807
  adr : ∀ i, i < n → 0 < L i → A i = some ⟨bb i, oo i, none⟩
  nul : ∀ i, i < n → A i = none → C i = 0
  cell : ∀ i, i < n → ∀ j, j < L i → w.cell? ⟨bb i, oo i + j, none⟩ = some (.int .u64 (X i j))

/-- Some bool is handed back. -/
def AnyBool (e : Ending) : Prop := ∃ v, e = .returned (.bool v)

variable {b off n c : Nat} {A : Nat → Option Addr} {L C bb oo : Nat → Nat} {X : Nat → Nat → Nat}

set_option maxHeartbeats 400000 in
theorem bytes6_any (w : World) (hn : n ≤ 9223372036854775807) (g : Grid w b off n A L C bb oo X) :
    Calls Try.prog 6 #[.slice (some ⟨b, off, none⟩) n c] w fun e w' => AnyBool e ∧ w = w' := by
  go_enter Try.func6, Try.ntmps6
  go_wp2
  all_goals first | (go_ret; exact ⟨⟨_, rfl⟩, rfl⟩) | skip
  go_loop [3, 4] (fun z i => ∃ (k : Nat) (q : Int), k ≤ n ∧ i = .int .i64 k ∧ z = .int .i64 q) (fun _ i => n - (intOf i).toNat)
  case atStart => exact ⟨0, _, Nat.zero_le _, rfl, rfl⟩
  case round =>
    obtain ⟨k, q, hk, rfl, rfl⟩ := hrel
    by_cases hlt : k < n
    · have h1 := g.top k hlt
      have h2 := g.len k hlt
      have h3 : L k ≤ 9223372036854775807 := by omega
      clear h2
      go_wp2
      all_goals first
        | (go_ret; exact ⟨⟨_, rfl⟩, rfl⟩)
        | (go_round
           case rel => exact ⟨k + 1, _, by omega, by go_num, rfl⟩
           case measure => simp [intOf]; omega)
    · go_wp2
      go_ret
      exact ⟨⟨_, rfl⟩, rfl⟩

set_option maxHeartbeats 400000 in
theorem bytes13_any (p q x : Value) (w : World) (hn : n ≤ 9223372036854775807) (g : Grid w b off n A L C bb oo X) :
    Calls Try.prog 13 #[.slice (some ⟨b, off, none⟩) n c, p, q, x] w fun e w' => AnyBool e ∧ w = w' := by
  go_enter Try.func13, Try.ntmps13
  go_wp2
  all_goals first | (go_ret; exact ⟨⟨_, rfl⟩, rfl⟩) | skip
  go_loop [9, 10] (fun z i => ∃ (k : Nat) (q : Int), k ≤ n ∧ i = .int .i64 k ∧ z = .int .i64 q) (fun _ i => n - (intOf i).toNat)
  case atStart => exact ⟨0, _, Nat.zero_le _, rfl, rfl⟩
  case round =>
    obtain ⟨k, q, hk, rfl, rfl⟩ := hrel
    by_cases hlt : k < n
    · have h1 := g.top k hlt
      have h2 := g.len k hlt
      have h3 : L k ≤ 9223372036854775807 := by omega
      clear h2
      go_wp2
      all_goals first
        | (go_ret; exact ⟨⟨_, rfl⟩, rfl⟩)
        | (go_round
           case rel => exact ⟨k + 1, _, by omega, by go_num, rfl⟩
           case measure => simp [intOf]; omega)
    · go_wp2
      go_ret
      exact ⟨⟨_, rfl⟩, rfl⟩

set_option maxHeartbeats 400000 in
theorem bytes14_any (p q r s : Value) (w : World) (hn : n ≤ 9223372036854775807) (g : Grid w b off n A L C bb oo X) :
    Calls Try.prog 14 #[p, q, r, s, .slice (some ⟨b, off, none⟩) n c] w fun e w' => AnyBool e ∧ w = w' := by
  go_enter Try.func14, Try.ntmps14
  go_wp2
  all_goals first | (go_ret; exact ⟨⟨_, rfl⟩, rfl⟩) | skip
  go_loop [11, 12] (fun z i => ∃ (k : Nat) (q : Int), k ≤ n ∧ i = .int .i64 k ∧ z = .int .i64 q) (fun _ i => n - (intOf i).toNat)
  case atStart => exact ⟨0, _, Nat.zero_le _, rfl, rfl⟩
  case round =>
    obtain ⟨k, q, hk, rfl, rfl⟩ := hrel
    by_cases hlt : k < n
    · have h1 := g.top k hlt
      have h2 := g.len k hlt
      have h3 : L k ≤ 9223372036854775807 := by omega
      clear h2
      go_wp2
      all_goals first
        | (go_ret; exact ⟨⟨_, rfl⟩, rfl⟩)
        | (go_round
           case rel => exact ⟨k + 1, _, by omega, by go_num, rfl⟩
           case measure => simp [intOf]; omega)
    · go_wp2
      go_ret
      exact ⟨⟨_, rfl⟩, rfl⟩

end Go.Proofs.Qxb6614997a
