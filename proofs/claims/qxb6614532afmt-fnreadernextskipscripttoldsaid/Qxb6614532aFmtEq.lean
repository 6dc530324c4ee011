import Derived.Test.Qxb6614532aFmtNext2
namespace Go.Proofs.Qxb6614532aFmt
open Go.RowKit Go.Stop
set_option linter.unusedVariables false
section
variable {w : World} {N c n : Nat} {ao : Option Addr}

set_option maxRecDepth 100000 in
set_option maxHeartbeats 1000000 in
/-- zzEq at two slices of the same bytes. -/
theorem eq_same {a1 a2 : Option Addr} {b1 o1 b2 o2 c1 c2 : Nat} {h : Nat → Nat} (hn : n ≤ 1048576) (h1 : 0 < n → a1 = some ⟨b1, o1, none⟩) (h2 : 0 < n → a2 = some ⟨b2, o2, none⟩)
    (k1 : ∀ t, t < n → w.cell? ⟨b1, o1 + t, none⟩ = some (.int .u8 (h t))) (k2 : ∀ t, t < n → w.cell? ⟨b2, o2 + t, none⟩ = some (.int .u8 (h t))) :
    Calls Tryf.prog 15 #[.slice a1 n c1, .slice a2 n c2] w fun e w' => e = .returned (.bool true) ∧ ∃ d, w' = w.drewN d := by
  have K1 := hideP k1
  have K2 := hideP k2
  have hnn : ((n : Int) != (n : Int)) = false := bne_self_eq_false _
  by_cases h0 : n = 0
  · subst h0
    clear h1 h2 k1 k2
    go_enter Tryf.func15, Tryf.ntmps15
    go_wp2
    refine wp_loop_rounds 1 ?_; rw [rounds_succ]
    go_wp2
    go_ret
    exact ⟨rfl, 0, rfl⟩
  obtain rfl := h1 (by omega)
  obtain rfl := h2 (by omega)
  clear k1 k2 h1 h2 h0
  go_enter Tryf.func15, Tryf.ntmps15
  go_wp2
  go_loopg [5] n (fun gk i wr => ∃ m d : Nat, gk + m = n ∧ i = .int .i64 m ∧ wr = w.drewN d)
  case atStart => exact ⟨0, 0, by omega, rfl, rfl⟩
  case round =>
    obtain ⟨m, d, hm, rfl, rfl⟩ := hrel
    have hm0 : (0 : Int) ≤ (m : Int) := by omega
    by_cases hlt : m < n
    · have hltI : (m : Int) < (n : Int) := by omega
      have c1 : w.cell? ⟨b1, o1 + m, none⟩ = some (.int .u8 (h m)) := K1.out m hlt
      have c2 : w.cell? ⟨b2, o2 + m, none⟩ = some (.int .u8 (h m)) := K2.out m hlt
      have hbb : ((h m : Int) != (h m : Int)) = false := bne_self_eq_false _
      go_wp2
      go_quiet (fail)
      go_wp2
      go_roundg (gk - 1)
      case measure => omega
      case rel => exact ⟨m + 1, _, by omega, by go_num, rfl⟩
    · obtain rfl : m = n := by omega
      have hltI : ¬ (m : Int) < (m : Int) := by omega
      go_wp2
      go_ret
      exact ⟨rfl, d, rfl⟩

set_option maxHeartbeats 1000000 in
theorem bytes17 (x y : Int) (hn : N ≤ 1048576) : Calls Tryf.prog 17 #[.slice ao N c, .int .i64 x, .int .i64 y] w fun e w' => e = .returned (.bool true) ∧ w = w' := by
  have h1 : ¬ (1048576 : Int) < (N : Int) := by omega
  go_enter Tryf.func17, Tryf.ntmps17
  go_wp2
  go_ret
  exact ⟨rfl, rfl⟩
set_option maxHeartbeats 1000000 in
theorem bytes17_no (x y : Int) (hn : 1048576 < N) : Calls Tryf.prog 17 #[.slice ao N c, .int .i64 x, .int .i64 y] w fun e w' => e = .returned (.bool false) ∧ w = w' := by
  have h1 : (1048576 : Int) < (N : Int) := by omega
  go_enter Tryf.func17, Tryf.ntmps17
  go_wp2
  go_ret
  exact ⟨rfl, rfl⟩
end
end Go.Proofs.Qxb6614532aFmt
