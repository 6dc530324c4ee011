import Derived.Test.Qxb6614985aLeaf
import Derived.Test.Qxb6614985aPlain
import Derived.Deep.RegionHeld3
namespace Go.Proofs.Qxb6614985a
open Go.RowKit

theorem ret_bool {a b : Bool} (h : a = b) : Ending.returned (.bool a) = .returned (.bool b) := by rw [h]

set_option maxHeartbeats 400000 in
theorem done_any (g n c i x : Nat) (w : World) (hi : i / 64 < n) (hs : i ≤ 1000000000) (hx : x < 18446744073709551616)
   (h0 : w.cell? ⟨g, i / 64, none⟩ = some (.int .u64 x)) :
    Calls Try.prog 10 #[.slice (some ⟨g, 0, none⟩) n c, .int .i64 i] w fun e w' => e = .returned (.bool (x.testBit (i % 64))) ∧ ∃ k, w' = w.drewN k := by
  have e1 : ((i / 64 : Nat) : Int) < (n : Int) := by omega
  have e2 : (0 : Int) ≤ ((i / 64 : Nat) : Int) := by omega
  have HB : Hid ((bits .and .u64 (x : Int) (IntKind.u64.wrap (2 ^ (i % 64))) != 0) = x.testBit (i % 64)) := done_bit x (i % 64) hx (by omega)
  clear hx
  go_enter Try.func10, Try.ntmps10
  go_wp2
  go_quiet ((go_at_call 12; exact Calls.quiet_of_same (load_any _ _ _ _ h0)))
  go_wp2
  go_ret
  exact ⟨ret_bool HB.out, _, rfl⟩

set_option maxHeartbeats 400000 in
theorem splitDone_any (g n c i x : Nat) (w : World) (hi : i / 64 < n) (hs : i ≤ 1000000000) (hx : x < 18446744073709551616)
   (h0 : w.cell? ⟨g, i / 64, none⟩ = some (.int .u64 x)) :
    Calls Try.prog 7 #[.slice (some ⟨g, 0, none⟩) n c, .int .i64 i] w fun e w' => e = .returned (.bool (x.testBit (i % 64))) ∧ ∃ k, w' = w.drewN k := by
  go_enter Try.func7, Try.ntmps7
  go_wp2_with (go_at_call 10; refine (done_any g n c i x _ hi hs hx h0).mono ?_; rintro e w' ⟨rfl, k, rfl⟩)
  go_ret
  exact ⟨rfl, _, rfl⟩

theorem splitDone_km (g n c k m x : Nat) (w : World) (hk : k < n) (hn : n ≤ 1000000) (hm : m < 64) (hx : x < 18446744073709551616)
   (h0 : w.cell? ⟨g, k, none⟩ = some (.int .u64 x)) :
    Calls Try.prog 7 #[.slice (some ⟨g, 0, none⟩) n c, .int .i64 ((k : Int) * 64 + (m : Int))] w fun e w' => e = .returned (.bool (x.testBit m)) ∧ ∃ k, w' = w.drewN k := by
  have e1 : (k * 64 + m) / 64 = k := by omega
  have e2 : (k * 64 + m) % 64 = m := by omega
  have e3 : ((k * 64 + m : Nat) : Int) = (k : Int) * 64 + (m : Int) := by omega
  have := splitDone_any g n c (k * 64 + m) x w (by rw [e1]; exact hk) (by omega) hx (by rw [e1]; exact h0)
  rw [e2, e3] at this
  exact this

theorem bytes3_any (a : Option Addr) (n c : Nat) (w : World) (hn : n ≤ maxLen) :
    Calls Try.prog 5 #[.slice a n c] w fun e w' => e = .returned (.bool (decide (n ≤ 1048576))) ∧ w = w' := by
  unfold maxLen at hn
  by_cases h : n ≤ 1048576
  · go_enter Try.func5, Try.ntmps5
    go_wp2
    go_ret
    exact ⟨ret_bool (by simp [h]), rfl⟩
  · go_enter Try.func5, Try.ntmps5
    go_wp2
    go_ret
    exact ⟨ret_bool (by simp [h]), rfl⟩

theorem bytes4_any (a : Option Addr) (n c : Nat) (w : World) (hn : n ≤ maxLen) :
    Calls Try.prog 8 #[.slice a n c] w fun e w' => e = .returned (.bool (decide (n ≤ 1048576))) ∧ w = w' := by
  unfold maxLen at hn
  by_cases h : n ≤ 1048576
  · go_enter Try.func8, Try.ntmps8
    go_wp2
    go_ret
    exact ⟨ret_bool (by simp [h]), rfl⟩
  · go_enter Try.func8, Try.ntmps8
    go_wp2
    go_ret
    exact ⟨ret_bool (by simp [h]), rfl⟩
end Go.Proofs.Qxb6614985a
