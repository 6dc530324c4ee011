import Derived.Test.Qxb6614985aRows
import Derived.WalkKit
import Derived.WalkSpells
import Derived.WalkLawsBesides
import Derived.Laws.LoneSync
import Derived.Deep.QuietTactic
import Derived.BigQuiet
namespace Go.Proofs.Qxb6614985a
open Go.RowKit

theorem Try.cells35 : Try.prog.cellsOf 35 = 1 := by kernel_rfl
theorem Try.info35 : (Try.prog.info? 35).map (fun i => (i.zero, i.size, i.bytes)) = some (some (.agg #[.int .u64 0]), 1, 8) := by kernel_rfl
theorem Try.info25 : (Try.prog.info? 25).map (fun i => (i.zero, i.size, i.bytes)) = some (some (.int .u64 0), 1, 8) := by kernel_rfl

set_option maxHeartbeats 400000 in
theorem load_any (b off : Nat) (x : Int) (w : World) (h0 : w.cell? ⟨b, off, none⟩ = some (.int .u64 x)) :
    Calls Try.prog 12 #[.pointer (some ⟨b, off, none⟩)] w fun e w' => e = .returned (.int .u64 x) ∧ w' = w := by
  have hl := run_call_load (P := Try.prog) Try.func13 (by kernel_rfl) (by kernel_rfl) (by kernel_rfl) .u64 (by kernel_rfl) h0
  go_enter Try.func12, Try.ntmps12
  go_wp2
  go_ret
  exact ⟨rfl, rfl⟩

set_option maxHeartbeats 400000 in
theorem store_any (b off : Nat) (x : Int) (u : Value) (w : World) (h0 : w.cell? ⟨b, off, none⟩ = some u) (hz : w.frozen? ⟨b, off, none⟩ = false) :
    Calls Try.prog 9 #[.pointer (some ⟨b, off, none⟩), .int .u64 x] w fun e w' => e = .returned (.tuple #[]) ∧ w' = w.setCell ⟨b, off, none⟩ (.int .u64 x) := by
  have hl := run_call_store (P := Try.prog) Try.func11 (by kernel_rfl) (by kernel_rfl) (by kernel_rfl) (by kernel_rfl) (y := x) (k := .u64) h0 hz
  go_enter Try.func9, Try.ntmps9
  go_wp2
  go_end0
  exact ⟨rfl, rfl⟩
end Go.Proofs.Qxb6614985a
