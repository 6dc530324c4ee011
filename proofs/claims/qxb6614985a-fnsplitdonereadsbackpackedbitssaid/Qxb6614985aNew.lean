import Derived.Test.Qxb6614985aDone
namespace Go.Proofs.Qxb6614985a
open Go.RowKit

theorem row_some {w : World} {base e n : Nat} {v : Value} {xs : List Value} (h : w.ownsRow base e 1 v n xs) (k : Nat) (hk : k < n) : ∃ u, xs[k]? = some u := by
  have := h.1
  exact ⟨xs[k]'(by omega), List.getElem?_eq_getElem _⟩

/-- One store into the row, a draw behind it. -/
theorem row_step {w wr : World} {B n k : Nat} {xs : List Value} {x : Nat → Nat} (hk : k < n) (hbel : Below B w wr) (hxs : ∀ j, j < k → xs[j]? = some (.int .u64 (x j)))
    (hown : wr.ownsRow B 35 1 (.slice (some ⟨B, 0, none⟩) n n) n xs) :
    Below B w ((wr.setCell ⟨B, k, none⟩ (.int .u64 (x k))).drew) ∧ ∃ ys, ((wr.setCell ⟨B, k, none⟩ (.int .u64 (x k))).drew).ownsRow B 35 1 (.slice (some ⟨B, 0, none⟩) n n) n ys ∧ ∀ j, j < k + 1 → ys[j]? = some (.int .u64 (x j)) := by
  obtain ⟨h1, h2⟩ := hown.stored k (.int .u64 (x k))
  refine ⟨?_, xs.set k (.int .u64 (x k)), ?_, ?_⟩
  · exact (hbel.setCell (p := ⟨B, k, none⟩) (Nat.le_refl _) _).drew
  · exact h1
  · intro j hj
    have hl := hown.1
    by_cases e : k = j
    · subst e; rw [List.getElem?_set_self (by omega)]
    · rw [List.getElem?_set_ne e]; exact hxs j (by omega)

set_option maxHeartbeats 1000000 in
theorem new_any (b off n c : Nat) (x : Nat → Nat) (w : World) (hn : n ≤ 1048576) (hb : b < w.heap.size)
   (h0 : ∀ j, j < n → w.cell? ⟨b, off + j, none⟩ = some (.int .u64 (x j))) :
    Calls Try.prog 6 #[.slice (some ⟨b, off, none⟩) n c] w fun e w' => e = .returned (.slice (some ⟨w.heap.size, 0, none⟩) n n) ∧ Below w.heap.size w w' ∧
      ∃ xs, w'.ownsRow w.heap.size 35 1 (.slice (some ⟨w.heap.size, 0, none⟩) n n) n xs ∧ ∀ j, j < n → xs[j]? = some (.int .u64 (x j)) := by
  obtain ⟨i0, hi, hz0, hz1, hz2⟩ := info_parts Try.info35
  go_enter Try.func6, Try.ntmps6
  go_wp2_with (at_make; refine wpList_make_full _ rfl _ _ 27 rfl w.heap.size 35 i0 _ 1 Try.underlying27 hi hz0 hz1 .i64 .i64 n n n rfl rfl rfl rfl (by rw [hz2]; omega) (by unfold maxLen; omega) (Nat.le_refl _) ?_; intro w1 hown hgrow)
  go_loopw [10] (fun i wr => ∃ k : Nat, k ≤ n ∧ i = .int .i64 k ∧ Below w.heap.size w wr ∧ ∃ xs, wr.ownsRow w.heap.size 35 1 (.slice (some ⟨w.heap.size, 0, none⟩) n n) n xs ∧ ∀ j, j < k → xs[j]? = some (.int .u64 (x j)))
    (fun i _ => n - (intOf i).toNat)
  case atStart => exact ⟨0, Nat.zero_le _, rfl, (Below.refl _ _).grown hgrow (Nat.le_refl _) (by simp), _, hown, by omega⟩
  case round =>
    obtain ⟨k, hk, rfl, hbel, xs, hown', hxs⟩ := hrel
    clear hown hgrow hi hz0 hz1 hz2
    by_cases hlt : k < n
    · have hlt' : (k : Int) < (n : Int) := by omega
      have hk0 : (0 : Int) ≤ (k : Int) := by omega
      have hc1 : wr.cell? ⟨b, off + k, none⟩ = some (.int .u64 (x k)) := (hbel.cell (by exact hb)).trans (h0 k hlt)
      have hc3 : (wr.setCell ⟨w.heap.size, k, none⟩ (.int .u64 (x k))).cell? ⟨b, off + k, none⟩ = some (.int .u64 (x k)) := by
        rw [World.cell?_setCell_other _ ⟨w.heap.size, k, none⟩ ⟨b, off + k, none⟩ _ (by intro h; have := congrArg Addr.block h; simp at this; omega)]; exact hc1
      obtain ⟨u, hu⟩ := row_some hown' k hlt
      have hc2 : wr.cell? ⟨w.heap.size, k, none⟩ = some u := (hown'.cellAt k (by omega)).trans hu
      have hf2 := hown'.frozenAt k
      have R := row_step hlt hbel hxs hown'
      have HR := (show Hid _ from R)
      clear R hxs hown' hbel h0 hu
      go_wp2
      go_region_held3 (fun w' => w'.cell? ⟨b, off + k, none⟩ = some (.int .u64 (x k))) (go_keep) ((go_at_call 9; refine (store_any _ k (x k) u _ ?_ ?_).mono ?_; (simp [*]); (simp [*]); rintro e w' ⟨rfl, rfl⟩))
      go_wp2
      go_roundw
      case rel => exact ⟨k + 1, by omega, by go_num, HR.out.1, HR.out.2⟩
      case measure => simp [intOf]; omega
    · go_wp2
      go_ret
      obtain rfl : k = n := by omega
      exact ⟨rfl, hbel, xs, hown', hxs⟩
end Go.Proofs.Qxb6614985a
