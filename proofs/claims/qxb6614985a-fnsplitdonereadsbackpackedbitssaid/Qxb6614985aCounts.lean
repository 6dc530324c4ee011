import Derived.Test.Qxb6614985aNew
import Derived.Laws.CopyOwn
namespace Go.Proofs.Qxb6614985a
open Go.RowKit

set_option maxHeartbeats 1000000 in
theorem new_zero (a : Option Addr) (c : Nat) (w : World) :
    Calls Try.prog 6 #[.slice a 0 c] w fun e w' => e = .returned (.slice (some ⟨w.heap.size, 0, none⟩) 0 0) ∧ Below w.heap.size w w' := by
  obtain ⟨i0, hi, hz0, hz1, hz2⟩ := info_parts Try.info35
  go_enter Try.func6, Try.ntmps6
  go_wp2_with (at_make; refine wpList_make_full _ rfl _ _ 27 rfl w.heap.size 35 i0 _ 1 Try.underlying27 hi hz0 hz1 .i64 .i64 0 0 0 rfl rfl rfl rfl (by omega) (by unfold maxLen; omega) (Nat.le_refl _) ?_; intro w1 hown hgrow)
  refine wp_loop_rounds 1 ?_; rw [rounds_succ]
  go_wp2
  go_ret
  exact ⟨rfl, (Below.refl _ _).grown hgrow (Nat.le_refl _) (by simp)⟩

set_option maxHeartbeats 1000000 in
/-- The nil slice. -/
theorem counts_nil (c : Nat) (w : World) :
    Calls Try.prog 4 #[.slice none 0 c] w fun e w' => e = .returned (.bool true) ∧ Below w.heap.size w w' := by
  go_enter Try.func4, Try.ntmps4
  go_wp2_with (first | (go_at_call 8; refine (bytes4_any _ _ _ _ (by decide)).mono ?_; rintro e w' ⟨rfl, rfl⟩) | (go_at_call 6; refine (new_zero _ _ _).mono ?_; rintro e w1 ⟨rfl, hb1⟩))
  refine wp_loop_rounds 1 ?_; rw [rounds_succ]
  go_wp2
  go_ret
  exact ⟨rfl, hb1⟩

theorem addr_block (a : Addr) (n : Nat) : (a.add n).block = a.block := by unfold Addr.add; split <;> rfl

/-- Out of an owned row: its block. -/
theorem row_block {w : World} {B e n : Nat} {xs : List Value} (h : w.ownsRow B e 1 (.slice (some ⟨B, 0, none⟩) n n) n xs) : w.heap[B]? = some (.cells xs.toArray e (0, 0)) := by
  rcases h.2 with ⟨h', _⟩ | ⟨g', cap', cur, h', _, hg, _, _, hcs, htake⟩
  · simp at h'
  · simp only [Value.slice.injEq, Option.some.injEq, Addr.mk.injEq, and_true, true_and] at h'
    obtain ⟨rfl, rfl⟩ := h'
    rw [hg, ← htake, List.take_of_length_le (by simp [hcs])]

theorem splice_whole {α : Type} (xs cs : List α) (h : cs.length = xs.length) : splice xs 0 cs = cs := by
  simp [splice, h]

theorem block_cell {w : World} {B e : Nat} {cs : List Value} (h : w.heap[B]? = some (.cells cs.toArray e (0, 0))) (j : Nat) : w.cell? ⟨B, j, none⟩ = cs[j]? := by
  rw [cell_of_row w B j _ e (0, 0) h]; simp

def wordsL (x : Nat → Nat) (n : Nat) : List Value := (List.range n).map fun j => Value.int .u64 (x j)
theorem wordsL_len (x : Nat → Nat) (n : Nat) : (wordsL x n).length = n := by simp [wordsL]
theorem wordsL_at (x : Nat → Nat) (n j : Nat) (h : j < n) : (wordsL x n)[j]? = some (.int .u64 (x j)) := by simp [wordsL, h]
theorem wordsL_one (x : Nat → Nat) (n : Nat) : ∀ v ∈ wordsL x n, v.oneCell' = true := by
  intro v hv
  simp only [wordsL, List.mem_map] at hv
  obtain ⟨j, _, rfl⟩ := hv
  rfl

set_option maxHeartbeats 2000000 in
theorem counts_some (ad : Addr) (n c : Nat) (x : Nat → Nat) (w : World) (hn : n ≤ maxLen) (hx : ∀ j, x j < 18446744073709551616)
    (h0 : ∀ j, j < n → w.cell? (ad.add j) = some (.int .u64 (x j))) (h1 : 0 < n → ad.block < w.heap.size) :
    Calls Try.prog 4 #[.slice (some ad) n c] w fun e w' => e = .returned (.bool true) ∧ Below w.heap.size w w' := by
  obtain ⟨i0, hi, hz0, hz1, hz2⟩ := info_parts Try.info25
  have hsz : (Try.prog.info? 25).map (·.size) = some 1 := by rw [hi]; simp [hz1]
  by_cases hbig : 16384 < n
  · by_cases hh : n ≤ 1048576
    all_goals
      go_enter Try.func4, Try.ntmps4
      go_wp2_with (go_at_call 8; refine (bytes4_any _ _ _ _ hn).mono ?_; rintro e w' ⟨rfl, rfl⟩)
      go_ret
      exact ⟨rfl, Below.refl _ _⟩
  have hn1 : n ≤ 16384 := by omega
  have hn2 : n ≤ 1048576 := by omega
  have hnn := fun wx => run_neq_slice_nil_any (P := Try.prog) wx 24 25 (some ad) n c 0 0 Try.underlying24
  go_enter Try.func4, Try.ntmps4
  go_wp2_with (first
    | (go_at_call 8; refine (bytes4_any _ _ _ _ hn).mono ?_; rintro e w' ⟨rfl, rfl⟩)
    | (at_make; refine wpList_make_full _ rfl _ _ 24 rfl w.heap.size 25 i0 _ 1 Try.underlying24 hi hz0 hz1 .i64 .i64 n n n rfl rfl rfl rfl (by rw [hz2]; omega) (by unfold maxLen; omega) (Nat.le_refl _) ?_; intro w1 hown0 hgrow; obtain ⟨zs0, hown⟩ : ∃ zs, w1.ownsRow w.heap.size 25 1 (.slice (some ⟨w.heap.size, 0, none⟩) n n) n zs := ⟨_, hown0⟩; clear hown0)
    | (refine wpList_copy_splice rfl _ _ 24 24 rfl 25 Try.underlying24 hsz _ _ _ _ _ _ rfl rfl w.heap.size 0 _ 25 (row_block hown) (wordsL x n) (by rw [wordsL_len]; simp) ?hpos (by rw [wordsL_len, hown.1]; omega) (wordsL_one x n) w.heap.size w ((Below.refl _ _).grown hgrow (Nat.le_refl _) (by simp)) (Nat.le_refl _) ?hgo))
  case hpos =>
    intro hp j v hj
    have hjn : j < n := by
      have := (List.getElem?_eq_some_iff.1 hj).1
      rwa [wordsL_len] at this
    rw [wordsL_at x n j hjn] at hj
    rw [← hj, ← h0 j hjn]
    exact World.cell?_of_block (w := w) (a := ad.add j) (hgrow.block (ad.add j).block (by rw [addr_block]; exact h1 (by omega)) (by simp))
  case hgo =>
    intro w2 HW hb2
    rw [wordsL_len, splice_whole _ _ (by rw [wordsL_len, hown.1]; omega)] at *
    have hsz2 : w.heap.size < w2.heap.size := lt_of_block HW.out
    have hw2 : ∀ j, j < n → w2.cell? ⟨w.heap.size, 0 + j, none⟩ = some (.int .u64 (x j)) := fun j hj => by
      rw [Nat.zero_add, block_cell HW.out, wordsL_at x n j hj]
    clear hown hgrow
    go_wp2_with (go_at_call 6; refine (new_any w.heap.size 0 n n x _ hn2 hsz2 hw2).mono ?_; rintro e w3 ⟨rfl, hb3, xs, hown3, hxs⟩)
    have hw3 : ∀ j, j < n → w3.cell? ⟨w.heap.size, j, none⟩ = some (.int .u64 (x j)) := fun j hj => by
      rw [hb3.cell (p := ⟨w.heap.size, j, none⟩) hsz2]; simpa using hw2 j hj
    have hc3 : ∀ j, j < n → w3.cell? ⟨w2.heap.size, j, none⟩ = some (.int .u64 (x j)) := fun j hj => by
      rw [hown3.cellAt j (by omega), hxs j hj]
    have HB : Hid (Below w.heap.size w w3) := hb2.trans (hb3.mono (by omega))
    clear hw2 hb2 hb3 hown3 hxs hi hz0 hz1 hz2 h0 h1
    go_loopw [5] (fun j wr => ∃ k d : Nat, k ≤ n ∧ j = .int .i64 k ∧ wr = w3.drewN d) (fun j _ => n - (intOf j).toNat)
    case atStart => exact ⟨0, 0, Nat.zero_le _, rfl, rfl⟩
    case round =>
      obtain ⟨k, d, hk, rfl, rfl⟩ := hrel
      by_cases hlt : k < n
      · have hlt' : (k : Int) < (n : Int) := by omega
        have hk0 : (0 : Int) ≤ (k : Int) := by omega
        have hcw := hw3 k hlt
        have hcc := hc3 k hlt
        have hxk := hx k
        have HC : Hid _ := hw3
        clear hw3 hc3
        go_wp2
        go_loop [6, 7] (fun a b => ∃ c v : Nat, a = .int .i64 c ∧ b = .int .u64 v ∧ c + pop 64 v = pop 64 (x k) ∧ v < 18446744073709551616) (fun _ b => (intOf b).toNat)
        case atStart => exact ⟨0, x k, rfl, rfl, by omega, hxk⟩
        case round =>
          obtain ⟨c, v, rfl, rfl, hcv, hv⟩ := hrel
          have hp64 := pop_le 64 (x k)
          by_cases hv0 : v = 0
          · subst hv0
            have HP : Hid (c = ones (x k) 64) := by
              rw [pop_zero] at hcv
              show c = ones (x k) 64
              rw [ones_pop]; omega
            clear hcv hv hp64
            have HX : Hid _ := hx
            have HXK : Hid _ := hxk
            clear hx hxk
            go_wp2
            go_loopw [8, 9] (fun g i wr => ∃ m d : Nat, m ≤ 64 ∧ i = .int .i64 m ∧ g = .int .i64 (ones (x k) m : Nat) ∧ wr = w3.drewN d) (fun _ i _ => 64 - (intOf i).toNat)
            case atStart => exact ⟨0, d, Nat.zero_le _, rfl, rfl, rfl⟩
            case round =>
              obtain ⟨m, d, hm, rfl, rfl, rfl⟩ := hrel
              have hol := ones_le (x k) m
              by_cases hm64 : m < 64
              · have hos : ones (x k) (m + 1) = ones (x k) m + ((x k).testBit m).toNat := rfl
                have HO : Hid _ := hos
                clear hos
                cases hbit : (x k).testBit m
                all_goals
                  go_wp2_with (go_at_call 7; refine (splitDone_km _ n n k m (x k) _ hlt (by omega) hm64 HXK.out (by exact hcc)).mono ?_; rintro e w' ⟨rfl, d', rfl⟩)
                  go_roundw
                  case rel => exact ⟨m + 1, d + d', by omega, by go_num, by rw [HO.out, hbit]; go_num, by first | rfl | (simp [World.drewN]; done)⟩
                  case measure => simp [intOf]; omega
              · obtain rfl : m = 64 := by omega
                rw [← HP.out]
                clear hol hm64 hm
                go_wp2
                go_roundw
                case rel => exact ⟨k + 1, d, by omega, by go_num, rfl⟩
                case measure => simp [intOf]; omega
          · have HA : Hid _ := and_pred v hv0 hv
            have HS : Hid _ := pop_step 64 v (by omega) hv0
            have HL := and_pred_lt v hv0
            have hb : (((v : Int)) != 0) = true := by rw [bne_iff_ne]; omega
            have hv1 : (1 : Int) ≤ (v : Int) := by omega
            go_wp2
            go_round
            case rel => exact ⟨c + 1, v &&& (v - 1), by go_num, by rw [HA.out], by have := HS.out; omega, by omega⟩
            case measure => simp only [intOf]; rw [HA.out]; simp; exact HL
      · go_wp2
        go_ret
        exact ⟨rfl, below_drewN HB.out _⟩
end Go.Proofs.Qxb6614985a
