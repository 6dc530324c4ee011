import Derived.Test.Qxb6614985aCounts
namespace Go.Proofs.Qxb6614985a
open Go.RowKit

set_option maxHeartbeats 1000000 in
/-- No flag at all. -/
theorem packed_zero (a : Option Addr) (c : Nat) (w : World) :
    Calls Try.prog 3 #[.slice a 0 c] w fun e w' => e = .returned (.bool true) ∧ Below w.heap.size w w' := by
  obtain ⟨i0, hi, hz0, hz1, hz2⟩ := info_parts Try.info25
  go_enter Try.func3, Try.ntmps3
  go_wp2_with (first
    | (go_at_call 5; refine (bytes3_any _ _ _ _ (by decide)).mono ?_; rintro e w' ⟨rfl, rfl⟩)
    | (at_make; refine wpList_make_full _ rfl _ _ 24 rfl w.heap.size 25 i0 _ 1 Try.underlying24 hi hz0 hz1 .i64 .i64 _ _ 0 rfl rfl rfl rfl (by omega) (by unfold maxLen; omega) (Nat.le_refl _) ?_; intro w1 hown hgrow))
  refine wp_loop_rounds 1 ?_; rw [rounds_succ]
  go_wp2_with (go_at_call 6; refine (new_zero _ _ _).mono ?_; rintro e w2 ⟨rfl, hb2⟩)
  refine wp_loop_rounds 1 ?_; rw [rounds_succ]
  go_wp2
  go_ret
  have hb1 : Below w.heap.size w w1 := (Below.refl _ _).grown hgrow (Nat.le_refl _) (by simp)
  exact ⟨rfl, hb1.trans (hb2.mono hb1.size)⟩

theorem row_store {w wr : World} {B n k e : Nat} {xs : List Value} {x : Nat → Nat} (hk : k < n) (hbel : Below B w wr) (hxs : ∀ j, j < k → xs[j]? = some (.int .u64 (x j)))
    (hown : wr.ownsRow B e 1 (.slice (some ⟨B, 0, none⟩) n n) n xs) :
    Below B w (wr.setCell ⟨B, k, none⟩ (.int .u64 (x k))) ∧ ∃ ys, (wr.setCell ⟨B, k, none⟩ (.int .u64 (x k))).ownsRow B e 1 (.slice (some ⟨B, 0, none⟩) n n) n ys ∧ ∀ j, j < k + 1 → ys[j]? = some (.int .u64 (x j)) := by
  obtain ⟨h1, h2⟩ := hown.stored k (.int .u64 (x k))
  refine ⟨hbel.setCell (p := ⟨B, k, none⟩) (Nat.le_refl _) _, xs.set k (.int .u64 (x k)), h1, ?_⟩
  intro j hj
  have hl := hown.1
  by_cases e : k = j
  · subst e; rw [List.getElem?_set_self (by omega)]
  · rw [List.getElem?_set_ne e]; exact hxs j (by omega)

/-- Flag m of word j. -/
def flag (f : Nat → Bool) (len j m : Nat) : Bool := decide (j * 64 + m < len) && f (j * 64 + m)

theorem flag_back (f : Nat → Bool) (len i : Nat) (h : i < len) : (acc (flag f len (i / 64)) 64).testBit (i % 64) = f i := by
  rw [acc_bit _ 64 (Nat.le_refl _) (i % 64) (by omega)]
  have e : i / 64 * 64 + (64 - 64 + i % 64) = i := by omega
  simp only [flag, e, h, decide_true, Bool.true_and]

set_option maxHeartbeats 1000000 in
theorem packed_some (b off len c : Nat) (f : Nat → Bool) (w : World) (h0 : 0 < len) (hlen : len ≤ maxLen) (hb : b < w.heap.size)
    (hf : ∀ j, j < len → w.cell? ⟨b, off + j, none⟩ = some (.bool (f j))) :
    Calls Try.prog 3 #[.slice (some ⟨b, off, none⟩) len c] w fun e w' => e = .returned (.bool true) ∧ Below w.heap.size w w' := by
  obtain ⟨i0, hi, hz0, hz1, hz2⟩ := info_parts Try.info25
  by_cases hbig : 65536 < len
  · by_cases hh : len ≤ 1048576
    all_goals
      go_enter Try.func3, Try.ntmps3
      go_wp2_with (go_at_call 5; refine (bytes3_any _ _ _ _ hlen).mono ?_; rintro e w' ⟨rfl, rfl⟩)
      go_ret
      exact ⟨rfl, Below.refl _ _⟩
  have hn1 : len ≤ 65536 := by omega
  have hn2 : len ≤ 1048576 := by omega
  obtain ⟨n, hn⟩ : ∃ n, n = (len + 63) / 64 := ⟨_, rfl⟩
  have HN : Hid _ := hn
  have hnle : n ≤ 1024 := by omega
  have HI : Hid (((len : Int) + 63) / 64 = (n : Int)) := by show _ = _; omega
  clear hn
  go_enter Try.func3, Try.ntmps3
  go_wp2_with (first
    | (go_at_call 5; refine (bytes3_any _ _ _ _ hlen).mono ?_; rintro e w' ⟨rfl, rfl⟩)
    | (at_make; refine wpList_make_full _ rfl _ _ 24 rfl w.heap.size 25 i0 _ 1 Try.underlying24 hi hz0 hz1 .i64 .i64 _ _ n rfl rfl HI.out HI.out (by rw [hz2]; omega) (by unfold maxLen; omega) (Nat.le_refl _) ?_; intro w1 hown0 hgrow; obtain ⟨zs0, hown⟩ : ∃ zs, w1.ownsRow w.heap.size 25 1 (.slice (some ⟨w.heap.size, 0, none⟩) n n) n zs := ⟨_, hown0⟩; clear hown0))
  go_loopw [5] (fun j wr => ∃ k : Nat, k ≤ n ∧ j = .int .i64 k ∧ Below w.heap.size w wr ∧ ∃ xs, wr.ownsRow w.heap.size 25 1 (.slice (some ⟨w.heap.size, 0, none⟩) n n) n xs ∧ ∀ j, j < k → xs[j]? = some (.int .u64 (acc (flag f len j) 64 : Nat)))
    (fun j _ => n - (intOf j).toNat)
  case atStart => exact ⟨0, Nat.zero_le _, rfl, (Below.refl _ _).grown hgrow (Nat.le_refl _) (by simp), _, hown, by omega⟩
  case round =>
    obtain ⟨k, hk, rfl, hbel, xs, hown', hxs⟩ := hrel
    clear hown hgrow hi hz0 hz1 hz2
    have hI := HI.out
    by_cases hlt : k < n
    · have hlt' : (k : Int) < ((len : Int) + 63) / 64 := by omega
      have hlt2 : (k : Int) < (n : Int) := by omega
      have hk0 : (0 : Int) ≤ (k : Int) := by omega
      obtain ⟨u, hu⟩ := row_some hown' k hlt
      have hc2 : wr.cell? ⟨w.heap.size, k, none⟩ = some u := (hown'.cellAt k (by omega)).trans hu
      have hf2 := hown'.frozenAt k
      have hcw : ∀ m, k * 64 + m < len → wr.cell? ⟨b, off + (k * 64 + m), none⟩ = some (.bool (f (k * 64 + m))) := fun m hm => (hbel.cell (by exact hb)).trans (hf _ hm)
      have HX : Hid _ := hxs
      have HO : Hid _ := hown'
      have HB : Hid _ := hbel
      have HF : Hid _ := hf
      clear hI hxs hown' hbel hf hu
      go_wp2
      go_loop [6, 7] (fun v i => ∃ s : Nat, s ≤ 64 ∧ i = .int .i64 (63 - (s : Int)) ∧ v = .int .u64 (acc (flag f len k) s : Nat)) (fun _ i => (intOf i + 1).toNat)
      case atStart => exact ⟨0, by omega, rfl, rfl⟩
      case round =>
        obtain ⟨s, hs, rfl, rfl⟩ := hrel
        by_cases hs64 : s < 64
        · have ha := acc_lt63 (flag f len k) s (by omega)
          have HA : Hid (acc (flag f len k) (s + 1) = 2 * acc (flag f len k) s + (flag f len k (63 - s)).toNat) := rfl
          have e63 : ((63 - s : Nat) : Int) = 63 - (s : Int) := by omega
          have HE : Hid _ := e63
          generalize acc (flag f len k) s = q at *
          clear e63
          by_cases hin : k * 64 + (63 - s) < len
          · have hcc := hcw (63 - s) hin
            have hinI : (k : Int) * 64 + (63 - (s : Int)) < (len : Int) := by omega
            cases hfv : f (k * 64 + (63 - s))
            all_goals
              have HV : Hid (flag f len k (63 - s) = f (k * 64 + (63 - s))) := by show _ = _; simp [flag, hin]
              rw [hfv] at hcc
              clear hcw
              go_wp2
              go_round
              case rel => exact ⟨s + 1, by omega, by go_num, by rw [HA.out, HV.out, hfv]; go_num⟩
              case measure => simp [intOf]; omega
          · have hinI : ¬ (k : Int) * 64 + (63 - (s : Int)) < (len : Int) := by omega
            have HV : Hid (flag f len k (63 - s) = false) := by show _ = _; simp [flag, hin]
            clear hcw
            go_wp2
            go_round
            case rel => exact ⟨s + 1, by omega, by go_num, by rw [HA.out, HV.out]; go_num⟩
            case measure => simp [intOf]; omega
        · obtain rfl : s = 64 := by omega
          have HS : Hid _ := row_store (x := fun j => acc (flag f len j) 64) hlt HB.out HX.out HO.out
          clear hcw
          go_wp2
          go_roundw
          case rel => exact ⟨k + 1, by omega, by go_num, HS.out.1, HS.out.2⟩
          case measure => simp [intOf]; omega
    · obtain rfl : k = n := by omega
      have hnlt : ¬ (k : Int) < ((len : Int) + 63) / 64 := by omega
      have hsz : w.heap.size < wr.heap.size := lt_of_block (row_block hown')
      have hw2 : ∀ j, j < k → wr.cell? ⟨w.heap.size, 0 + j, none⟩ = some (.int .u64 ((fun j => acc (flag f len j) 64) j : Nat)) := fun j hj => by
        rw [Nat.zero_add, hown'.cellAt j (by omega), hxs j hj]
      have hfr : ∀ j, j < len → wr.cell? ⟨b, off + j, none⟩ = some (.bool (f j)) := fun j hj => (hbel.cell (by exact hb)).trans (hf j hj)
      have HBL : Hid _ := hbel
      have HK : Hid _ := hI
      clear hown' hxs hf hbel hI
      go_wp2_with (go_at_call 6; refine (new_any w.heap.size 0 k k (fun j => acc (flag f len j) 64) _ (by omega) hsz hw2).mono ?_; rintro e w3 ⟨rfl, hb3, ys, hown3, hys⟩)
      have HN2 : Hid (Below w.heap.size w w3) := HBL.out.trans (hb3.mono (by omega))
      have hfr3 : ∀ j, j < len → w3.cell? ⟨b, off + j, none⟩ = some (.bool (f j)) := fun j hj => (hb3.cell (by exact (show b < wr.heap.size by omega))).trans (hfr j hj)
      have hcal : ∀ (i : Nat) (wx : World), i < len → (∀ a, wx.cell? a = w3.cell? a) → Calls Try.prog 7 #[.slice (some ⟨wr.heap.size, 0, none⟩) k k, .int .i64 (i : Int)] wx fun e w' => e = .returned (.bool (f i)) ∧ ∃ m, w' = wx.drewN m := fun i wx hi hwx => by
        have hin : i / 64 < k := by have := HK.out; omega
        have := splitDone_any wr.heap.size k k i (acc (flag f len (i / 64)) 64) wx hin (by omega) (acc_lt64 _ _ (Nat.le_refl _)) (by rw [hwx]; exact (hown3.cellAt (i / 64) (by omega)).trans (hys _ hin))
        rwa [flag_back f len i hi] at this
      have HC : Hid _ := hcal
      clear hcal hown3 hys hb3 hfr hw2
      go_loopw [10] (fun i wx => ∃ m d : Nat, m ≤ len ∧ i = .int .i64 m ∧ wx = w3.drewN d) (fun i _ => len - (intOf i).toNat)
      case atStart => exact ⟨0, 0, Nat.zero_le _, rfl, rfl⟩
      case round =>
        obtain ⟨m, d, hm, rfl, hwx⟩ := hrel
        have HW : Hid _ := hwx
        have hce : ∀ a, wr.cell? a = w3.cell? a := fun a => by rw [hwx]; rfl
        clear hwx
        by_cases hml : m < len
        · have h1 : (m : Int) < (len : Int) := by omega
          have h2 : (0 : Int) ≤ (m : Int) := by omega
          have hcm : wr.cell? ⟨b, off + m, none⟩ = some (.bool (f m)) := (hce _).trans (hfr3 m hml)
          have HE : Hid _ := hce
          clear hfr3 hce
          go_wp2
          go_quiet ((go_at_call 7; exact Calls.quiet_of (HC.out m _ hml (by exact HE.out))))
          go_wp2
          go_roundw
          case rel => exact ⟨m + 1, _, by omega, by go_num, by rw [HW.out]; exact World.drewN_drewN _ _ _⟩
          case measure => simp [intOf]; omega
        · clear hfr3 hce
          go_wp2
          go_ret
          exact ⟨rfl, by rw [HW.out]; exact below_drewN HN2.out _⟩
end Go.Proofs.Qxb6614985a
