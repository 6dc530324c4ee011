import Derived.Test.Qxb6614997aFit
import Derived.Test.Qxb6614997aRow
namespace Go.Proofs.Qxb6614997a
open Go.RowKit
theorem Try.info40 : (Try.prog.info? 40).map (fun i => (i.zero, i.size, i.bytes)) = some (some (.slice none 0 0), 1, 24) := by kernel_rfl
theorem Try.info41 : (Try.prog.info? 41).map (fun i => (i.zero, i.size, i.bytes)) = some (some (.int .u64 0), 1, 8) := by kernel_rfl

variable {b off n c : Nat} {A : Nat → Option Addr} {L C bb oo : Nat → Nat} {X : Nat → Nat → Nat}

theorem grid_lt {w : World} (g : Grid w b off n A L C bb oo X) (h0 : 0 < n) : b < w.heap.size := World.block_lt_of_cell? _ _ (g.top 0 h0)
theorem grid_lt2 {w : World} (g : Grid w b off n A L C bb oo X) (i : Nat) (hi : i < n) (h0 : 0 < L i) : bb i < w.heap.size := World.block_lt_of_cell? _ _ (g.cell i hi 0 h0)
/-- A grid stays where nothing old is turned. -/
theorem grid_below {w w' : World} (g : Grid w b off n A L C bb oo X) (h0 : 0 < n) (h : Below w.heap.size w w') : Grid w' b off n A L C bb oo X :=
  ⟨fun i hi => (h.cell (p := ⟨b, off + i, none⟩) (grid_lt g h0)).trans (g.top i hi), g.len, g.adr, g.nul,
   fun i hi j hj => (h.cell (p := ⟨bb i, oo i + j, none⟩) (grid_lt2 g i hi (by omega))).trans (g.cell i hi j hj)⟩

/-- The last row so far made (of k): where it lies, and its last key. -/
def LastRow (w : World) (B : Nat) (L : Nat → Nat) (X : Nat → Nat → Nat) (xs : List Value) (k : Nat) : Prop :=
  0 < k → ∃ G, B < G ∧ G < w.heap.size ∧ xs[k - 1]? = some (.slice (some ⟨G, 0, none⟩) (L (k - 1)) (L (k - 1))) ∧ (0 < L (k - 1) → w.cell? ⟨G, L (k - 1) - 1, none⟩ = some (.int .u64 (X (k - 1) (L (k - 1) - 1))))

theorem lastRow_below {w w' : World} {B k : Nat} {xs : List Value} (h : LastRow w B L X xs k) (hb : Below w.heap.size w w') : LastRow w' B L X xs k := fun hk => by
  obtain ⟨G, h1, h2, h3, h4⟩ := h hk
  have := hb.size
  exact ⟨G, h1, by omega, h3, fun hl => (hb.cell (p := ⟨G, L (k - 1) - 1, none⟩) h2).trans (h4 hl)⟩

/-- One key laid into the row. -/
theorem key_step {wo wr : World} {Lk m v : Nat} {x : Nat → Nat} {ys : List Value} (hm : m < Lk) (hbi : Below wo.heap.size wo wr) (hy : RowAt wr wo.heap.size 41 ys) (hyl : ys.length = Lk) (hv : v = x m) :
    Below wo.heap.size wo (wr.setCell ⟨wo.heap.size, m, none⟩ (.int .u64 v)) ∧ ∃ zs, RowAt (wr.setCell ⟨wo.heap.size, m, none⟩ (.int .u64 v)) wo.heap.size 41 zs ∧ zs.length = Lk ∧ (0 < m + 1 → zs[m + 1 - 1]? = some (.int .u64 (x (m + 1 - 1)))) := by
  subst hv
  refine ⟨hbi.setCell (p := ⟨wo.heap.size, m, none⟩) (Nat.le_refl _) _, _, hy.store m _, by simpa using hyl, fun _ => ?_⟩
  simp only [Nat.add_sub_cancel]
  rw [List.getElem?_set_self (by omega)]

theorem lastRow_step {w wr wi : World} {B n k : Nat} {xs ys : List Value} (hk : k < n) (hB : B < wr.heap.size) (hbel : Below w.heap.size w wr) (hwB : w.heap.size = B) (hx : RowAt wr B 40 xs) (hxl : xs.length = n)
    (hi : Below wr.heap.size wr wi) (hy : RowAt wi wr.heap.size 41 ys) (hl : 0 < L k → ys[L k - 1]? = some (.int .u64 (X k (L k - 1)))) :
    Below w.heap.size w (wi.setCell ⟨B, k, none⟩ (.slice (some ⟨wr.heap.size, 0, none⟩) (L k) (L k))) ∧
    ∃ zs, RowAt (wi.setCell ⟨B, k, none⟩ (.slice (some ⟨wr.heap.size, 0, none⟩) (L k) (L k))) B 40 zs ∧ zs.length = n ∧
      LastRow (wi.setCell ⟨B, k, none⟩ (.slice (some ⟨wr.heap.size, 0, none⟩) (L k) (L k))) B L X zs (k + 1) := by
  have hxi := hx.below hi hB
  refine ⟨(hbel.trans (hi.mono (by omega))).setCell (p := ⟨B, k, none⟩) (by simp [hwB]) _, _, hxi.store k _, by simpa using hxl, fun _ => ⟨wr.heap.size, hB, (hy.other (by omega) _).lt, ?_, fun h => ?_⟩⟩
  · simp only [Nat.add_sub_cancel]
    rw [List.getElem?_set_self (by omega)]
  · simp only [Nat.add_sub_cancel] at h ⊢
    rw [(hy.other (g' := B) (j := k) (by omega) _).cell]
    exact hl h

set_option maxHeartbeats 1000000 in
theorem newKeys_any (w : World) (t : Int) (h0 : 0 < n) (hn : n ≤ 4096) (hL : ∀ i, i < n → L i ≤ 8192) (g : Grid w b off n A L C bb oo X) :
    Calls Try.prog 8 #[.slice (some ⟨b, off, none⟩) n c, .int .i64 t] w fun e w' => ∃ K, e = .returned (.pointer (some ⟨K, 0, none⟩)) ∧ w.heap.size < K ∧ Below w.heap.size w w' ∧
      w'.cell? ⟨K, 0, none⟩ = some (.slice (some ⟨w.heap.size, 0, none⟩) n n) ∧ w'.cell? ⟨K, 1, none⟩ = some (.int .i64 t) ∧
      ∃ xs, RowAt w' w.heap.size 40 xs ∧ LastRow w' w.heap.size L X xs n := by
  obtain ⟨i0, hi, hz0, hz1, hz2⟩ := info_parts Try.info40
  obtain ⟨i1, gi, gz0, gz1, gz2⟩ := info_parts Try.info41
  go_enter Try.func8, Try.ntmps8
  go_wp2_with (at_make; refine wpList_make_full _ rfl _ _ 39 rfl w.heap.size 40 i0 _ 1 Try.underlying39 hi hz0 hz1 .i64 .i64 n n n rfl rfl rfl rfl (by rw [hz2]; omega) (by unfold maxLen; omega) (Nat.le_refl _) ?_; intro w1 hown0 hgrow; obtain ⟨zs0, hown⟩ : ∃ zs, w1.ownsRow w.heap.size 40 1 (.slice (some ⟨w.heap.size, 0, none⟩) n n) n zs := ⟨_, hown0⟩; clear hown0)
  go_loopw [14] (fun i wr => ∃ k : Nat, k ≤ n ∧ i = .int .i64 k ∧ Below w.heap.size w wr ∧ ∃ xs, RowAt wr w.heap.size 40 xs ∧ xs.length = n ∧ LastRow wr w.heap.size L X xs k)
    (fun i _ => n - (intOf i).toNat)
  case atStart => exact ⟨0, Nat.zero_le _, rfl, (Below.refl _ _).grown hgrow (Nat.le_refl _) (by simp), _, row_block hown, hown.1.trans (by omega), fun h => absurd h (by omega)⟩
  case round =>
    obtain ⟨k, hk, rfl, hbel, xs, hx, hxl, hrow⟩ := hrel
    clear hown hgrow hi hz0 hz1 hz2
    by_cases hlt : k < n
    · clear hrow
      have hlt' : (k : Int) < (n : Int) := by omega
      have hk0 : (0 : Int) ≤ (k : Int) := by omega
      obtain ⟨wo, rfl⟩ : ∃ wo, wo = wr := ⟨_, rfl⟩
      have g' := grid_below g h0 hbel
      have hB := hx.lt
      have h1 := g'.top k hlt
      have h2 := hL k hlt
      have hbw := grid_lt g' h0
      have HX : Hid _ := hx
      have HXL : Hid _ := hxl
      have HBel : Hid _ := hbel
      have HL : Hid _ := hL
      clear hx hxl hbel hL
      go_wp2_with (at_make; refine wpList_make_full _ rfl _ _ 40 rfl wo.heap.size 41 i1 _ 1 Try.underlying40 gi gz0 gz1 .i64 .i64 _ _ (L k) rfl rfl rfl rfl (by rw [gz2]; omega) (by unfold maxLen; omega) (Nat.le_refl _) ?_; intro w2 hown0 hgrow; obtain ⟨ys0, hy0⟩ : ∃ zs, w2.ownsRow wo.heap.size 41 1 (.slice (some ⟨wo.heap.size, 0, none⟩) (L k) (L k)) (L k) zs := ⟨_, hown0⟩; clear hown0; have hb2 : Below wo.heap.size wo w2 := (Below.refl _ _).grown hgrow (Nat.le_refl _) (by simp); have h12 := (hb2.cell (p := ⟨b, off + k, none⟩) hbw).trans h1)
      go_loopw [28] (fun i wi => ∃ m : Nat, m ≤ L k ∧ i = .int .i64 m ∧ Below wo.heap.size wo wi ∧ ∃ ys, RowAt wi wo.heap.size 41 ys ∧ ys.length = L k ∧ (0 < m → ys[m - 1]? = some (.int .u64 (X k (m - 1)))))
        (fun i _ => L k - (intOf i).toNat)
      case atStart => exact ⟨0, Nat.zero_le _, rfl, hb2, _, row_block hy0, hy0.1.trans (by omega), fun h => absurd h (by omega)⟩
      case round =>
        obtain ⟨m, hm, rfl, hbi, ys, hy, hyl, hlast⟩ := hrel
        by_cases hml : m < L k
        · have hml' : (m : Int) < (L k : Int) := by omega
          have hm0 : (0 : Int) ≤ (m : Int) := by omega
          have gi := grid_below g' h0 hbi
          have hc1 : wr.cell? ⟨b, off + k, none⟩ = some (.slice (some ⟨bb k, oo k, none⟩) (L k) (C k)) := by rw [gi.top k hlt, gi.adr k hlt (by omega)]
          have hc2 := gi.cell k hlt m hml
          obtain ⟨u, hu⟩ := hy.some m (by omega)
          have hc3 := (hy.cell m).trans hu
          have hf3 := hy.free m
          have HS : Hid _ := key_step (x := X k) hml hbi hy hyl rfl
          clear hy hyl hbi hlast hu gi
          go_wp2
          go_roundw
          case rel => exact ⟨m + 1, by omega, by go_num, HS.out.1, HS.out.2⟩
          case measure => simp [intOf]; omega
        · obtain rfl : m = L k := by omega
          have hxi := RowAt.below HX.out hbi hB
          obtain ⟨u, hu⟩ := hxi.some k (by rw [HXL.out]; exact hlt)
          have hc3 := (hxi.cell k).trans hu
          have hf3 := hxi.free k
          have HS : Hid _ := lastRow_step (L := L) (X := X) (n := n) hlt hB HBel.out rfl HX.out HXL.out hbi hy hlast
          clear hxi hu hy hyl hbi hlast
          go_wp2
          go_roundw
          case rel => exact ⟨k + 1, by omega, by go_num, HS.out.1, HS.out.2⟩
          case measure => simp [intOf]; omega
    · obtain rfl : k = n := by omega
      go_wp2
      go_ret
      have hal : Below wr.heap.size wr (wr.alloc (.cells #[.slice (some ⟨w.heap.size, 0, none⟩) k k, .int .i64 t] 43)) := (Below.refl _ _).alloc (Nat.le_refl _) _
      exact ⟨wr.heap.size, rfl, hx.lt, hbel.alloc hbel.size _, by simp, by simp, xs, hx.below hal hx.lt, lastRow_below hrow hal⟩
end Go.Proofs.Qxb6614997a
