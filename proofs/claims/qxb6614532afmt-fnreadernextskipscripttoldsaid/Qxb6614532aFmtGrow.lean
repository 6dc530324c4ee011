import Derived.Test.Qxb6614532aFmtMake
import Derived.Lib.AppendZerosOnto
namespace Go.Proofs.Qxb6614532aFmt
open Go.RowKit
set_option linter.unusedVariables false

/-- Where a field's bytes lie: nowhere yet; or at a row of its whole capacity. -/
def FieldRow (w : World) (fa : Option Addr) (C FB : Nat) (ys : List Value) : Prop := (fa = none ∧ C = 0 ∧ ys = []) ∨ (fa = some ⟨FB, 0, none⟩ ∧ RowAt w FB 5 ys ∧ ys.length = C)

/-- What Grow leaves. -/
def GrowPost (w w' : World) (L n FB : Nat) (ys : List Value) (e : Ending) : Prop :=
  ∃ G C' zs, e = .returned (.slice (some ⟨G, 0, none⟩) L C') ∧ RowAt w' G 5 zs ∧ zs.length = C' ∧ L + n ≤ C' ∧ C' ≤ 9223372036854775807 ∧ (∀ t, t < L → zs[t]? = ys[t]?) ∧ Touch [] w w' ∧ (G = FB ∨ w.heap.size ≤ G)

section
variable {w : World} {fa : Option Addr} {L C n FB : Nat} {ys : List Value}

set_option maxRecDepth 100000 in
set_option maxHeartbeats 1000000 in
theorem grow_room (h : FieldRow w fa C FB ys) (hL : L ≤ C) (hC : C ≤ 9223372036854775807) (hn : 0 < n) (hroom : L + n ≤ C) :
    Calls Tryf.prog 22 #[.slice fa L C, .int .i64 n] w fun e w' => GrowPost w w' L n FB ys e := by
  rcases h with ⟨_, h0, _⟩ | ⟨rfl, hr, hl⟩
  · omega
  have HR := hideP hr
  have HL := hideP hl
  have h1 : ¬ ((n : Int) < 0) := by omega
  have h2 : wrap64 ((C : Int) - (L : Int)) = (C : Int) - (L : Int) := by unfold wrap64; omega
  have h3 : wrap64 ((n : Int) - ((C : Int) - (L : Int))) = (n : Int) - ((C : Int) - (L : Int)) := by unfold wrap64; omega
  have h4 : ¬ ((n : Int) - ((C : Int) - (L : Int)) > 0) := by omega
  clear hr hl
  go_enter Tryf.func22, Tryf.ntmps22
  go_wp2
  go_ret
  exact ⟨FB, C, ys, rfl, HR.out, HL.out, hroom, hC, fun _ _ => rfl, Touch.refl _ _, .inl rfl⟩

set_option maxRecDepth 100000 in
set_option maxHeartbeats 4000000 in
theorem grow_new (h : FieldRow w fa C FB ys) (hL : L ≤ C) (hn : 0 < n) (hbig : L + n ≤ 4194304) (hroom : C < L + n) :
    Calls Tryf.prog 22 #[.slice fa L C, .int .i64 n] w fun e w' => GrowPost w w' L n FB ys e := by
  obtain ⟨i0, hi0, his, hib, hiz⟩ := Tryf.info5
  have hyl : ys.length = C := by
    rcases h with ⟨_, rfl, rfl⟩ | ⟨_, _, h⟩
    · rfl
    · exact h
  have h1 : ¬ ((n : Int) < 0) := by omega
  have h2 : wrap64 ((C : Int) - (L : Int)) = (C : Int) - (L : Int) := by unfold wrap64; omega
  have h3 : wrap64 ((n : Int) - ((C : Int) - (L : Int))) = (n : Int) - ((C : Int) - (L : Int)) := by unfold wrap64; omega
  have h4 : (n : Int) - ((C : Int) - (L : Int)) > 0 := by omega
  have hck : C + (L + n - C) = L + n := by omega
  have hold : (Builtin.firstCells i0.size C (.slice fa C C)).run Tryf.prog w.drew = .ok ys.toArray w.drew := by
    rcases h with ⟨rfl, rfl, rfl⟩ | ⟨rfl, hr, _⟩
    · exact run_firstCells_none w.drew i0.size 0 0 0
    · exact run_firstCells_some w.drew i0.size C _ C C ys (by rw [his, hyl, Nat.mul_one]) (fun j v hj => by rw [Addr.add_lit, Nat.zero_add]; exact (RowAt.cell hr j).trans hj)
  obtain ⟨G, hG⟩ : ∃ G, G = grownCap w (L + n) C 5 := ⟨_, rfl⟩
  have hGn : L + n ≤ G := by rw [hG]; exact grownCap_ge w _ _ _
  have hG63 : G ≤ 9223372036854775807 := by
    have := grownCap_le_maxLen w (L + n) C 5 (by unfold maxLen; omega)
    rw [← hG] at this
    unfold maxLen at this
    omega
  have hrz : ∀ ty, (Builtin.append_ #[22, 3] ty #[.slice fa C C, .int .i64 ((n : Int) - ((C : Int) - (L : Int)))]).run Tryf.prog w =
      .ok (.slice (some ⟨w.heap.size, 0, none⟩) (L + n) G) (w.drew.alloc (.cells (ys.toArray ++ Builtin.zeroCells (Value.int .u8 0).cells (L + n - C) ++ Builtin.zeroCells (Value.int .u8 0).cells (G - (L + n))) 5)) := fun ty => by
    have h := Lib.run_append_grow_zeros w 22 3 ty 5 i0 _ .i64 .i64 Tryf.underlying22 Tryf.underlying3 hi0 hiz fa C C ys hold (L + n - C) (by omega) (by omega) (by omega) (by omega) (by rw [hib]; omega)
      (by rw [hck]; exact growslice_fits hroom (by rw [hib]; omega))
    rw [hck, ← hG] at h
    rw [show (n : Int) - ((C : Int) - (L : Int)) = ((L + n - C : Nat) : Int) by omega]
    exact h
  have HRZ := hideP hrz
  have hz1 : ∀ k, (Builtin.zeroCells (Value.int .u8 0).cells k).size = k := fun k => by simp [Builtin.zeroCells, Value.cells]
  obtain ⟨zs, hzs⟩ : ∃ zs : List Value, zs = ys ++ (Builtin.zeroCells (Value.int .u8 0).cells (L + n - C)).toList ++ (Builtin.zeroCells (Value.int .u8 0).cells (G - (L + n))).toList := ⟨_, rfl⟩
  have hza : ys.toArray ++ Builtin.zeroCells (Value.int .u8 0).cells (L + n - C) ++ Builtin.zeroCells (Value.int .u8 0).cells (G - (L + n)) = zs.toArray := by
    rw [hzs]; apply Array.ext'; simp
  have hzl : zs.length = G := by
    rw [hzs]; simp only [List.length_append, Array.length_toList, hz1]; omega
  have hzt : ∀ t, t < L → zs[t]? = ys[t]? := fun t ht => by
    rw [hzs, List.append_assoc, List.getElem?_append_left (by omega)]
  have HP : Hid (GrowPost w (w.drew.alloc (.cells zs.toArray 5)) L n FB ys (.returned (.slice (some ⟨w.heap.size, 0, none⟩) L G))) := ⟨w.heap.size, G, zs, rfl, row_alloc w.drew zs 5, hzl, hGn, hG63, hzt, ((Touch.refl _ w).drew).alloc _, .inr (Nat.le_refl _)⟩
  rw [hza] at HRZ hrz
  have hLG : (L : Int) ≤ (G : Int) := by omega
  have hnil : fa = none → C = 0 := fun e => by
    rcases h with ⟨_, h, _⟩ | ⟨h, _⟩
    · exact h
    · rw [e] at h; cases h
  clear hold hck hG hz1 hzs hza hzl hzt h hyl HRZ
  go_enter Tryf.func22, Tryf.ntmps22
  cases fa with
  | none =>
    obtain rfl := hnil rfl
    obtain rfl : L = 0 := by omega
    go_wp2_with (at_builtin; refine Lib.wpList_append_run _ rfl _ _ _ _ rfl _ _ rfl rfl _ _ (hrz _) ?_)
    all_goals (go_ret; exact HP.out)
  | some a =>
    obtain ⟨ab, ao, asp⟩ := a
    go_wp2_with (at_builtin; refine Lib.wpList_append_run _ rfl _ _ _ _ rfl _ _ rfl rfl _ _ (hrz _) ?_)
    all_goals (go_ret; exact HP.out)
end
end Go.Proofs.Qxb6614532aFmt
