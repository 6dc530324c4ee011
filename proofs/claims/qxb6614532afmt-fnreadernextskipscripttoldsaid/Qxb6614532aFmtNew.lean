import Derived.Test.Qxb6614532aFmtMake
import Derived.Deep.LoopGhost
import Derived.Lib.SliceRun
namespace Go.Proofs.Qxb6614532aFmt
open Go.RowKit Go.Stop
set_option linter.unusedVariables false

/-- What a new Reader is. -/
def NewPost (w w' : World) (ao : Option Addr) (N c bS oS : Nat) (f : Nat → Nat) (e : Ending) : Prop :=
  ∃ R BR BB BY, e = .returned (.pointer (some ⟨R, 0, none⟩)) ∧ St w' BR BB BY ao N c bS oS f 0 0 0 .nilIface ∧ w'.cell? ⟨R, 0, none⟩ = some (.pointer (some ⟨BR, 0, none⟩)) ∧ R ∉ [BR, BB, BY] ∧ (∀ k ∈ [BR, BB, BY], w.heap.size ≤ k) ∧ Touch [] w w' ∧ w.heap.size ≤ R
section
variable {w : World} {N c bS oS : Nat} {ao : Option Addr} {f : Nat → Nat}

set_option maxRecDepth 100000 in
set_option maxHeartbeats 1000000 in
theorem bufioNew (w : World) (y : Nat) (hy : y < w.heap.size) :
    Calls Tryf.prog 25 #[.iface 45 (.pointer (some ⟨y, 0, none⟩))] w fun e w' => e = .returned (.pointer (some ⟨w.heap.size, 0, none⟩)) ∧ RowAt w' w.heap.size 70 (bufCells (w.heap.size + 1) y 0 0 .nilIface (.int .i64 (-1)) (.int .i64 (-1))) ∧
      (∃ ys, RowAt w' (w.heap.size + 1) 5 ys ∧ ys.length = 4096) ∧ Touch [] w w' ∧ w.heap.size + 2 ≤ w'.heap.size := by
  have HN := hideP (newSize w y hy)
  go_enter Tryf.func25, Tryf.ntmps25
  go_wp2_with fail
  refine HN.out.mono ?_
  rintro e w' ⟨rfl, h⟩
  have H := hideP h
  clear h
  go_wp2
  go_ret
  exact ⟨rfl, H.out⟩

set_option maxRecDepth 100000 in
set_option maxHeartbeats 1000000 in
theorem frameNew (w : World) (y : Nat) (hy : y < w.heap.size) :
    Calls Tryf.prog 18 #[.iface 45 (.pointer (some ⟨y, 0, none⟩))] w fun e w' => ∃ R, w.heap.size + 2 ≤ R ∧ e = .returned (.pointer (some ⟨R, 0, none⟩)) ∧ w'.cell? ⟨R, 0, none⟩ = some (.pointer (some ⟨w.heap.size, 0, none⟩)) ∧ RowAt w' w.heap.size 70 (bufCells (w.heap.size + 1) y 0 0 .nilIface (.int .i64 (-1)) (.int .i64 (-1))) ∧
      (∃ ys, RowAt w' (w.heap.size + 1) 5 ys ∧ ys.length = 4096) ∧ Touch [] w w' := by
  have HN := hideP (bufioNew w y hy)
  go_enter Tryf.func18, Tryf.ntmps18
  go_wp2_with fail
  refine HN.out.mono ?_
  rintro e w' ⟨rfl, h1, ⟨ys, h2, h3⟩, h4, h5⟩
  have H1 := hideP h1
  have H2 := hideP h2
  have H3 := hideP h3
  have H4 := hideP h4
  have H5 := hideP h5
  clear h1 h2 h3 h4 h5
  go_wp2
  go_ret
  refine ⟨w'.heap.size, H5.out, rfl, by simp, ?_, ⟨ys, ?_, H3.out⟩, H4.out.alloc _⟩
  · show _ = _
    rw [Below.heap_alloc _ _ _ H1.out.lt]; exact H1.out
  · show _ = _
    rw [Below.heap_alloc _ _ _ H2.out.lt]; exact H2.out

set_option maxRecDepth 100000 in
set_option maxHeartbeats 1000000 in
theorem over_any (hS : Src w ao N c bS oS f) :
    Calls Tryf.prog 8 #[.slice ao N c] w fun e w' => NewPost w w' ao N c bS oS f e := by
  have HN := hideP (fun wx y hy => frameNew wx y hy)
  have HB := hideP (bytesNew w ao N c)
  have HS := hideP hS
  clear hS
  go_enter Tryf.func8, Tryf.ntmps8
  go_wp2_with fail
  refine HB.out.mono ?_
  rintro e w1 ⟨rfl, hw1⟩
  have HW1 := hideP hw1
  clear hw1
  go_wp2_with fail
  have hlt : w.heap.size < w1.heap.size := by rw [HW1.out, World.size_alloc]; omega
  refine (HN.out w1 w.heap.size hlt).mono ?_
  rintro e w2 ⟨R, hR, rfl, h1, h2, ⟨ys, h3, h4⟩, h5⟩
  have H1 := hideP h1
  have H2 := hideP h2
  have H3 := hideP h3
  have H4 := hideP h4
  have H5 := hideP h5
  clear h1 h2 h3 h4 h5
  go_wp2
  go_ret
  have e1 : w1.heap.size = w.heap.size + 1 := by rw [HW1.out, World.size_alloc]
  have t1 : Touch [] w w1 := by rw [HW1.out]; exact (Touch.refl _ w).alloc _
  have t2 := t1.trans H5.out
  have y1 : RowAt w1 w.heap.size 59 [.slice ao N c, .int .i64 0, .int .i64 (-1)] := by rw [HW1.out]; exact row_alloc w _ 59
  refine ⟨R, w1.heap.size, w1.heap.size + 1, w.heap.size, rfl, ?_, H1.out, by simp; omega, by simp; omega, t2, by omega⟩
  refine ⟨⟨_, _, H2.out⟩, ⟨ys, H3.out, H4.out, fun t ht => by omega⟩, ⟨_, y1.touch H5.out (by simp)⟩, HS.out.touch t2 (fun _ => by simp), Nat.le_refl _, by omega, by omega, by omega, by omega, by omega, by omega, fun hN => ?_⟩
  have := World.block_lt_of_cell? _ _ (HS.out.cell 0 hN)
  simp at this
  omega

/-- A fresh copy of bytes. -/
def ClonePost (w w' : World) (N : Nat) (f : Nat → Nat) (e : Ending) : Prop :=
  ∃ ao, e = .returned (.slice ao N N) ∧ ((ao = none ∧ N = 0) ∨ ao = some ⟨w.heap.size, 0, none⟩) ∧ Src w' ao N N w.heap.size 0 f ∧ Touch [] w w'

set_option maxRecDepth 100000 in
set_option maxHeartbeats 1000000 in
theorem clone_nil : Calls Tryf.prog 7 #[.slice none 0 0] w fun e w' => ClonePost w w' 0 f e := by
  have hnn := fun wx => Go.Lib.run_eql_slice_nil (P := Tryf.prog) wx 22 5 none 0 0 0 0 Tryf.underlying22
  go_enter Tryf.func7, Tryf.ntmps7
  go_wp2
  go_ret
  exact ⟨none, rfl, .inl ⟨rfl, rfl⟩, ⟨by omega, by omega, by omega, by omega⟩, Touch.refl _ w⟩

set_option maxRecDepth 100000 in
set_option maxHeartbeats 1000000 in
theorem clone_some (a : Addr) (hc : ∀ j, j < N → w.cell? (a.add j) = some (.int .u8 (f j))) (hlen : N ≤ c) (hn : N ≤ 1048576) : Calls Tryf.prog 7 #[.slice (some a) N c] w fun e w' => ClonePost w w' N f e := by
  have HC := hideP hc
  have mk := mkBytes N hn
  have hRep := hideP (List.length_replicate (n := N) (a := Value.int .u8 0))
  generalize List.replicate N (Value.int .u8 0) = zs at mk hRep
  clear hc
  have hnn := fun wx => Go.Lib.run_eql_slice_nil (P := Tryf.prog) wx 22 5 (some a) N c 0 0 Tryf.underlying22
  go_enter Tryf.func7, Tryf.ntmps7
  go_wp2
  go_loopg [4] N (fun k i wr => ∃ m : Nat, m + k = N ∧ i = .int .i64 m ∧ Touch [] w wr ∧ ∃ ys, RowAt wr w.heap.size 5 ys ∧ ys.length = N ∧ ∀ j, j < m → ys[j]? = some (.int .u8 (f j)))
  case atStart => exact ⟨0, by omega, rfl, (Touch.refl _ w).alloc _, zs, row_alloc w zs 5, hRep.out, by omega⟩
  case round =>
    obtain ⟨m, hm, rfl, ht, ys, hr, hl, hy⟩ := hrel
    have HT := hideP ht
    have HR := hideP hr
    have HY := hideP hy
    have HL := hideP hl
    have fr := hr.free m
    have cm := hr.cell m
    clear ht hr hy mk
    by_cases hmN : m < N
    · have hmI : (m : Int) < (N : Int) := by omega
      have hm0 : (0 : Int) ≤ (m : Int) := by omega
      have hcm := HT.out.cell (HC.out m hmN) (by simp)
      obtain ⟨u, hu⟩ : ∃ u, ys[m]? = some u := ⟨ys[m]'(by omega), List.getElem?_eq_getElem _⟩
      rw [hu] at cm
      clear hl
      go_wp2
      go_roundg (gk - 1)
      case measure => omega
      case rel =>
        refine ⟨m + 1, by omega, by go_num, HT.out.setCellNew (Nat.le_refl _) _, _, HR.out.store m _, by rw [List.length_set]; exact HL.out, fun j hj => ?_⟩
        rw [List.getElem?_set]
        split
        · subst_vars
          rw [if_pos (by have := HL.out; omega)]
        · exact HY.out j (by omega)
    · obtain rfl : m = N := by omega
      have hmI : ¬ (m : Int) < (m : Int) := by omega
      clear cm hl
      go_wp2
      go_ret
      refine ⟨_, rfl, .inr rfl, ⟨fun _ => rfl, fun j hj => ?_, Nat.le_refl _, hn⟩, HT.out⟩
      rw [HR.out.cell, Nat.zero_add]
      exact HY.out j hj
end
end Go.Proofs.Qxb6614532aFmt
