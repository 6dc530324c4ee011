import Derived.Test.Qxb6614532aFmtFull
import Derived.Test.Qxb6614532aFmtNew
namespace Go.Proofs.Qxb6614532aFmt
open Go.RowKit
set_option linter.unusedVariables false
section
variable {w : World} {BR BB BY N c bS oS r v i q g o m cm : Nat} {ao : Option Addr} {f : Nat → Nat} {aE aU : Addr} {er : Value} {ys : List Value}

set_option maxRecDepth 100000 in
set_option maxHeartbeats 1000000 in
theorem full_any (h : St w BR BB BY ao N c bS oS f r v i .nilIface) (hq : i - (v - r) = q) (hm : 0 < m) (hmc : m ≤ cm) (hr : RowAt w g 5 ys) (ho : o + m ≤ ys.length) (hg : g ∉ [BR, BB, BY]) (hgS : 0 < N → bS ≠ g) (hu : ∀ t, f t < 256) (hm63 : m ≤ 4194304) (hc63 : cm ≤ 9223372036854775807)
    (gE : w.cell? ⟨0, 0, none⟩ = some (.iface 90 (.pointer (some aE)))) (gU : w.cell? ⟨1, 0, none⟩ = some (.iface 90 (.pointer (some aU)))) (hz : ∀ k ∈ [BR, BB, BY, g], 2 ≤ k) :
    Calls Tryf.prog 23 #[.iface 50 (.pointer (some ⟨BR, 0, none⟩)), .slice (some ⟨g, o, none⟩) m cm] w fun e w' => FullPost w w' BR BB BY ao N c bS oS f q g o m ys aE aU e := by
  have H := hideP (atLeast_any h hq hm hmc hr ho hg hgS hu hm63 hc63 gE gU hz)
  clear h hq hr gE gU hz hg
  go_enter Tryf.func23, Tryf.ntmps23
  go_wp2_with fail
  refine H.out.mono ?_
  rintro e w' ⟨k, r, v, i, er, rfl, hh⟩
  have HH := hideP hh
  clear hh H
  go_wp2
  go_ret2
  exact ⟨k, r, v, i, er, rfl, HH.out⟩

set_option maxRecDepth 100000 in
set_option maxHeartbeats 1000000 in
theorem frameNew2 (w : World) (y : Nat) (hy : y < w.heap.size) :
    Calls Tryf.prog 18 #[.iface 45 (.pointer (some ⟨y, 0, none⟩))] w fun e w' => ∃ R, w.heap.size + 2 ≤ R ∧ e = .returned (.pointer (some ⟨R, 0, none⟩)) ∧ RowAt w' R 52 [.pointer (some ⟨w.heap.size, 0, none⟩), .slice none 0 0] ∧ RowAt w' w.heap.size 70 (bufCells (w.heap.size + 1) y 0 0 .nilIface (.int .i64 (-1)) (.int .i64 (-1))) ∧
      (∃ ys, RowAt w' (w.heap.size + 1) 5 ys ∧ ys.length = 4096) ∧ Touch [] w w' := by
  have HN := hideP (bufioNew w y hy)
  go_enter Tryf.func18, Tryf.ntmps18
  go_wp2_with fail
  refine HN.out.mono ?_
  rintro e w' ⟨rfl, h1, ⟨ys, h2, h3⟩, h4, h5⟩
  have H1 := hideP h1
  have H2 := hideP h2
  have H3 := hideP h3
  have H4 := hideP h4
  have H5 := hideP h5
  clear h1 h2 h3 h4 h5
  go_wp2
  go_ret
  refine ⟨w'.heap.size, H5.out, rfl, row_alloc w' _ 52, ?_, ⟨ys, ?_, H3.out⟩, H4.out.alloc _⟩
  · show _ = _
    rw [Below.heap_alloc _ _ _ H1.out.lt]; exact H1.out
  · show _ = _
    rw [Below.heap_alloc _ _ _ H2.out.lt]; exact H2.out

/-- What a new Reader is, its whole row. -/
def NewPost2 (w w' : World) (ao : Option Addr) (N c bS oS : Nat) (f : Nat → Nat) (e : Ending) : Prop :=
  ∃ R BR BB BY, e = .returned (.pointer (some ⟨R, 0, none⟩)) ∧ St w' BR BB BY ao N c bS oS f 0 0 0 .nilIface ∧ RowAt w' R 52 [.pointer (some ⟨BR, 0, none⟩), .slice none 0 0] ∧ R ∉ [BR, BB, BY] ∧ (∀ k ∈ [R, BR, BB, BY], w.heap.size ≤ k) ∧ Touch [] w w'

set_option maxRecDepth 100000 in
set_option maxHeartbeats 1000000 in
theorem over_any2 (hS : Src w ao N c bS oS f) :
    Calls Tryf.prog 8 #[.slice ao N c] w fun e w' => NewPost2 w w' ao N c bS oS f e := by
  have HN := hideP (fun wx y hy => frameNew2 wx y hy)
  have HB := hideP (bytesNew w ao N c)
  have HS := hideP hS
  clear hS
  go_enter Tryf.func8, Tryf.ntmps8
  go_wp2_with fail
  refine HB.out.mono ?_
  rintro e w1 ⟨rfl, hw1⟩
  have HW1 := hideP hw1
  clear hw1
  go_wp2_with fail
  have hlt : w.heap.size < w1.heap.size := by rw [HW1.out, World.size_alloc]; omega
  refine (HN.out w1 w.heap.size hlt).mono ?_
  rintro e w2 ⟨R, hR, rfl, h1, h2, ⟨ys, h3, h4⟩, h5⟩
  have H1 := hideP h1
  have H2 := hideP h2
  have H3 := hideP h3
  have H4 := hideP h4
  have H5 := hideP h5
  clear h1 h2 h3 h4 h5
  go_wp2
  go_ret
  have e1 : w1.heap.size = w.heap.size + 1 := by rw [HW1.out, World.size_alloc]
  have t1 : Touch [] w w1 := by rw [HW1.out]; exact (Touch.refl _ w).alloc _
  have t2 := t1.trans H5.out
  have y1 : RowAt w1 w.heap.size 59 [.slice ao N c, .int .i64 0, .int .i64 (-1)] := by rw [HW1.out]; exact row_alloc w _ 59
  refine ⟨R, w1.heap.size, w1.heap.size + 1, w.heap.size, rfl, ?_, H1.out, by simp; omega, by simp; omega, t2⟩
  refine ⟨⟨_, _, H2.out⟩, ⟨ys, H3.out, H4.out, fun t ht => by omega⟩, ⟨_, y1.touch H5.out (by simp)⟩, HS.out.touch t2 (fun _ => by simp), Nat.le_refl _, by omega, by omega, by omega, by omega, by omega, by omega, fun hN => ?_⟩
  have := World.block_lt_of_cell? _ _ (HS.out.cell 0 hN)
  simp at this
  omega
end
end Go.Proofs.Qxb6614532aFmt
