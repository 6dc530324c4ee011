import Derived.Test.Qxb6614532aFmtMem
namespace Go.Proofs.Qxb6614532aFmt
open Go.RowKit
set_option linter.unusedVariables false
theorem Tryf.size5 : (Tryf.prog.info? 5).map (·.size) = some 1 := by kernel_rfl

/-- The bytes f 0 .. f (N-1) lie behind a slice. -/
structure Src (w : World) (ao : Option Addr) (N c bS oS : Nat) (f : Nat → Nat) : Prop where
  adr : 0 < N → ao = some ⟨bS, oS, none⟩
  cell : ∀ j, j < N → w.cell? ⟨bS, oS + j, none⟩ = some (.int .u8 (f j))
  len : N ≤ c
  n : N ≤ 1048576
theorem Src.touch {S : List Nat} {w w' : World} {ao : Option Addr} {N c bS oS : Nat} {f : Nat → Nat} (h : Src w ao N c bS oS f) (ht : Touch S w w') (hs : 0 < N → bS ∉ S) : Src w' ao N c bS oS f :=
  ⟨h.adr, fun j hj => ht.cell (h.cell j hj) (hs (by omega)), h.len, h.n⟩

section
variable {w : World} {BY g t o m cm i N c bS oS : Nat} {ao : Option Addr} {f : Nat → Nat} {x2 : Value} {ys : List Value}

set_option maxHeartbeats 400000 in
theorem read_eof {aE : Addr} (dst : Value) (hY : RowAt w BY 59 [.slice ao N c, .int .i64 i, x2]) (hi : N ≤ i) (hN : N ≤ 1048576) (hi2 : i ≤ 1048576) (gE : w.cell? ⟨0, 0, none⟩ = some (.iface 90 (.pointer (some aE)))) :
    Calls Tryf.prog 55 #[.pointer (some ⟨BY, 0, none⟩), dst] w fun e w' => e = .returned (.tuple #[.int .i64 0, .iface 90 (.pointer (some aE))]) ∧ ∃ d, w' = w.drewN d := by
  have h0 : w.cell? ⟨BY, 0, none⟩ = some (.slice ao N c) := hY.cell 0
  have h1 : w.cell? ⟨BY, 1, none⟩ = some (.int .i64 i) := hY.cell 1
  clear hY
  have hle : (N : Int) ≤ (i : Int) := by omega
  go_enter Tryf.func55, Tryf.ntmps55
  go_wp2
  go_quiet (fail)
  go_wp2
  go_quiet (fail)
  go_wp2
  go_ret2
  exact ⟨rfl, _, World.drewN_drewN _ _ _⟩

set_option maxHeartbeats 1000000 in
theorem read_some (hY : RowAt w BY 59 [.slice ao N c, .int .i64 i, x2]) (hS : Src w ao N c bS oS f) (hi : i < N) (hg : RowAt w g t ys) (hm : 0 < m) (ho : o + m ≤ ys.length) (hgY : g ≠ BY) (hSY : bS ≠ BY) :
    Calls Tryf.prog 55 #[.pointer (some ⟨BY, 0, none⟩), .slice (some ⟨g, o, none⟩) m cm] w fun e w' => ∃ k, k = Nat.min (N - i) m ∧ e = .returned (.tuple #[.int .i64 k, .nilIface]) ∧
      RowAt w' g t (splice ys o (bytesL (fun j => f (i + j)) k)) ∧ RowAt w' BY 59 [.slice ao N c, .int .i64 (i + k : Nat), .int .i64 (-1)] ∧ Touch [g, BY] w w' := by
  obtain ⟨k, hk⟩ : ∃ k, k = Nat.min (N - i) m := ⟨_, rfl⟩
  have hkN : k ≤ N - i := by rw [hk]; exact Nat.min_le_left _ _
  have hkm : k ≤ m := by rw [hk]; exact Nat.min_le_right _ _
  have hkp : 0 < k := by rw [hk]; exact Nat.lt_min.2 ⟨by omega, hm⟩
  have HK : Hid (k = Nat.min (N - i) m) := hk
  clear hk
  have hn := hS.n
  have hl := hS.len
  have h0 : w.cell? ⟨BY, 0, none⟩ = some (.slice ao N c) := hY.cell 0
  have h1 : w.cell? ⟨BY, 1, none⟩ = some (.int .i64 i) := hY.cell 1
  have h2 : w.cell? ⟨BY, 2, none⟩ = some x2 := hY.cell 2
  have f2 := hY.free 2
  have hlt : (i : Int) < (N : Int) := by omega
  have hi0 : (0 : Int) ≤ (i : Int) := by omega
  have had := hS.adr (by omega)
  subst had
  have hY1 := hY.store 2 (.int .i64 (-1))
  have hg1 : RowAt (w.setCell ⟨BY, 2, none⟩ (.int .i64 (-1))) g t ys := hg.other hgY _
  have hS1 := fun j hj => (World.cell?_setCell_other w ⟨BY, 2, none⟩ ⟨bS, oS + j, none⟩ (.int .i64 (-1)) (by intro h; have := congrArg Addr.block h; simp at this; omega)).trans (hS.cell j hj)
  clear hS hY hg
  go_enter Tryf.func55, Tryf.ntmps55
  go_wp2
  go_quiet (fail)
  go_wp2
  have hYW : RowAt ((w.drewN nq).setCell ⟨BY, 2, none⟩ (.int .i64 (-1))) BY 59 [.slice (some ⟨bS, oS, none⟩) N c, .int .i64 i, .int .i64 (-1)] := hY1
  have hgW : RowAt ((w.drewN nq).setCell ⟨BY, 2, none⟩ (.int .i64 (-1))) g t ys := hg1
  have hSW : ∀ j, j < N → ((w.drewN nq).setCell ⟨BY, 2, none⟩ (.int .i64 (-1))).cell? ⟨bS, oS + j, none⟩ = some (.int .u8 (f j)) := hS1
  have hTW : Touch [g, BY] w ((w.drewN nq).setCell ⟨BY, 2, none⟩ (.int .i64 (-1))) := ((Touch.refl _ w).drewN nq).setCell (by simp) _
  generalize (w.drewN nq).setCell ⟨BY, 2, none⟩ (.int .i64 (-1)) = W at *
  have c0 : W.cell? ⟨BY, 0, none⟩ = some (.slice (some ⟨bS, oS, none⟩) N c) := hYW.cell 0
  have c1 : W.cell? ⟨BY, 1, none⟩ = some (.int .i64 i) := hYW.cell 1
  have hci : ¬ c = i := by omega
  have hiN : (i : Int) ≤ (N : Int) := by omega
  have hNc : (N : Int) ≤ (c : Int) := by omega
  have hYg : ¬ BY = g := fun e => hgY e.symm
  have hfw : ∀ j v, (bytesL (fun j => f (i + j)) k)[j]? = some v → W.cell? ((⟨bS, oS + i, none⟩ : Addr).add j) = some v := fun j v hj => by
    obtain ⟨h1, rfl⟩ := bytesL_some hj
    rw [Addr.add_lit, Nat.add_assoc]; exact hSW _ (by omega)
  clear h0 h1 h2 f2 hY1 hg1 hS1 hSW
  go_region_held3 (fun w' => w'.cell? ⟨BY, 0, none⟩ = some (.slice (some ⟨bS, oS, none⟩) N c) ∧ w'.cell? ⟨BY, 1, none⟩ = some (.int .i64 i)) (first | (refine ⟨ht.cell (by exact c0) ?_, ht.cell (by exact c1) ?_⟩ <;> simpa using hYg) | go_keep)
    ((refine step_copy_touch (by rfl) (.tmp 20) (.tmp 29) 22 22 (by rfl) 5 Tryf.underlying22 Tryf.size5 _ _ m cm _ _ (by rfl) (by rfl) g o ys t (by exact hgW) (bytesL (fun j => f (i + j)) k) (by rw [bytesL_len]; exact HK.out) (fun _ => ⟨rfl, ⟨bS, oS + i, none⟩, rfl, by exact hfw⟩) (by rw [bytesL_len]; omega) (bytesL_one _ _) ?_; intro w2 HR ht))
  have hY2 : RowAt w2 BY 59 [.slice (some ⟨bS, oS, none⟩) N c, .int .i64 i, .int .i64 (-1)] := hYW.touch (w := W) (S := [g]) ⟨ht.os, ht.tape, ht.output, ht.size, ht.block⟩ (by simpa using hYg)
  have d1 : w2.cell? ⟨BY, 1, none⟩ = some (.int .i64 i) := hY2.cell 1
  have e1 := hY2.free 1
  have HT : Hid (Touch [g, BY] w w2) := hTW.trans (show Touch [g, BY] W w2 from ⟨ht.os, ht.tape, ht.output, ht.size, fun k hk hn => ht.block k hk (by simp at hn ⊢; exact hn.1)⟩)
  have HY := hideP (hY2)
  rw [bytesL_len]
  clear hYW hgW hTW hfw c0 c1 ht hY2
  go_wp2
  go_ret2
  refine ⟨k, HK.out, rfl, RowAt.other HR.out hgY _, ?_, Touch.setCell HT.out (by simp) _⟩
  have := RowAt.store HY.out 1 (.int .i64 (i + k : Nat))
  simpa using this
end
end Go.Proofs.Qxb6614532aFmt
