import Derived.Test.Qxb6614532aFmtBRead2
import Derived.Test.Qxb6614532aFmtUvarint
namespace Go.Proofs.Qxb6614532aFmt
open Go.RowKit
set_option linter.unusedVariables false
section
variable {w : World} {BR BB BY N c bS oS r v i q g o m cm : Nat} {ao : Option Addr} {f : Nat → Nat} {aE : Addr} {er : Value} {ys : List Value}

set_option maxRecDepth 100000 in
set_option maxHeartbeats 1000000 in
/-- Read of as much as the buffer holds or more, bytes to be had: past the buffer. -/
theorem bread_big_some (h : St w BR BB BY ao N c bS oS f r r i .nilIface) (hi : i < N) (hm4 : 4096 ≤ m) (hr : RowAt w g 5 ys) (ho : o + m ≤ ys.length) (hg : g ∉ [BR, BB, BY]) (hgS : 0 < N → bS ≠ g) (hu : ∀ t, f t < 256) (hm63 : m ≤ 9223372036854775807) :
    Calls Tryf.prog 56 #[.pointer (some ⟨BR, 0, none⟩), .slice (some ⟨g, o, none⟩) m cm] w fun e w' => ReadPost w w' BR BB BY ao N c bS oS f i g o m ys aE e := by
  have hn := h.src.n
  have HGN := hideP hg
  have HW := hideP h
  have r4 := h.v4
  have hgR : g ≠ BR := fun e => hg (by simp [e])
  have hgB : g ≠ BB := fun e => hg (by simp [e])
  have hgY : g ≠ BY := fun e => hg (by simp [e])
  have d1 := h.d1
  have d2 := h.d2
  have d3 := h.d3
  obtain ⟨x5, x6, hd⟩ := h.hd
  obtain ⟨zs, hb, hbl, hby⟩ := h.buf
  obtain ⟨x2, hY⟩ := h.rd
  have c0 : w.cell? ⟨BR, 0, none⟩ = some (.slice (some ⟨BB, 0, none⟩) 4096 4096) := hd.cell 0
  have c1 : w.cell? ⟨BR, 1, none⟩ = some (.iface 45 (.pointer (some ⟨BY, 0, none⟩))) := hd.cell 1
  have c2 : w.cell? ⟨BR, 2, none⟩ = some (.int .i64 r) := hd.cell 2
  have c3 : w.cell? ⟨BR, 3, none⟩ = some (.int .i64 r) := hd.cell 3
  have c4 : w.cell? ⟨BR, 4, none⟩ = some .nilIface := hd.cell 4
  have f4 := hd.free 4
  have hmb : ((m : Int) == 0) = false := beq_eq_false_iff_ne.2 (by omega)
  have hrb : ((r : Int) == (r : Int)) = true := beq_self_eq_true _
  have hm4I : (4096 : Int) ≤ (m : Int) := by omega
  have nR := Tryf.nilRead
  have mR := Tryf.methodRead
  have HRD := hideP (fun (k : Nat) => read_some (w := w.drewN k) (m := m) (cm := cm) (o := o) (by exact hY) (h.src.touch (S := []) ((Touch.refl _ w).drewN k) (by simp)) hi (by exact hr) (by omega) ho hgY (h.ds (by omega)).2.2)
  have HD := hideP hd
  have HB := hideP hb
  clear h hd hr hg hY hb hby
  go_enter Tryf.func56, Tryf.ntmps56
  go_wp2
  go_quiet (fail)
  go_wp2_with fail
  refine (HRD.out nq).mono ?_
  rintro e w2 ⟨k, hk, rfl, hg2, hY2, hT2⟩
  have hk0 : 0 < k := by rw [hk]; exact Nat.lt_min.2 ⟨by omega, by omega⟩
  have hk1 : k ≤ N - i := by rw [hk]; exact Nat.min_le_left _ _
  have hk2 : k ≤ m := by rw [hk]; exact Nat.min_le_right _ _
  obtain ⟨s, rfl⟩ : ∃ s, k = s + 1 := ⟨k - 1, by omega⟩
  have ht0 : Touch [g, BY] w w2 := ⟨hT2.os, hT2.tape, hT2.output, hT2.size, hT2.block⟩
  have hd2 := RowAt.touch HD.out ht0 (by simp; omega)
  have hb2 := RowAt.touch HB.out ht0 (by simp; omega)
  obtain ⟨lb, hlb⟩ : ∃ lb : Nat, lb = f (i + s) := ⟨_, rfl⟩
  have hl256 : lb < 256 := by rw [hlb]; exact hu _
  have eb : w2.cell? ⟨g, o + s, none⟩ = some (.int .u8 lb) := by
    rw [hg2.cell, splice_in _ _ _ (by rw [bytesL_len]; omega) _ (by rw [bytesL_len]; omega), bytesL_at _ _ _ (by omega), hlb]
  have e4 : w2.cell? ⟨BR, 4, none⟩ = some .nilIface := hd2.cell 4
  have e5 : w2.cell? ⟨BR, 5, none⟩ = some x5 := hd2.cell 5
  have e6 : w2.cell? ⟨BR, 6, none⟩ = some x6 := hd2.cell 6
  have g4 := hd2.free 4
  have g5 := hd2.free 5
  have g6 := hd2.free 6
  have hwl : IntKind.i64.wrap (lb : Int) = (lb : Int) := by rw [IntKind.wrap_i64]; omega
  have hs0 : (0 : Int) ≤ (s : Int) := by omega
  have hsm : (s : Int) < (m : Int) := by omega
  have hsp : ¬ ((s : Int) + 1 < 0) := by omega
  have hsq : (0 : Int) < (s : Int) + 1 := by omega
  have nRg : ¬ BR = g := fun e => hgR e.symm
  have HD2 := hideP hd2
  have HB2 := hideP hb2
  have HG2 := hideP hg2
  have HY2 := hideP hY2
  have HT0 := hideP ht0
  have hT3 : Touch [BR, BB, BY, g] w (((w2.setCell ⟨BR, 4, none⟩ .nilIface).setCell ⟨BR, 5, none⟩ (.int .i64 lb)).setCell ⟨BR, 6, none⟩ (.int .i64 (-1))) := (((ht0.mono (by simp)).setCell (by simp) _).setCell (by simp) _).setCell (by simp) _
  have hS3 : St (((w2.setCell ⟨BR, 4, none⟩ .nilIface).setCell ⟨BR, 5, none⟩ (.int .i64 lb)).setCell ⟨BR, 6, none⟩ (.int .i64 (-1))) BR BB BY ao N c bS oS f r r (i + (s + 1)) .nilIface :=
    HW.out.make2 hT3 hgS ⟨_, _, ((hd2.store 4 _).store 5 _).store 6 _⟩ ⟨zs, ((hb2.other (fun e => d1 e.symm) _).other (fun e => d1 e.symm) _).other (fun e => d1 e.symm) _, hbl, fun t ht => by omega⟩ ⟨_, ((hY2.other (fun e => d2 e.symm) _).other (fun e => d2 e.symm) _).other (fun e => d2 e.symm) _⟩ (Nat.le_refl _) r4 (by omega) (by omega)
  have HR3 := hideP (((hg2.other (j := 4) hgR .nilIface).other (j := 5) hgR (.int .i64 lb)).other (j := 6) hgR (.int .i64 (-1)))
  have HRE := hideP (readErr_any hS3 trivial)
  have HT3 := hideP hT3
  clear c0 c1 c2 c3 c4 f4 hd2 hb2 hg2 hY2 hT2 ht0 HRD hk hlb hl256 hT3 hS3 HD2 HB2 HG2 HY2 HT0
  go_wp2_with fail
  refine HRE.out.mono ?_
  rintro e w5 ⟨rfl, h5, t5⟩
  have H5 := hideP h5
  have T5 := hideP t5
  clear h5 t5 HRE e4 e5 e6 g4 g5 g6 eb
  go_wp2
  go_ret2
  exact ⟨s + 1, r, r, i + (s + 1), _, ret2 (by go_num) rfl, H5.out, by omega, HR3.out.touch T5.out HGN.out, HT3.out.trans (T5.out.mono (by simp)), .inl ⟨hk0, hk2, rfl⟩⟩
end
end Go.Proofs.Qxb6614532aFmt
