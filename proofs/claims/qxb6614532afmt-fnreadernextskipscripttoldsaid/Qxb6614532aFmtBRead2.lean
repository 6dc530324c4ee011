import Derived.Test.Qxb6614532aFmtBRead
namespace Go.Proofs.Qxb6614532aFmt
open Go.RowKit
set_option linter.unusedVariables false
section
variable {w : World} {BR BB BY N c bS oS r v i q g o m cm : Nat} {ao : Option Addr} {f : Nat → Nat} {aE : Addr} {er : Value} {ys : List Value}

/-- An empty buffer's two marks set to nought. -/
theorem St.empty (h : St w BR BB BY ao N c bS oS f r r i .nilIface) :
    St ((w.setCell ⟨BR, 2, none⟩ (.int .i64 0)).setCell ⟨BR, 3, none⟩ (.int .i64 0)) BR BB BY ao N c bS oS f 0 0 i .nilIface ∧ Touch [BR, BB, BY] w ((w.setCell ⟨BR, 2, none⟩ (.int .i64 0)).setCell ⟨BR, 3, none⟩ (.int .i64 0)) := by
  have hT : Touch [BR, BB, BY] w ((w.setCell ⟨BR, 2, none⟩ (.int .i64 0)).setCell ⟨BR, 3, none⟩ (.int .i64 0)) := ((Touch.refl _ w).setCell (by simp) _).setCell (by simp) _
  obtain ⟨x5, x6, hd⟩ := h.hd
  obtain ⟨zs, hb, hl, hy⟩ := h.buf
  obtain ⟨x2, hY⟩ := h.rd
  exact ⟨h.make hT ⟨x5, x6, (hd.store 2 _).store 3 _⟩ ⟨zs, (hb.other (fun e => h.d1 e.symm) _).other (fun e => h.d1 e.symm) _, hl, fun t ht => by omega⟩ ⟨x2, (hY.other (fun e => h.d2 e.symm) _).other (fun e => h.d2 e.symm) _⟩ (by omega) (by omega) (by omega) h.iN, hT⟩

/-- The error's cell set. -/
theorem St.setErr {er0 : Value} (h : St w BR BB BY ao N c bS oS f r v i er0) (er : Value) : St (w.setCell ⟨BR, 4, none⟩ er) BR BB BY ao N c bS oS f r v i er ∧ Touch [BR, BB, BY] w (w.setCell ⟨BR, 4, none⟩ er) :=
  h.head (r' := r) (v' := v) (er' := er) 4 er (fun x5 x6 => ⟨x5, x6, rfl⟩) h.rv rfl (Nat.le_refl _)

theorem splice_nil (ys : List Value) (o : Nat) (f : Nat → Nat) : splice ys o (bytesL f 0) = ys := by simp [splice, bytesL]

set_option maxRecDepth 100000 in
set_option maxHeartbeats 1000000 in
/-- Read of less than the buffer holds, nothing left. -/
theorem bread_small_eof (h : St w BR BB BY ao N c bS oS f r r i .nilIface) (hi : N ≤ i) (hm : 0 < m) (hm4 : m < 4096) (hr : RowAt w g 5 ys) (hg : g ∉ [BR, BB, BY]) (gE : w.cell? ⟨0, 0, none⟩ = some (.iface 90 (.pointer (some aE)))) (hz : 0 ∉ [BR, BB, BY]) :
    Calls Tryf.prog 56 #[.pointer (some ⟨BR, 0, none⟩), .slice (some ⟨g, o, none⟩) m cm] w fun e w' => ReadPost w w' BR BB BY ao N c bS oS f i g o m ys aE e := by
  have hiN : i = N := by have := h.iN; omega
  have hn := h.src.n
  have HG := hideP hr
  have HGN := hideP hg
  obtain ⟨hE, hTE⟩ := h.empty
  have HE := hideP hE
  have HTE := hideP hTE
  have r4 := h.v4
  obtain ⟨x5, x6, hd⟩ := h.hd
  have c0 : w.cell? ⟨BR, 0, none⟩ = some (.slice (some ⟨BB, 0, none⟩) 4096 4096) := hd.cell 0
  have c2 : w.cell? ⟨BR, 2, none⟩ = some (.int .i64 r) := hd.cell 2
  have c3 : w.cell? ⟨BR, 3, none⟩ = some (.int .i64 r) := hd.cell 3
  have c4 : w.cell? ⟨BR, 4, none⟩ = some .nilIface := hd.cell 4
  have f2 := hd.free 2
  have f3 := hd.free 3
  have hmb : ((m : Int) == 0) = false := beq_eq_false_iff_ne.2 (by omega)
  have hrb : ((r : Int) == (r : Int)) = true := beq_self_eq_true _
  have hm4I : ¬ (4096 : Int) ≤ (m : Int) := by omega
  have nR := Tryf.nilRead
  have mR := Tryf.methodRead
  clear h hE hTE hd hr hg
  go_enter Tryf.func56, Tryf.ntmps56
  go_wp2
  go_quiet (fail)
  go_wp2
  have hW : St (((w.drewN nq).setCell ⟨BR, 2, none⟩ (.int .i64 0)).setCell ⟨BR, 3, none⟩ (.int .i64 0)) BR BB BY ao N c bS oS f 0 0 i .nilIface := St.drewN (d := nq) HE.out
  have TW : Touch [BR, BB, BY] w (((w.drewN nq).setCell ⟨BR, 2, none⟩ (.int .i64 0)).setCell ⟨BR, 3, none⟩ (.int .i64 0)) := HTE.out.drewN nq
  clear HE HTE c0 c2 c3 c4 f2 f3 x5 x6 hrb
  generalize ((w.drewN nq).setCell ⟨BR, 2, none⟩ (.int .i64 0)).setCell ⟨BR, 3, none⟩ (.int .i64 0) = W at *
  have gW := TW.cell gE hz
  obtain ⟨x5, x6, hd⟩ := hW.hd
  obtain ⟨x2, hY⟩ := hW.rd
  have c0 : W.cell? ⟨BR, 0, none⟩ = some (.slice (some ⟨BB, 0, none⟩) 4096 4096) := hd.cell 0
  have c1 : W.cell? ⟨BR, 1, none⟩ = some (.iface 45 (.pointer (some ⟨BY, 0, none⟩))) := hd.cell 1
  have c4 : W.cell? ⟨BR, 4, none⟩ = some .nilIface := hd.cell 4
  have f4 := hd.free 4
  have hrd := fun (dst : Value) => read_eof (w := W.drew) (aE := aE) dst (by exact hY) hi hn (by omega) (by exact gW)
  have HRD := hideP hrd
  have HW := hideP hW
  have HTW := hideP TW
  have k0 : ∀ (wx : World) x, wx.cell? ⟨BR, 0, none⟩ = some (.slice (some ⟨BB, 0, none⟩) 4096 4096) → wx.cell? ⟨BR, 1, none⟩ = some (.iface 45 (.pointer (some ⟨BY, 0, none⟩))) → (wx.setCell ⟨BR, 4, none⟩ x).cell? ⟨BR, 0, none⟩ = some (.slice (some ⟨BB, 0, none⟩) 4096 4096) ∧ (wx.setCell ⟨BR, 4, none⟩ x).cell? ⟨BR, 1, none⟩ = some (.iface 45 (.pointer (some ⟨BY, 0, none⟩))) :=
    fun wx x h0 h1 => ⟨(World.cell?_setCell_other wx ⟨BR, 4, none⟩ ⟨BR, 0, none⟩ x (by simp)).trans h0, (World.cell?_setCell_other wx ⟨BR, 4, none⟩ ⟨BR, 1, none⟩ x (by simp)).trans h1⟩
  have K0 := hideP k0
  clear hW TW hd hY hrd k0
  go_region_held3 (fun w' => w'.cell? ⟨BR, 0, none⟩ = some (.slice (some ⟨BB, 0, none⟩) 4096 4096) ∧ w'.cell? ⟨BR, 1, none⟩ = some (.iface 45 (.pointer (some ⟨BY, 0, none⟩))))
    (first | (exact K0.out _ _ (by exact c0) (by exact c1)) | (exact ⟨by exact c0, by exact c1⟩) | go_keep)
    ((go_at_call 55; refine (HRD.out _).mono ?_; rintro e w2 ⟨rfl, d, rfl⟩))
  obtain ⟨h4, t4⟩ := St.setErr (St.drewN (d := 1 + d) HW.out) (.iface 90 (.pointer (some aE)))
  have HRE := hideP (readErr_any h4 trivial)
  have T4 := hideP ((HTW.out.drewN (1 + d)).trans t4)
  clear h4 t4 c0 c1 c4 f4 HRD K0 gW
  generalize (W.drewN (1 + d)).setCell ⟨BR, 4, none⟩ (.iface 90 (.pointer (some aE))) = W4 at *
  go_wp2_with fail
  refine HRE.out.mono ?_
  rintro e w5 ⟨rfl, h5, t5⟩
  have H5 := hideP h5
  have T5 := hideP (T4.out.trans t5)
  clear h5 t5 HRE
  go_wp2
  go_ret2
  refine ⟨0, 0, 0, i, _, rfl, H5.out, by omega, ?_, T5.out.mono (by simp), .inr ⟨rfl, hiN, rfl⟩⟩
  rw [splice_nil]
  exact HG.out.touch T5.out HGN.out

set_option maxRecDepth 100000 in
set_option maxHeartbeats 1000000 in
/-- Read of as much as the buffer holds or more, nothing left. -/
theorem bread_big_eof (h : St w BR BB BY ao N c bS oS f r r i .nilIface) (hi : N ≤ i) (hm4 : 4096 ≤ m) (hr : RowAt w g 5 ys) (hg : g ∉ [BR, BB, BY]) (gE : w.cell? ⟨0, 0, none⟩ = some (.iface 90 (.pointer (some aE)))) (hz : 0 ∉ [BR, BB, BY]) :
    Calls Tryf.prog 56 #[.pointer (some ⟨BR, 0, none⟩), .slice (some ⟨g, o, none⟩) m cm] w fun e w' => ReadPost w w' BR BB BY ao N c bS oS f i g o m ys aE e := by
  have hiN : i = N := by have := h.iN; omega
  have hn := h.src.n
  have HG := hideP hr
  have HGN := hideP hg
  have HW := hideP h
  have r4 := h.v4
  obtain ⟨x5, x6, hd⟩ := h.hd
  obtain ⟨x2, hY⟩ := h.rd
  have c0 : w.cell? ⟨BR, 0, none⟩ = some (.slice (some ⟨BB, 0, none⟩) 4096 4096) := hd.cell 0
  have c1 : w.cell? ⟨BR, 1, none⟩ = some (.iface 45 (.pointer (some ⟨BY, 0, none⟩))) := hd.cell 1
  have c2 : w.cell? ⟨BR, 2, none⟩ = some (.int .i64 r) := hd.cell 2
  have c3 : w.cell? ⟨BR, 3, none⟩ = some (.int .i64 r) := hd.cell 3
  have c4 : w.cell? ⟨BR, 4, none⟩ = some .nilIface := hd.cell 4
  have f4 := hd.free 4
  have hmb : ((m : Int) == 0) = false := beq_eq_false_iff_ne.2 (by omega)
  have hrb : ((r : Int) == (r : Int)) = true := beq_self_eq_true _
  have hm4I : (4096 : Int) ≤ (m : Int) := by omega
  have nR := Tryf.nilRead
  have mR := Tryf.methodRead
  have HRD := hideP (fun (k : Nat) (dst : Value) => read_eof (w := w.drewN k) (aE := aE) dst (by exact hY) hi hn (by omega) (by exact gE))
  clear h hd hr hg hY
  go_enter Tryf.func56, Tryf.ntmps56
  go_wp2
  go_quiet (fail)
  go_wp2_with fail
  refine (HRD.out nq _).mono ?_
  rintro e w2 ⟨rfl, d, rfl⟩
  obtain ⟨h4, t4⟩ := St.setErr (St.drewN (d := nq + d) HW.out) (.iface 90 (.pointer (some aE)))
  have HRE := hideP (readErr_any h4 trivial)
  have T4 := hideP (((Touch.refl _ w).drewN (nq + d)).trans t4)
  clear h4 t4 HRD
  go_wp2_with fail
  refine HRE.out.mono ?_
  rintro e w5 ⟨rfl, h5, t5⟩
  have H5 := hideP h5
  have T5 := hideP (T4.out.trans t5)
  clear h5 t5 HRE c0 c1 c2 c3 c4 f4
  go_wp2
  go_ret2
  refine ⟨0, r, r, i, _, rfl, H5.out, by omega, ?_, T5.out.mono (by simp), .inr ⟨rfl, hiN, rfl⟩⟩
  rw [splice_nil]
  exact HG.out.touch T5.out HGN.out
end
end Go.Proofs.Qxb6614532aFmt
