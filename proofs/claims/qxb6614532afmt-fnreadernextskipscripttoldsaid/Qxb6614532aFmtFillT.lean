import Derived.Test.Qxb6614532aFmtFillS
namespace Go.Proofs.Qxb6614532aFmt
open Go.RowKit
set_option linter.unusedVariables false
section
variable {w : World} {BR BB BY N c bS oS i : Nat} {ao : Option Addr} {f : Nat → Nat} {aE : Addr}

set_option maxRecDepth 100000 in
set_option maxHeartbeats 1000000 in
theorem fillT_eof (h : St w BR BB BY ao N c bS oS f 4096 4096 i .nilIface) (hi : N ≤ i) (gE : w.cell? ⟨0, 0, none⟩ = some (.iface 90 (.pointer (some aE)))) (hz : 0 ∉ [BR, BB, BY]) :
    Calls Tryf.prog 33 #[.pointer (some ⟨BR, 0, none⟩)] w fun e w' => e = .returned (.tuple #[]) ∧ St w' BR BB BY ao N c bS oS f 0 0 i (.iface 90 (.pointer (some aE))) ∧ Touch [BR, BB, BY] w w' := by
  have HST := hideP h
  obtain ⟨⟨x5, x6, hd⟩, ⟨ys, hb, hbl, hby⟩, ⟨x2, hY⟩, hS, rv, v4, vi, iN, d1, d2, d3, ds⟩ := h
  have c0 : w.cell? ⟨BR, 0, none⟩ = some (.slice (some ⟨BB, 0, none⟩) 4096 4096) := hd.cell 0
  have c2 : w.cell? ⟨BR, 2, none⟩ = some (.int .i64 4096) := hd.cell 2
  have c3 : w.cell? ⟨BR, 3, none⟩ = some (.int .i64 4096) := hd.cell 3
  have nR := Tryf.nilRead
  have mR := Tryf.methodRead
  have HB := hideP hb
  have HD := hideP hd
  clear hby hd hY hS hb
  go_enter Tryf.func33, Tryf.ntmps33
  go_wp2
  go_region_held3 (fun w' => w'.cell? ⟨BR, 0, none⟩ = some (.slice (some ⟨BB, 0, none⟩) 4096 4096) ∧ w'.cell? ⟨BR, 2, none⟩ = some (.int .i64 4096) ∧ w'.cell? ⟨BR, 3, none⟩ = some (.int .i64 4096))
    (first | (refine ⟨HT.out.cell (by exact c0) ?_, HT.out.cell (by exact c2) ?_, HT.out.cell (by exact c3) ?_⟩ <;> (simp; omega)) | go_keep)
    ((refine step_copy_touch (by rfl) (.tmp 13) (.tmp 26) 22 22 (by rfl) 5 Tryf.underlying22 Tryf.size5 _ _ 4096 4096 _ _ (by rfl) (by rfl) BB 0 ys 5 (by exact HB.out) [] (by rfl) (fun h => absurd h (by simp)) (by simp) (by simp) ?_; intro w2 HR hT2; have HT := hideP hT2; clear hT2))
  have hd2 := RowAt.touch (w := w.drew) HD.out HT.out (by simp; omega)
  have e2 : w2.cell? ⟨BR, 2, none⟩ = some (.int .i64 4096) := hd2.cell 2
  have e3 : w2.cell? ⟨BR, 3, none⟩ = some (.int .i64 4096) := hd2.cell 3
  have g2 := hd2.free 2
  have g3 := hd2.free 3
  clear c0 c2 c3 hd2
  go_wp2
  go_region
  go_wp2
  obtain ⟨hW0, hT0⟩ := slide_st (nq := 1) HST.out (show RowAt w2 BB 5 (splice ys 0 (bytesL (fun j => f (i - (4096 - 4096) + j)) (4096 - 4096))) from HR.out) hbl (show Touch [BB] w w2 from ⟨HT.out.os, HT.out.tape, HT.out.output, HT.out.size, HT.out.block⟩)
  have hW : St (((w2.setCell ⟨BR, 3, none⟩ (.int .i64 0)).setCell ⟨BR, 2, none⟩ (.int .i64 0)).drew) BR BB BY ao N c bS oS f 0 0 i .nilIface := hW0
  have TW : Touch [BR, BB, BY] w (((w2.setCell ⟨BR, 3, none⟩ (.int .i64 0)).setCell ⟨BR, 2, none⟩ (.int .i64 0)).drew) := hT0
  obtain ⟨u, hu⟩ : ∃ u, u = 0 := ⟨_, rfl⟩
  replace hW : St (((w2.setCell ⟨BR, 3, none⟩ (.int .i64 0)).setCell ⟨BR, 2, none⟩ (.int .i64 0)).drew) BR BB BY ao N c bS oS f 0 u i .nilIface := by rw [hu]; exact hW
  have hu4 : u < 4096 := by omega
  have huI : (u : Int) < 4096 := by omega
  have hu0 : (0 : Int) ≤ (u : Int) := by omega
  have hune : ¬ 4096 = u := by omega
  have hule : (u : Int) ≤ 4096 := by omega
  have HU := hideP hu
  clear hW0 hT0 e2 e3 g2 g3 hu
  have gW := TW.cell gE hz
  generalize (((w2.setCell ⟨BR, 3, none⟩ (.int .i64 0)).setCell ⟨BR, 2, none⟩ (.int .i64 0)).drew) = W at hW TW gW ⊢
  have HSW := hideP hW
  obtain ⟨⟨x5, x6, hd⟩, hbuf, ⟨x2, hY⟩, hS, _, _, _, _, _, _, _, _⟩ := hW
  have c0 : W.cell? ⟨BR, 0, none⟩ = some (.slice (some ⟨BB, 0, none⟩) 4096 4096) := hd.cell 0
  have c1 : W.cell? ⟨BR, 1, none⟩ = some (.iface 45 (.pointer (some ⟨BY, 0, none⟩))) := hd.cell 1
  have c3 : W.cell? ⟨BR, 3, none⟩ = some (.int .i64 u) := hd.cell 3
  clear hd hbuf hY hS
  go_quiet (fail)
  go_wp2
  refine wp_loop_rounds 1 ?_; rw [rounds_succ]
  go_wp2
  have hX := St.drewN (d := nq) HSW.out
  have gX : (W.drewN nq).cell? ⟨0, 0, none⟩ = some (.iface 90 (.pointer (some aE))) := gW
  have TX : Touch [BR, BB, BY] w (W.drewN nq) := TW.drewN nq
  generalize W.drewN nq = V at hX gX TX ⊢
  clear c0 c1 c3 gW TW
  have HSX := hideP hX
  obtain ⟨⟨x5, x6, hd⟩, hbuf, ⟨x2, hY⟩, hS, _, _, _, _, _, _, _, _⟩ := hX
  have c0 : V.cell? ⟨BR, 0, none⟩ = some (.slice (some ⟨BB, 0, none⟩) 4096 4096) := hd.cell 0
  have c1 : V.cell? ⟨BR, 1, none⟩ = some (.iface 45 (.pointer (some ⟨BY, 0, none⟩))) := hd.cell 1
  have c3 : V.cell? ⟨BR, 3, none⟩ = some (.int .i64 u) := hd.cell 3
  have c4 : V.cell? ⟨BR, 4, none⟩ = some .nilIface := hd.cell 4
  have f3 := hd.free 3
  have f4 := hd.free 4
  have hn := hS.n
  have HRD := hideP (fun (dst : Value) (k : Nat) => read_eof (w := V.drewN k) (aE := aE) dst (by exact hY) hi hn (by omega) (by exact gX))
  have HDX := hideP hd
  have HBX := hideP hbuf
  have HYX := hideP hY
  have HTX := hideP TX
  clear hd hbuf hY hS TX gX
  go_quiet ((go_at_call 55; exact Calls.quiet_of (HRD.out _ _)))
  go_wp2
  refine bodyPost_ret (results_none rfl _ _ _) rfl ?_
  have hT : Touch [BR, BB, BY] w (((V.drewN nq).setCell ⟨BR, 3, none⟩ (.int .i64 u)).setCell ⟨BR, 4, none⟩ (.iface 90 (.pointer (some aE)))) := ((Touch.drewN HTX.out nq).setCell (by simp) _).setCell (by simp) _
  obtain rfl := HU.out
  refine ⟨rfl, HST.out.make hT ⟨_, _, RowAt.store (RowAt.store (RowAt.drewN HDX.out) 3 _) 4 _⟩ ?_ ⟨_, ((RowAt.drewN HYX.out).other (fun e => d2 e.symm) _).other (fun e => d2 e.symm) _⟩ (Nat.zero_le _) (by omega) (by have := HU.out; omega) iN, hT⟩
  obtain ⟨zs, h1, h2, h3⟩ := HBX.out
  exact ⟨zs, ((h1.drewN).other (fun e => d1 e.symm) _).other (fun e => d1 e.symm) _, h2, h3⟩

set_option maxRecDepth 100000 in
set_option maxHeartbeats 1000000 in
theorem fillT_some (h : St w BR BB BY ao N c bS oS f 4096 4096 i .nilIface) (hi : i < N) :
    Calls Tryf.prog 33 #[.pointer (some ⟨BR, 0, none⟩)] w fun e w' => ∃ k, 0 < k ∧ k ≤ N - i ∧ k ≤ 4096 ∧ e = .returned (.tuple #[]) ∧ St w' BR BB BY ao N c bS oS f 0 k (i + k) .nilIface ∧ Touch [BR, BB, BY] w w' := by
  have HST := hideP h
  obtain ⟨⟨x5, x6, hd⟩, ⟨ys, hb, hbl, hby⟩, ⟨x2, hY⟩, hS, rv, v4, vi, iN, d1, d2, d3, ds⟩ := h
  have c0 : w.cell? ⟨BR, 0, none⟩ = some (.slice (some ⟨BB, 0, none⟩) 4096 4096) := hd.cell 0
  have c2 : w.cell? ⟨BR, 2, none⟩ = some (.int .i64 4096) := hd.cell 2
  have c3 : w.cell? ⟨BR, 3, none⟩ = some (.int .i64 4096) := hd.cell 3
  have nR := Tryf.nilRead
  have mR := Tryf.methodRead
  have HB := hideP hb
  have HD := hideP hd
  clear hby hd hY hS hb
  go_enter Tryf.func33, Tryf.ntmps33
  go_wp2
  go_region_held3 (fun w' => w'.cell? ⟨BR, 0, none⟩ = some (.slice (some ⟨BB, 0, none⟩) 4096 4096) ∧ w'.cell? ⟨BR, 2, none⟩ = some (.int .i64 4096) ∧ w'.cell? ⟨BR, 3, none⟩ = some (.int .i64 4096))
    (first | (refine ⟨HT.out.cell (by exact c0) ?_, HT.out.cell (by exact c2) ?_, HT.out.cell (by exact c3) ?_⟩ <;> (simp; omega)) | go_keep)
    ((refine step_copy_touch (by rfl) (.tmp 13) (.tmp 26) 22 22 (by rfl) 5 Tryf.underlying22 Tryf.size5 _ _ 4096 4096 _ _ (by rfl) (by rfl) BB 0 ys 5 (by exact HB.out) [] (by rfl) (fun h => absurd h (by simp)) (by simp) (by simp) ?_; intro w2 HR hT2; have HT := hideP hT2; clear hT2))
  have hd2 := RowAt.touch (w := w.drew) HD.out HT.out (by simp; omega)
  have e2 : w2.cell? ⟨BR, 2, none⟩ = some (.int .i64 4096) := hd2.cell 2
  have e3 : w2.cell? ⟨BR, 3, none⟩ = some (.int .i64 4096) := hd2.cell 3
  have g2 := hd2.free 2
  have g3 := hd2.free 3
  clear c0 c2 c3 hd2
  go_wp2
  go_region
  go_wp2
  obtain ⟨hW0, hT0⟩ := slide_st (nq := 1) HST.out (show RowAt w2 BB 5 (splice ys 0 (bytesL (fun j => f (i - (4096 - 4096) + j)) (4096 - 4096))) from HR.out) hbl (show Touch [BB] w w2 from ⟨HT.out.os, HT.out.tape, HT.out.output, HT.out.size, HT.out.block⟩)
  have hW : St (((w2.setCell ⟨BR, 3, none⟩ (.int .i64 0)).setCell ⟨BR, 2, none⟩ (.int .i64 0)).drew) BR BB BY ao N c bS oS f 0 0 i .nilIface := hW0
  have TW : Touch [BR, BB, BY] w (((w2.setCell ⟨BR, 3, none⟩ (.int .i64 0)).setCell ⟨BR, 2, none⟩ (.int .i64 0)).drew) := hT0
  obtain ⟨u, hu⟩ : ∃ u, u = 0 := ⟨_, rfl⟩
  replace hW : St (((w2.setCell ⟨BR, 3, none⟩ (.int .i64 0)).setCell ⟨BR, 2, none⟩ (.int .i64 0)).drew) BR BB BY ao N c bS oS f 0 u i .nilIface := by rw [hu]; exact hW
  have hu4 : u < 4096 := by omega
  have huI : (u : Int) < 4096 := by omega
  have hu0 : (0 : Int) ≤ (u : Int) := by omega
  have hune : ¬ 4096 = u := by omega
  have hule : (u : Int) ≤ 4096 := by omega
  have HU := hideP hu
  clear hW0 hT0 e2 e3 g2 g3 hu
  generalize (((w2.setCell ⟨BR, 3, none⟩ (.int .i64 0)).setCell ⟨BR, 2, none⟩ (.int .i64 0)).drew) = W at hW TW ⊢
  have HSW := hideP hW
  obtain ⟨⟨x5, x6, hd⟩, hbuf, ⟨x2, hY⟩, hS, _, _, _, _, _, _, _, _⟩ := hW
  have c0 : W.cell? ⟨BR, 0, none⟩ = some (.slice (some ⟨BB, 0, none⟩) 4096 4096) := hd.cell 0
  have c1 : W.cell? ⟨BR, 1, none⟩ = some (.iface 45 (.pointer (some ⟨BY, 0, none⟩))) := hd.cell 1
  have c3 : W.cell? ⟨BR, 3, none⟩ = some (.int .i64 u) := hd.cell 3
  clear hd hbuf hY hS
  go_quiet (fail)
  go_wp2
  refine wp_loop_rounds 1 ?_; rw [rounds_succ]
  go_wp2
  have hX := St.drewN (d := nq) HSW.out
  have TX : Touch [BR, BB, BY] w (W.drewN nq) := TW.drewN nq
  generalize W.drewN nq = V at hX TX ⊢
  clear c0 c1 c3 TW
  obtain ⟨⟨x5, x6, hd⟩, ⟨zs, hb, hbl2, hby⟩, ⟨x2, hY⟩, hS, _, _, _, _, _, _, _, _⟩ := hX
  have c0 : V.cell? ⟨BR, 0, none⟩ = some (.slice (some ⟨BB, 0, none⟩) 4096 4096) := hd.cell 0
  have c1 : V.cell? ⟨BR, 1, none⟩ = some (.iface 45 (.pointer (some ⟨BY, 0, none⟩))) := hd.cell 1
  have c3 : V.cell? ⟨BR, 3, none⟩ = some (.int .i64 u) := hd.cell 3
  have HRD := hideP (read_some (w := V.drew) (m := 4096 - u) (cm := 4096 - u) (o := u) (by exact hY) (hS.touch (S := []) ((Touch.refl _ V).drew) (by simp)) hi (by exact hb) (by omega) (by omega) d3 (ds (by omega)).2.2)
  have HDX := hideP hd
  have HZ := hideP hby
  clear hd hb hS hY hby
  go_region_held3 (fun w' => w'.cell? ⟨BR, 0, none⟩ = some (.slice (some ⟨BB, 0, none⟩) 4096 4096) ∧ w'.cell? ⟨BR, 1, none⟩ = some (.iface 45 (.pointer (some ⟨BY, 0, none⟩))) ∧ w'.cell? ⟨BR, 3, none⟩ = some (.int .i64 u))
    (first | (refine ⟨HTR.out.cell (by exact c0) ?_, HTR.out.cell (by exact c1) ?_, HTR.out.cell (by exact c3) ?_⟩ <;> (simp; omega)) | go_keep)
    ((go_at_call 55; refine HRD.out.mono ?_; rintro e w5 ⟨k, hk, rfl, hg2, hY2, hT2⟩; have HTR := hideP hT2; have HG := hideP hg2; have HY := hideP hY2; have HK := hideP hk; clear hT2 hg2 hY2 hk))
  have hk0 : 0 < k := by rw [HK.out]; exact Nat.lt_min.2 ⟨by omega, by omega⟩
  have hk1 : k ≤ N - i := by rw [HK.out]; exact Nat.min_le_left _ _
  have hk2 : k ≤ 4096 - u := by rw [HK.out]; exact Nat.min_le_right _ _
  have hd2 := RowAt.touch (w := V.drew) HDX.out HTR.out (by simp; omega)
  have TW2 : Touch [BR, BB, BY] w w5 := (TX.drew).trans (HTR.out.mono (by simp))
  have e3 : w5.cell? ⟨BR, 3, none⟩ = some (.int .i64 u) := hd2.cell 3
  have g3 := hd2.free 3
  have HD2 := hideP hd2
  have HTW := hideP TW2
  clear hd2 TW2 TX c0 c1 c3
  go_wp2
  refine bodyPost_ret (results_none rfl _ _ _) rfl ?_
  have hui : u ≤ i := by have := HU.out; omega
  obtain ⟨z1, z2⟩ := buf_read (f := f) (k := k) hbl2 (by omega) hui HZ.out
  have hT := Touch.setCell HTW.out (g := BR) (j := 3) (by simp) (.int .i64 ((u : Int) + (k : Int)))
  have hU := HU.out
  have key := HST.out.make (r := 0) (v := u + k) (i := i + k) (er := .nilIface) hT ⟨x5, x6, by simpa [bufCells] using RowAt.store HD2.out 3 (.int .i64 ((u : Int) + (k : Int)))⟩ ⟨_, RowAt.other HG.out (fun e => d1 e.symm) _, z1, z2⟩ ⟨_, RowAt.other HY.out (fun e => d2 e.symm) _⟩ (by omega) (by omega) (by omega) (by omega)
  rw [show u + k = k by omega] at key
  exact ⟨k, hk0, hk1, by omega, rfl, key, hT⟩
end
end Go.Proofs.Qxb6614532aFmt
