import Derived.Test.Qxb6614532aFmtBRead3
namespace Go.Proofs.Qxb6614532aFmt
open Go.RowKit
set_option linter.unusedVariables false
section
variable {w : World} {BR BB BY N c bS oS r v i q g o m cm : Nat} {ao : Option Addr} {f : Nat → Nat} {aE : Addr} {er : Value} {ys : List Value}

set_option maxRecDepth 100000 in
set_option maxHeartbeats 1000000 in
/-- Read of less than the buffer holds, bytes to be had: through the buffer. -/
theorem bread_small_some (h : St w BR BB BY ao N c bS oS f r r i .nilIface) (hi : i < N) (hm : 0 < m) (hm4 : m < 4096) (hr : RowAt w g 5 ys) (ho : o + m ≤ ys.length) (hg : g ∉ [BR, BB, BY]) (hgS : 0 < N → bS ≠ g) :
    Calls Tryf.prog 56 #[.pointer (some ⟨BR, 0, none⟩), .slice (some ⟨g, o, none⟩) m cm] w fun e w' => ReadPost w w' BR BB BY ao N c bS oS f i g o m ys aE e := by
  have hn := h.src.n
  have HG := hideP hr
  have HGN := hideP hg
  obtain ⟨hE, hTE⟩ := h.empty
  have HE := hideP hE
  have HTE := hideP hTE
  have HST := hideP h
  have r4 := h.v4
  have d1 := h.d1
  have d2 := h.d2
  have d3 := h.d3
  have hSY := (h.ds (by omega)).2.2
  have hgR : g ≠ BR := fun e => hg (by simp [e])
  have hgB : g ≠ BB := fun e => hg (by simp [e])
  have hgY : g ≠ BY := fun e => hg (by simp [e])
  obtain ⟨x5, x6, hd⟩ := h.hd
  have c0 : w.cell? ⟨BR, 0, none⟩ = some (.slice (some ⟨BB, 0, none⟩) 4096 4096) := hd.cell 0
  have c2 : w.cell? ⟨BR, 2, none⟩ = some (.int .i64 r) := hd.cell 2
  have c3 : w.cell? ⟨BR, 3, none⟩ = some (.int .i64 r) := hd.cell 3
  have c4 : w.cell? ⟨BR, 4, none⟩ = some .nilIface := hd.cell 4
  have f2 := hd.free 2
  have f3 := hd.free 3
  have hmb : ((m : Int) == 0) = false := beq_eq_false_iff_ne.2 (by omega)
  have hrb : ((r : Int) == (r : Int)) = true := beq_self_eq_true _
  have hm4I : ¬ (4096 : Int) ≤ (m : Int) := by omega
  have nR := Tryf.nilRead
  have mR := Tryf.methodRead
  clear h hE hTE hd hr hg
  go_enter Tryf.func56, Tryf.ntmps56
  go_wp2
  go_quiet (fail)
  go_wp2
  have hW : St (((w.drewN nq).setCell ⟨BR, 2, none⟩ (.int .i64 0)).setCell ⟨BR, 3, none⟩ (.int .i64 0)) BR BB BY ao N c bS oS f 0 0 i .nilIface := St.drewN (d := nq) HE.out
  have TW : Touch [BR, BB, BY] w (((w.drewN nq).setCell ⟨BR, 2, none⟩ (.int .i64 0)).setCell ⟨BR, 3, none⟩ (.int .i64 0)) := HTE.out.drewN nq
  clear HE HTE c0 c2 c3 c4 f2 f3 x5 x6 hrb
  generalize ((w.drewN nq).setCell ⟨BR, 2, none⟩ (.int .i64 0)).setCell ⟨BR, 3, none⟩ (.int .i64 0) = W at *
  obtain ⟨x5, x6, hd⟩ := hW.hd
  obtain ⟨zs, hb, hbl, _⟩ := hW.buf
  obtain ⟨x2, hY⟩ := hW.rd
  have c0 : W.cell? ⟨BR, 0, none⟩ = some (.slice (some ⟨BB, 0, none⟩) 4096 4096) := hd.cell 0
  have c1 : W.cell? ⟨BR, 1, none⟩ = some (.iface 45 (.pointer (some ⟨BY, 0, none⟩))) := hd.cell 1
  have hrd := read_some (w := W.drew) (m := 4096) (cm := 4096) (o := 0) (by exact hY) (hW.src.touch (S := []) ((Touch.refl _ W).drew) (by simp)) hi (by exact hb) (by omega) (by omega) d3 hSY
  have HRD := hideP hrd
  have HD := hideP hd
  have HTW := hideP TW
  have HGW := hideP (HG.out.touch TW HGN.out)
  clear hW TW hd hb hY hrd HG
  go_region_held3 (fun w' => w'.cell? ⟨BR, 0, none⟩ = some (.slice (some ⟨BB, 0, none⟩) 4096 4096) ∧ w'.cell? ⟨BR, 1, none⟩ = some (.iface 45 (.pointer (some ⟨BY, 0, none⟩))))
    (first | (refine ⟨HT.out.cell (by exact c0) ?_, HT.out.cell (by exact c1) ?_⟩ <;> (simp; omega)) | (exact ⟨(World.cell?_setCell_other _ ⟨BR, 4, none⟩ ⟨BR, 0, none⟩ _ (by simp)).trans e0, (World.cell?_setCell_other _ ⟨BR, 4, none⟩ ⟨BR, 1, none⟩ _ (by simp)).trans e1⟩) | go_keep)
    ((go_at_call 55; refine HRD.out.mono ?_; rintro e w2 ⟨k, hk, rfl, hg2, hY2, hT2⟩; have HT := hideP hT2; have HG := hideP hg2; have HY := hideP hY2; have HK := hideP hk; have hdx := RowAt.touch (w := W.drew) HD.out hT2 (by simp; omega); have e0 : w2.cell? ⟨BR, 0, none⟩ = some (.slice (some ⟨BB, 0, none⟩) 4096 4096) := hdx.cell 0; have e1 : w2.cell? ⟨BR, 1, none⟩ = some (.iface 45 (.pointer (some ⟨BY, 0, none⟩))) := hdx.cell 1; have e4 : w2.cell? ⟨BR, 4, none⟩ = some .nilIface := hdx.cell 4; have g4 := hdx.free 4; have HDX := hideP hdx; clear hT2 hg2 hY2 hk hdx))
  have hk0 : 0 < k := by rw [HK.out]; exact Nat.lt_min.2 ⟨by omega, by omega⟩
  have hk1 : k ≤ N - i := by rw [HK.out]; exact Nat.min_le_left _ _
  have hk2 : k ≤ 4096 := by rw [HK.out]; exact Nat.min_le_right _ _
  have hkb : ((k : Int) == 0) = false := beq_eq_false_iff_ne.2 (by omega)
  have hkn : ¬ (k : Int) < 0 := by omega
  have ht2 : Touch [BB, BY] W w2 := ⟨HT.out.os, HT.out.tape, HT.out.output, HT.out.size, HT.out.block⟩
  have T4 : Touch [BR, BB, BY] w (w2.setCell ⟨BR, 4, none⟩ .nilIface) := (HTW.out.trans (ht2.mono (by simp))).setCell (by simp) _
  have D4 := HDX.out.store 4 .nilIface
  have B4 := HG.out.other (j := 4) (fun e => d1 e.symm) .nilIface
  have Y4 := HY.out.other (j := 4) (fun e => d2 e.symm) .nilIface
  have G4 := (HGW.out.touch ht2 (by simp; omega)).other (j := 4) hgR .nilIface
  clear HT HDX HG HY HGW HTW ht2 e0 e1 e4 g4 HRD c0 c1 HD HK
  generalize w2.setCell ⟨BR, 4, none⟩ .nilIface = W4 at *
  have e3 : W4.cell? ⟨BR, 3, none⟩ = some (.int .i64 0) := D4.cell 3
  have g3 := D4.free 3
  have hT5 : Touch [BR, BB, BY] w (W4.setCell ⟨BR, 3, none⟩ (.int .i64 k)) := T4.setCell (by simp) _
  have hS5 : St (W4.setCell ⟨BR, 3, none⟩ (.int .i64 k)) BR BB BY ao N c bS oS f 0 k (i + k) .nilIface := by
    refine HST.out.make hT5 ⟨_, _, D4.store 3 _⟩ ⟨_, B4.other (fun e => d1 e.symm) _, by rw [splice_len _ _ _ (by rw [bytesL_len]; omega)]; exact hbl, fun t ht => ?_⟩ ⟨_, Y4.other (fun e => d2 e.symm) _⟩ (by omega) (by omega) (by omega) (by omega)
    rw [splice_in _ _ _ (by rw [bytesL_len]; omega) _ (by rw [bytesL_len]; omega), bytesL_at _ _ _ (by omega)]
    congr 4; omega
  have HT5 := hideP hT5
  have HS5 := hideP hS5
  have HG5 := hideP (G4.other (j := 3) hgR (.int .i64 k))
  clear T4 D4 B4 Y4 G4 hT5 hS5
  go_wp2
  clear e3 g3
  generalize W4.setCell ⟨BR, 3, none⟩ (.int .i64 (k : Int)) = W5 at *
  obtain ⟨kk, hkk⟩ : ∃ kk, kk = Nat.min k m := ⟨_, rfl⟩
  have hq1 : kk ≤ k := by rw [hkk]; exact Nat.min_le_left _ _
  have hq2 : kk ≤ m := by rw [hkk]; exact Nat.min_le_right _ _
  have hq0 : 0 < kk := by rw [hkk]; exact Nat.lt_min.2 ⟨hk0, hm⟩
  have HKK := hideP hkk
  obtain ⟨y5, y6, hd⟩ := HS5.out.hd
  obtain ⟨us, hb, hul, hby⟩ := HS5.out.buf
  obtain ⟨y2, hY⟩ := HS5.out.rd
  have c0 : W5.cell? ⟨BR, 0, none⟩ = some (.slice (some ⟨BB, 0, none⟩) 4096 4096) := hd.cell 0
  have c2 : W5.cell? ⟨BR, 2, none⟩ = some (.int .i64 0) := hd.cell 2
  have c3 : W5.cell? ⟨BR, 3, none⟩ = some (.int .i64 k) := hd.cell 3
  have hkI0 : (0 : Int) ≤ (k : Int) := by omega
  have hkI4 : (k : Int) ≤ 4096 := by omega
  have hsrc : ∀ (V : World), RowAt V BB 5 us → ∀ j u, (bytesL (fun j => f (i + j)) kk)[j]? = some u → V.cell? ((⟨BB, 0, none⟩ : Addr).add j) = some u := fun V hV j u hu => by
    obtain ⟨h1, rfl⟩ := bytesL_some hu
    rw [Addr.add_lit, hV.cell, hby j (by omega)]
    congr 4; omega
  have HSRC := hideP hsrc
  have HB := hideP hb
  have HD := hideP hd
  have HY := hideP hY
  have HBY := hideP hby
  clear hsrc hby hd hY hb hkk
  go_region_held3 (fun w' => w'.cell? ⟨BR, 0, none⟩ = some (.slice (some ⟨BB, 0, none⟩) 4096 4096) ∧ w'.cell? ⟨BR, 2, none⟩ = some (.int .i64 0) ∧ w'.cell? ⟨BR, 3, none⟩ = some (.int .i64 k))
    (first | (refine ⟨HT.out.cell (by exact c0) ?_, HT.out.cell (by exact c2) ?_, HT.out.cell (by exact c3) ?_⟩ <;> (simp; omega)) | go_keep)
    ((refine step_copy_touch (by rfl) (.tmp 109) (.tmp 122) 22 22 (by rfl) 5 Tryf.underlying22 Tryf.size5 _ _ m cm _ _ (by rfl) (by rfl) g o ys 5 (by exact HG5.out) (bytesL (fun j => f (i + j)) kk) (by rw [bytesL_len]; exact HKK.out) (fun _ => ⟨rfl, ⟨BB, 0, none⟩, rfl, by exact HSRC.out _ HB.out⟩) (by rw [bytesL_len]; omega) (bytesL_one _ _) ?_; intro w6 HR hT2; have HT := hideP hT2; clear hT2))
  have ht0 : Touch [g] W5 w6 := ⟨HT.out.os, HT.out.tape, HT.out.output, HT.out.size, HT.out.block⟩
  have hd2 := RowAt.touch HD.out ht0 (by simp; omega)
  have hb2 := RowAt.touch HB.out ht0 (by simp; omega)
  have hy2 := RowAt.touch HY.out ht0 (by simp; omega)
  have e2 : w6.cell? ⟨BR, 2, none⟩ = some (.int .i64 0) := hd2.cell 2
  have g2 := hd2.free 2
  have hqI : (0 : Int) < (kk : Int) := by omega
  have hqv : (kk : Int) ≤ 4096 := by omega
  rw [bytesL_len]
  have HD2 := hideP hd2
  have HB2 := hideP hb2
  have HY2 := hideP hy2
  have HT0 := hideP ht0
  clear c0 c2 c3 hd2 hb2 hy2 ht0
  go_wp2
  have hT3 : Touch [BR, BB, BY, g] w (w6.setCell ⟨BR, 2, none⟩ (.int .i64 (kk : Int))) := ((HT5.out.mono (by simp)).trans (HT0.out.mono (by simp))).setCell (by simp) _
  have hd3 : RowAt (w6.setCell ⟨BR, 2, none⟩ (.int .i64 (kk : Int))) BR 70 (bufCells BB BY kk k .nilIface y5 y6) := HD2.out.store 2 (.int .i64 (kk : Int))
  have hb3 := HB2.out.other (j := 2) (fun e => d1 e.symm) (.int .i64 (kk : Int))
  have hy3 := HY2.out.other (j := 2) (fun e => d2 e.symm) (.int .i64 (kk : Int))
  have hr3 := HR.out.other (j := 2) hgR (.int .i64 (kk : Int))
  have nBR : ¬ BB = BR := fun e => d1 e.symm
  clear HD2 HB2 HY2 HT0 HR HT e2 g2 HSRC HG5
  generalize w6.setCell ⟨BR, 2, none⟩ (.int .i64 (kk : Int)) = w3 at *
  have e0 : w3.cell? ⟨BR, 0, none⟩ = some (.slice (some ⟨BB, 0, none⟩) 4096 4096) := hd3.cell 0
  obtain ⟨s, hs⟩ : ∃ s, kk = s + 1 := ⟨kk - 1, by omega⟩
  have e2 : w3.cell? ⟨BR, 2, none⟩ = some (.int .i64 ((s : Int) + 1)) := by
    have := hd3.cell 2
    rw [hs] at this
    simpa [bufCells] using this
  have hs0 : (0 : Int) ≤ (s : Int) := by omega
  have hs4 : (s : Int) < 4096 := by omega
  have hw1 : IntKind.i64.wrap ((s : Int) + 1 - 1) = (s : Int) := by rw [IntKind.wrap_i64]; omega
  have hw2 : IntKind.i64.wrap (s : Int) = (s : Int) := by rw [IntKind.wrap_i64]; omega
  have e5 : w3.cell? ⟨BR, 5, none⟩ = some y5 := hd3.cell 5
  have e6 : w3.cell? ⟨BR, 6, none⟩ = some y6 := hd3.cell 6
  have g5 := hd3.free 5
  have g6 := hd3.free 6
  obtain ⟨lb, eb⟩ : ∃ lb : Nat, w3.cell? ⟨BB, s, none⟩ = some (.int .u8 lb) := ⟨_, by rw [hb3.cell, show s = 0 + s by omega]; exact HBY.out s (by omega)⟩
  have k0 : ∀ x, (w3.setCell ⟨BR, 5, none⟩ x).cell? ⟨BR, 0, none⟩ = some (.slice (some ⟨BB, 0, none⟩) 4096 4096) := fun x => (World.cell?_setCell_other w3 ⟨BR, 5, none⟩ ⟨BR, 0, none⟩ x (by simp)).trans e0
  have k2 : ∀ x, (w3.setCell ⟨BR, 5, none⟩ x).cell? ⟨BR, 2, none⟩ = some (.int .i64 ((s : Int) + 1)) := fun x => (World.cell?_setCell_other w3 ⟨BR, 5, none⟩ ⟨BR, 2, none⟩ x (by simp)).trans e2
  have kb : ∀ x, (w3.setCell ⟨BR, 5, none⟩ x).cell? ⟨BB, s, none⟩ = some (.int .u8 lb) := fun x => (World.cell?_setCell_other w3 ⟨BR, 5, none⟩ ⟨BB, s, none⟩ x (by intro h; exact d1 (congrArg Addr.block h))).trans eb
  have K0 := hideP k0
  have K2 := hideP k2
  have KB := hideP kb
  clear k0 k2 kb
  have HD3 := hideP hd3
  have HB3 := hideP hb3
  have HY3 := hideP hy3
  have HR3 := hideP hr3
  have HT3 := hideP hT3
  clear hd3 hb3 hy3 hr3 hT3
  go_region_held3 (fun w' => w'.cell? ⟨BR, 0, none⟩ = some (.slice (some ⟨BB, 0, none⟩) 4096 4096) ∧ w'.cell? ⟨BR, 2, none⟩ = some (.int .i64 ((s : Int) + 1)) ∧ w'.cell? ⟨BB, s, none⟩ = some (.int .u8 lb)) (first | (exact ⟨K0.out _, K2.out _, KB.out _⟩) | go_keep) (fail)
  clear K0 K2 KB e0 e2 eb
  generalize IntKind.i64.wrap (lb : Int) = lw
  go_wp2
  go_ret2
  have hT := fun x => ((HT3.out.setCell (g := BR) (j := 5) (by simp) x).setCell (g := BR) (j := 6) (by simp) (.int .i64 (-1))).drew
  refine ⟨kk, kk, k, i + k, _, ret2 (by show Value.int .i64 ((s : Int) + 1) = Value.int .i64 ((kk : Nat) : Int); rw [hs]; rfl) rfl, HST.out.make2 (hT _) hgS ⟨_, _, (HD3.out.store 5 _).store 6 _⟩ ⟨us, (HB3.out.other nBR _).other nBR _, hul, fun t ht => ?_⟩ ⟨_, (HY3.out.other (fun e => d2 e.symm) _).other (fun e => d2 e.symm) _⟩ hq1 hk2 (by omega) (by omega), by omega, (HR3.out.other hgR _).other hgR _, hT _, .inl ⟨hq0, hq2, rfl⟩⟩
  have := HBY.out (kk + t) (by omega)
  have a1 : 0 + (kk + t) = kk + t := by omega
  have a2 : i + k - (k - 0) + (kk + t) = i + k - (k - kk) + t := by omega
  rw [a1, a2] at this
  exact this
end
end Go.Proofs.Qxb6614532aFmt
