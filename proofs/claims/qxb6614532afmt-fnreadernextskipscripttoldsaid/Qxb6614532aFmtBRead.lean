import Derived.Test.Qxb6614532aFmtDiscard
namespace Go.Proofs.Qxb6614532aFmt
open Go.RowKit
set_option linter.unusedVariables false

/-- What Read(p) leaves: k bytes copied to offset o of block g; or none, at the end. -/
def ReadPost (w w' : World) (BR BB BY : Nat) (ao : Option Addr) (N c bS oS : Nat) (f : Nat → Nat) (q g o m : Nat) (ys : List Value) (aE : Addr) (e : Ending) : Prop :=
  ∃ k r v i er, e = .returned (.tuple #[.int .i64 (k : Nat), er]) ∧ St w' BR BB BY ao N c bS oS f r v i .nilIface ∧ i - (v - r) = q + k ∧ RowAt w' g 5 (splice ys o (bytesL (fun j => f (q + j)) k)) ∧ Touch [BR, BB, BY, g] w w' ∧
    ((0 < k ∧ k ≤ m ∧ er = .nilIface) ∨ (k = 0 ∧ q = N ∧ er = .iface 90 (.pointer (some aE))))

section
variable {w : World} {BR BB BY N c bS oS r v i q g o m cm : Nat} {ao : Option Addr} {f : Nat → Nat} {aE : Addr} {er : Value} {ys : List Value}

/-- The reader's state, made anew out of its three rows, block g besides touched. -/
theorem St.make2 {w w' : World} {r0 v0 i0 : Nat} {er0 : Value} (h : St w BR BB BY ao N c bS oS f r0 v0 i0 er0) (T : Touch [BR, BB, BY, g] w w') (hg : 0 < N → bS ≠ g)
    (hd : ∃ x5 x6, RowAt w' BR 70 (bufCells BB BY r v er x5 x6)) (hb : ∃ ys, RowAt w' BB 5 ys ∧ ys.length = 4096 ∧ ∀ t, t < v - r → ys[r + t]? = some (.int .u8 (f (i - (v - r) + t))))
    (hy : ∃ x2, RowAt w' BY 59 [.slice ao N c, .int .i64 i, x2]) (rv : r ≤ v) (v4 : v ≤ 4096) (vi : v - r ≤ i) (iN : i ≤ N) : St w' BR BB BY ao N c bS oS f r v i er :=
  ⟨hd, hb, hy, h.src.touch T (fun hp => by have := h.ds hp; have := hg hp; simp; omega), rv, v4, vi, iN, h.d1, h.d2, h.d3, h.ds⟩

set_option maxRecDepth 100000 in
set_option maxHeartbeats 1000000 in
/-- Read: bytes lie in the buffer. -/
theorem bread_in (h : St w BR BB BY ao N c bS oS f r v i .nilIface) (hq : i - (v - r) = q) (hrv : r < v) (hm : 0 < m) (hr : RowAt w g 5 ys) (ho : o + m ≤ ys.length) (hg : g ∉ [BR, BB, BY]) (hgS : 0 < N → bS ≠ g) :
    Calls Tryf.prog 56 #[.pointer (some ⟨BR, 0, none⟩), .slice (some ⟨g, o, none⟩) m cm] w fun e w' => ReadPost w w' BR BB BY ao N c bS oS f q g o m ys aE e := by
  have HST := hideP h
  have v4 := h.v4
  have vi := h.vi
  have iN := h.iN
  obtain ⟨k, hk⟩ : ∃ k, k = Nat.min (v - r) m := ⟨_, rfl⟩
  have hk1 : k ≤ v - r := by rw [hk]; exact Nat.min_le_left _ _
  have hk2 : k ≤ m := by rw [hk]; exact Nat.min_le_right _ _
  have hk0 : 0 < k := by rw [hk]; exact Nat.lt_min.2 ⟨by omega, hm⟩
  have HK := hideP hk
  obtain ⟨⟨x5, x6, hd⟩, ⟨zs, hb, hbl, hby⟩, ⟨x2, hY⟩, _, _, _, _, _, d1, d2, d3, ds⟩ := h
  have c0 : w.cell? ⟨BR, 0, none⟩ = some (.slice (some ⟨BB, 0, none⟩) 4096 4096) := hd.cell 0
  have c2 : w.cell? ⟨BR, 2, none⟩ = some (.int .i64 r) := hd.cell 2
  have c3 : w.cell? ⟨BR, 3, none⟩ = some (.int .i64 v) := hd.cell 3
  have hmb : ((m : Int) == 0) = false := beq_eq_false_iff_ne.2 (by omega)
  have hrvb : ((r : Int) == (v : Int)) = false := beq_eq_false_iff_ne.2 (by omega)
  have hr0 : (0 : Int) ≤ (r : Int) := by omega
  have hrI : (r : Int) ≤ (v : Int) := by omega
  have hv4 : (v : Int) ≤ 4096 := by omega
  have hr4 : ¬ 4096 = r := by omega
  have hgR : g ≠ BR := fun e => hg (by simp [e])
  have hgB : g ≠ BB := fun e => hg (by simp [e])
  have hgY : g ≠ BY := fun e => hg (by simp [e])
  have hsrc : ∀ (W : World), RowAt W BB 5 zs → ∀ j u, (bytesL (fun j => f (q + j)) k)[j]? = some u → W.cell? ((⟨BB, r, none⟩ : Addr).add j) = some u := fun W hW j u hu => by
    obtain ⟨h1, rfl⟩ := bytesL_some hu
    rw [Addr.add_lit, hW.cell, hby j (by omega), hq]
  have HSRC := hideP hsrc
  have HB := hideP hb
  have HD := hideP hd
  have HY := hideP hY
  have HBY := hideP hby
  have HG := hideP hr
  have HQ := hideP hq
  clear hsrc hby hd hY hb hr hk hg hq
  go_enter Tryf.func56, Tryf.ntmps56
  go_wp2
  go_quiet (fail)
  go_wp2
  have c0 : (w.drewN nq).cell? ⟨BR, 0, none⟩ = some (.slice (some ⟨BB, 0, none⟩) 4096 4096) := c0
  have c2 : (w.drewN nq).cell? ⟨BR, 2, none⟩ = some (.int .i64 r) := c2
  have c3 : (w.drewN nq).cell? ⟨BR, 3, none⟩ = some (.int .i64 v) := c3
  go_region_held3 (fun w' => w'.cell? ⟨BR, 0, none⟩ = some (.slice (some ⟨BB, 0, none⟩) 4096 4096) ∧ w'.cell? ⟨BR, 2, none⟩ = some (.int .i64 r) ∧ w'.cell? ⟨BR, 3, none⟩ = some (.int .i64 v))
    (first | (refine ⟨HT.out.cell (by exact c0) ?_, HT.out.cell (by exact c2) ?_, HT.out.cell (by exact c3) ?_⟩ <;> (simp; omega)) | go_keep)
    ((refine step_copy_touch (by rfl) (.tmp 109) (.tmp 122) 22 22 (by rfl) 5 Tryf.underlying22 Tryf.size5 _ _ m cm _ _ (by rfl) (by rfl) g o ys 5 (by exact HG.out) (bytesL (fun j => f (q + j)) k) (by rw [bytesL_len]; exact HK.out) (fun _ => ⟨rfl, ⟨BB, r, none⟩, rfl, by exact HSRC.out _ HB.out⟩) (by rw [bytesL_len]; omega) (bytesL_one _ _) ?_; intro w2 HR hT2; have HT := hideP hT2; clear hT2))
  have ht0 : Touch [g] w w2 := ⟨HT.out.os, HT.out.tape, HT.out.output, HT.out.size, HT.out.block⟩
  have hd2 := RowAt.touch HD.out ht0 (by simp; omega)
  have hb2 := RowAt.touch HB.out ht0 (by simp; omega)
  have hy2 := RowAt.touch HY.out ht0 (by simp; omega)
  have e2 : w2.cell? ⟨BR, 2, none⟩ = some (.int .i64 r) := hd2.cell 2
  have g2 := hd2.free 2
  have hkI : (0 : Int) < (k : Int) := by omega
  have hkv : (r : Int) + (k : Int) ≤ 4096 := by omega
  rw [bytesL_len]
  have HD2 := hideP hd2
  have HB2 := hideP hb2
  have HY2 := hideP hy2
  have HT0 := hideP ht0
  clear c0 c2 c3 hd2 hb2 hy2 ht0
  go_wp2
  have hT3 : Touch [BR, BB, BY, g] w (w2.setCell ⟨BR, 2, none⟩ (.int .i64 ((r : Int) + (k : Int)))) := (HT0.out.mono (by simp)).setCell (by simp) _
  have hd3 : RowAt (w2.setCell ⟨BR, 2, none⟩ (.int .i64 ((r : Int) + (k : Int)))) BR 70 (bufCells BB BY (r + k) v .nilIface x5 x6) := by
    have := HD2.out.store 2 (.int .i64 ((r : Int) + (k : Int)))
    simpa [bufCells] using this
  have hb3 := HB2.out.other (j := 2) (fun e => d1 e.symm) (.int .i64 ((r : Int) + (k : Int)))
  have hy3 := HY2.out.other (j := 2) (fun e => d2 e.symm) (.int .i64 ((r : Int) + (k : Int)))
  have hr3 := HR.out.other (j := 2) hgR (.int .i64 ((r : Int) + (k : Int)))
  have nBR : ¬ BB = BR := fun e => d1 e.symm
  clear HD2 HB2 HY2 HT0 HR HT e2 g2 HSRC HG
  generalize w2.setCell ⟨BR, 2, none⟩ (.int .i64 ((r : Int) + (k : Int))) = w3 at *
  have e0 : w3.cell? ⟨BR, 0, none⟩ = some (.slice (some ⟨BB, 0, none⟩) 4096 4096) := hd3.cell 0
  obtain ⟨s, hs⟩ : ∃ s, r + k = s + 1 := ⟨r + k - 1, by omega⟩
  have e2 : w3.cell? ⟨BR, 2, none⟩ = some (.int .i64 ((s : Int) + 1)) := by
    have := hd3.cell 2
    rw [hs] at this
    simpa [bufCells] using this
  have hs0 : (0 : Int) ≤ (s : Int) := by omega
  have hs4 : (s : Int) < 4096 := by omega
  have hw1 : IntKind.i64.wrap ((s : Int) + 1 - 1) = (s : Int) := by rw [IntKind.wrap_i64]; omega
  have hw2 : IntKind.i64.wrap (s : Int) = (s : Int) := by rw [IntKind.wrap_i64]; omega
  have e5 : w3.cell? ⟨BR, 5, none⟩ = some x5 := hd3.cell 5
  have e6 : w3.cell? ⟨BR, 6, none⟩ = some x6 := hd3.cell 6
  have g5 := hd3.free 5
  have g6 := hd3.free 6
  obtain ⟨lb, eb⟩ : ∃ lb : Nat, w3.cell? ⟨BB, s, none⟩ = some (.int .u8 lb) := ⟨_, by rw [hb3.cell, show s = r + (k - 1) by omega]; exact HBY.out (k - 1) (by omega)⟩
  have k0 : ∀ x, (w3.setCell ⟨BR, 5, none⟩ x).cell? ⟨BR, 0, none⟩ = some (.slice (some ⟨BB, 0, none⟩) 4096 4096) := fun x => (World.cell?_setCell_other w3 ⟨BR, 5, none⟩ ⟨BR, 0, none⟩ x (by simp)).trans e0
  have k2 : ∀ x, (w3.setCell ⟨BR, 5, none⟩ x).cell? ⟨BR, 2, none⟩ = some (.int .i64 ((s : Int) + 1)) := fun x => (World.cell?_setCell_other w3 ⟨BR, 5, none⟩ ⟨BR, 2, none⟩ x (by simp)).trans e2
  have kb : ∀ x, (w3.setCell ⟨BR, 5, none⟩ x).cell? ⟨BB, s, none⟩ = some (.int .u8 lb) := fun x => (World.cell?_setCell_other w3 ⟨BR, 5, none⟩ ⟨BB, s, none⟩ x (by intro h; exact d1 (congrArg Addr.block h))).trans eb
  have K0 := hideP k0
  have K2 := hideP k2
  have KB := hideP kb
  clear k0 k2 kb
  have HD3 := hideP hd3
  have HB3 := hideP hb3
  have HY3 := hideP hy3
  have HR3 := hideP hr3
  have HT3 := hideP hT3
  clear hd3 hb3 hy3 hr3 hT3
  go_region_held3 (fun w' => w'.cell? ⟨BR, 0, none⟩ = some (.slice (some ⟨BB, 0, none⟩) 4096 4096) ∧ w'.cell? ⟨BR, 2, none⟩ = some (.int .i64 ((s : Int) + 1)) ∧ w'.cell? ⟨BB, s, none⟩ = some (.int .u8 lb)) (first | (exact ⟨K0.out _, K2.out _, KB.out _⟩) | go_keep) (fail)
  clear K0 K2 KB e0 e2 eb
  generalize IntKind.i64.wrap (lb : Int) = lw
  go_wp2
  go_ret2
  have hT := fun x => ((HT3.out.setCell (g := BR) (j := 5) (by simp) x).setCell (g := BR) (j := 6) (by simp) (.int .i64 (-1))).drew
  refine ⟨k, r + k, v, i, _, rfl, HST.out.make2 (hT _) hgS ⟨_, _, (HD3.out.store 5 _).store 6 _⟩ ⟨zs, (HB3.out.other nBR _).other nBR _, hbl, fun t ht => ?_⟩ ⟨_, (HY3.out.other (fun e => d2 e.symm) _).other (fun e => d2 e.symm) _⟩ (by omega) v4 (by omega) iN, by have := HQ.out; omega, (HR3.out.other hgR _).other hgR _, hT _, .inl ⟨hk0, hk2, rfl⟩⟩
  have := HBY.out (k + t) (by omega)
  have a1 : r + (k + t) = r + k + t := by omega
  have a2 : i - (v - r) + (k + t) = i - (v - (r + k)) + t := by omega
  rw [a1, a2] at this
  exact this
end
end Go.Proofs.Qxb6614532aFmt
