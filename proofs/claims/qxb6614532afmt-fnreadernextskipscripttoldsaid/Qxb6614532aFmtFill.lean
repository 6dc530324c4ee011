import Derived.Test.Qxb6614532aFmtRead
namespace Go.Proofs.Qxb6614532aFmt
open Go.RowKit
set_option linter.unusedVariables false

theorem Tryf.nilRead (a : Addr) (w : World) : (nilAhead 231 45 (.pointer (some a)) "Read").run Tryf.prog w = .ok (some false) w := by kernel_rfl
theorem Tryf.methodRead (a : Addr) (w : World) : (Go.method 231 45 (.pointer (some a)) "Read").run Tryf.prog w = .ok (55, .pointer (some a)) w := by kernel_rfl

/-- The cells of a bufio.Reader. -/
def bufCells (BB BY r v : Nat) (er x5 x6 : Value) : List Value := [.slice (some ⟨BB, 0, none⟩) 4096 4096, .iface 45 (.pointer (some ⟨BY, 0, none⟩)), .int .i64 r, .int .i64 v, er, x5, x6]

/-- A bufio.Reader at block BR over a bytes.Reader at block BY, which reads the bytes f 0 .. f (N-1); r, v: its two marks; i: what the bytes.Reader has handed out; er: its error. -/
structure St (w : World) (BR BB BY : Nat) (ao : Option Addr) (N c bS oS : Nat) (f : Nat → Nat) (r v i : Nat) (er : Value) : Prop where
  hd : ∃ x5 x6, RowAt w BR 70 (bufCells BB BY r v er x5 x6)
  buf : ∃ ys, RowAt w BB 5 ys ∧ ys.length = 4096 ∧ ∀ t, t < v - r → ys[r + t]? = some (.int .u8 (f (i - (v - r) + t)))
  rd : ∃ x2, RowAt w BY 59 [.slice ao N c, .int .i64 i, x2]
  src : Src w ao N c bS oS f
  rv : r ≤ v
  v4 : v ≤ 4096
  vi : v - r ≤ i
  iN : i ≤ N
  d1 : BR ≠ BB
  d2 : BR ≠ BY
  d3 : BB ≠ BY
  ds : 0 < N → bS ≠ BR ∧ bS ≠ BB ∧ bS ≠ BY

theorem St.drewN {w : World} {BR BB BY N c bS oS r v i d : Nat} {ao : Option Addr} {f : Nat → Nat} {er : Value} (h : St w BR BB BY ao N c bS oS f r v i er) : St (w.drewN d) BR BB BY ao N c bS oS f r v i er :=
  ⟨h.hd, h.buf, h.rd, ⟨h.src.adr, h.src.cell, h.src.len, h.src.n⟩, h.rv, h.v4, h.vi, h.iN, h.d1, h.d2, h.d3, h.ds⟩

/-- The reader's state, made anew out of its three rows. -/
theorem St.make {w w' : World} {BR BB BY N c bS oS r v i r0 v0 i0 : Nat} {ao : Option Addr} {f : Nat → Nat} {er er0 : Value} (h : St w BR BB BY ao N c bS oS f r0 v0 i0 er0) (T : Touch [BR, BB, BY] w w')
    (hd : ∃ x5 x6, RowAt w' BR 70 (bufCells BB BY r v er x5 x6)) (hb : ∃ ys, RowAt w' BB 5 ys ∧ ys.length = 4096 ∧ ∀ t, t < v - r → ys[r + t]? = some (.int .u8 (f (i - (v - r) + t))))
    (hy : ∃ x2, RowAt w' BY 59 [.slice ao N c, .int .i64 i, x2]) (rv : r ≤ v) (v4 : v ≤ 4096) (vi : v - r ≤ i) (iN : i ≤ N) : St w' BR BB BY ao N c bS oS f r v i er :=
  ⟨hd, hb, hy, h.src.touch T (fun hp => by have := h.ds hp; simp; omega), rv, v4, vi, iN, h.d1, h.d2, h.d3, h.ds⟩

section
variable {w : World} {BR BB BY N c bS oS r v i : Nat} {ao : Option Addr} {f : Nat → Nat} {aE : Addr}

set_option maxRecDepth 100000 in
set_option maxHeartbeats 1000000 in
/-- fill, nothing to slide, the source at its end. -/
theorem fill0_eof (h : St w BR BB BY ao N c bS oS f 0 v i .nilIface) (hv : v < 4096) (hi : N ≤ i) (gE : w.cell? ⟨0, 0, none⟩ = some (.iface 90 (.pointer (some aE)))) :
    Calls Tryf.prog 33 #[.pointer (some ⟨BR, 0, none⟩)] w fun e w' => e = .returned (.tuple #[]) ∧ St w' BR BB BY ao N c bS oS f 0 v i (.iface 90 (.pointer (some aE))) ∧ Touch [BR, BB, BY] w w' := by
  have HST := hideP (h)
  obtain ⟨⟨x5, x6, hd⟩, ⟨ys, hb, hbl, hby⟩, ⟨x2, hY⟩, hS, rv, v4, vi, iN, d1, d2, d3, ds⟩ := h
  have c0 : w.cell? ⟨BR, 0, none⟩ = some (.slice (some ⟨BB, 0, none⟩) 4096 4096) := hd.cell 0
  have c1 : w.cell? ⟨BR, 1, none⟩ = some (.iface 45 (.pointer (some ⟨BY, 0, none⟩))) := hd.cell 1
  have c2 : w.cell? ⟨BR, 2, none⟩ = some (.int .i64 0) := hd.cell 2
  have c3 : w.cell? ⟨BR, 3, none⟩ = some (.int .i64 v) := hd.cell 3
  have c4 : w.cell? ⟨BR, 4, none⟩ = some .nilIface := hd.cell 4
  have f3 := hd.free 3
  have f4 := hd.free 4
  have hvI : (v : Int) < 4096 := by omega
  have hv0 : (0 : Int) ≤ (v : Int) := by omega
  have hv4 : ¬ 4096 = v := by omega
  have hvle : (v : Int) ≤ 4096 := by omega
  have nR := Tryf.nilRead
  have mR := Tryf.methodRead
  go_enter Tryf.func33, Tryf.ntmps33
  go_wp2
  go_quiet (fail)
  go_wp2
  refine wp_loop_rounds 1 ?_; rw [rounds_succ]
  go_wp2
  have hW := St.drewN (d := nq) HST.out
  have gW : (w.drewN nq).cell? ⟨0, 0, none⟩ = some (.iface 90 (.pointer (some aE))) := gE
  have TW : Touch [BR, BB, BY] w (w.drewN nq) := (Touch.refl _ w).drewN nq
  generalize w.drewN nq = W at hW gW TW ⊢
  clear c0 c1 c2 c3 c4 f3 f4 hd hb hby hY hS gE
  obtain ⟨⟨x5, x6, hd⟩, hbuf, ⟨x2, hY⟩, hS, _, _, _, _, _, _, _, _⟩ := hW
  have c0 : W.cell? ⟨BR, 0, none⟩ = some (.slice (some ⟨BB, 0, none⟩) 4096 4096) := hd.cell 0
  have c1 : W.cell? ⟨BR, 1, none⟩ = some (.iface 45 (.pointer (some ⟨BY, 0, none⟩))) := hd.cell 1
  have c3 : W.cell? ⟨BR, 3, none⟩ = some (.int .i64 v) := hd.cell 3
  have c4 : W.cell? ⟨BR, 4, none⟩ = some .nilIface := hd.cell 4
  have f3 := hd.free 3
  have f4 := hd.free 4
  have hn := hS.n
  have hrd := fun (dst : Value) (k : Nat) => read_eof (w := W.drewN k) (aE := aE) dst (by exact hY) hi hn (by omega) (by exact gW)
  have HRD := hideP (hrd)
  have HD := hideP (hd)
  have HB := hideP (hbuf)
  clear hd hbuf hrd
  go_quiet ((go_at_call 55; exact Calls.quiet_of (HRD.out _ _)))
  go_wp2
  refine bodyPost_ret (results_none rfl _ _ _) rfl ?_
  have hT : Touch [BR, BB, BY] w (((W.drewN nq).setCell ⟨BR, 3, none⟩ (.int .i64 v)).setCell ⟨BR, 4, none⟩ (.iface 90 (.pointer (some aE)))) := ((TW.drewN nq).setCell (by simp) _).setCell (by simp) _
  refine ⟨rfl, HST.out.make hT ⟨_, _, RowAt.store (RowAt.store (RowAt.drewN HD.out) 3 _) 4 _⟩ ?_ ⟨_, ((hY.drewN).other (fun e => d2 e.symm) _).other (fun e => d2 e.symm) _⟩ rv v4 vi iN, hT⟩
  obtain ⟨zs, h1, h2, h3⟩ := HB.out
  exact ⟨zs, ((h1.drewN).other (fun e => d1 e.symm) _).other (fun e => d1 e.symm) _, h2, h3⟩

/-- What a read leaves of the buffer. -/
theorem buf_read {ys : List Value} {v i k : Nat} (hl : ys.length = 4096) (hv : v + k ≤ 4096) (hvi : v ≤ i) (hy : ∀ t, t < v - 0 → ys[0 + t]? = some (.int .u8 (f (i - (v - 0) + t)))) :
    (splice ys v (bytesL (fun j => f (i + j)) k)).length = 4096 ∧ ∀ t, t < (v + k) - 0 → (splice ys v (bytesL (fun j => f (i + j)) k))[0 + t]? = some (.int .u8 (f (i + k - ((v + k) - 0) + t))) := by
  refine ⟨by rw [splice_len _ _ _ (by rw [bytesL_len]; omega)]; exact hl, fun t ht => ?_⟩
  by_cases h1 : t < v
  · rw [splice_before _ _ _ (by rw [bytesL_len]; omega) _ (by omega), hy t (by omega)]
    congr 4; omega
  · have e : 0 + t = v + (t - v) := by omega
    rw [e, splice_in _ _ _ (by rw [bytesL_len]; omega) _ (by rw [bytesL_len]; omega), bytesL_at _ _ _ (by omega)]
    congr 4; omega

set_option maxRecDepth 100000 in
set_option maxHeartbeats 1000000 in
/-- fill, nothing to slide, bytes to be had. -/
theorem fill0_some (h : St w BR BB BY ao N c bS oS f 0 v i .nilIface) (hv : v < 4096) (hi : i < N) :
    Calls Tryf.prog 33 #[.pointer (some ⟨BR, 0, none⟩)] w fun e w' => ∃ k, 0 < k ∧ k ≤ N - i ∧ k ≤ 4096 - v ∧ e = .returned (.tuple #[]) ∧ St w' BR BB BY ao N c bS oS f 0 (v + k) (i + k) .nilIface ∧ Touch [BR, BB, BY] w w' := by
  have HST := hideP (h)
  obtain ⟨⟨x5, x6, hd⟩, ⟨ys, hb, hbl, hby⟩, ⟨x2, hY⟩, hS, rv, v4, vi, iN, d1, d2, d3, ds⟩ := h
  have c0 : w.cell? ⟨BR, 0, none⟩ = some (.slice (some ⟨BB, 0, none⟩) 4096 4096) := hd.cell 0
  have c1 : w.cell? ⟨BR, 1, none⟩ = some (.iface 45 (.pointer (some ⟨BY, 0, none⟩))) := hd.cell 1
  have c2 : w.cell? ⟨BR, 2, none⟩ = some (.int .i64 0) := hd.cell 2
  have c3 : w.cell? ⟨BR, 3, none⟩ = some (.int .i64 v) := hd.cell 3
  have c4 : w.cell? ⟨BR, 4, none⟩ = some .nilIface := hd.cell 4
  have f3 := hd.free 3
  have f4 := hd.free 4
  have hvI : (v : Int) < 4096 := by omega
  have hv0 : (0 : Int) ≤ (v : Int) := by omega
  have hv4 : ¬ 4096 = v := by omega
  have hvle : (v : Int) ≤ 4096 := by omega
  have nR := Tryf.nilRead
  have mR := Tryf.methodRead
  go_enter Tryf.func33, Tryf.ntmps33
  go_wp2
  go_quiet (fail)
  go_wp2
  refine wp_loop_rounds 1 ?_; rw [rounds_succ]
  go_wp2
  have hW := St.drewN (d := nq) HST.out
  have TW : Touch [BR, BB, BY] w (w.drewN nq) := (Touch.refl _ w).drewN nq
  generalize w.drewN nq = W at hW TW ⊢
  clear c0 c1 c2 c3 c4 f3 f4 hd hb hby hY hS
  obtain ⟨⟨x5, x6, hd⟩, ⟨zs, hb, hbl, hby⟩, ⟨x2, hY⟩, hS, _, _, _, _, _, _, _, _⟩ := hW
  have c0 : W.cell? ⟨BR, 0, none⟩ = some (.slice (some ⟨BB, 0, none⟩) 4096 4096) := hd.cell 0
  have c1 : W.cell? ⟨BR, 1, none⟩ = some (.iface 45 (.pointer (some ⟨BY, 0, none⟩))) := hd.cell 1
  have c3 : W.cell? ⟨BR, 3, none⟩ = some (.int .i64 v) := hd.cell 3
  have hrd := read_some (w := W.drew) (m := 4096 - v) (cm := 4096 - v) (o := v) (by exact hY) (hS.touch (S := []) ((Touch.refl _ W).drew) (by simp)) hi (by exact hb) (by omega) (by omega) d3 (ds (by omega)).2.2
  have HRD := hideP (hrd)
  have HD := hideP (hd)
  have HZ := hideP (hby)
  clear hd hb hrd hS hY hby
  go_region_held3 (fun w' => w'.cell? ⟨BR, 0, none⟩ = some (.slice (some ⟨BB, 0, none⟩) 4096 4096) ∧ w'.cell? ⟨BR, 1, none⟩ = some (.iface 45 (.pointer (some ⟨BY, 0, none⟩))) ∧ w'.cell? ⟨BR, 3, none⟩ = some (.int .i64 v))
    (first | (refine ⟨HT.out.cell (by exact c0) ?_, HT.out.cell (by exact c1) ?_, HT.out.cell (by exact c3) ?_⟩ <;> (simp; omega)) | go_keep)
    ((go_at_call 55; refine HRD.out.mono ?_; rintro e w2 ⟨k, hk, rfl, hg2, hY2, hT2⟩; have HT := hideP (hT2); have HG := hideP (hg2); have HY := hideP (hY2); have HK := hideP (hk); clear hT2 hg2 hY2 hk))
  have hk0 : 0 < k := by rw [HK.out]; exact Nat.lt_min.2 ⟨by omega, by omega⟩
  have hk1 : k ≤ N - i := by rw [HK.out]; exact Nat.min_le_left _ _
  have hk2 : k ≤ 4096 - v := by rw [HK.out]; exact Nat.min_le_right _ _
  have hd2 := RowAt.touch (w := W.drew) HD.out HT.out (by simp; omega)
  have TW2 : Touch [BR, BB, BY] w w2 := (TW.drew).trans (HT.out.mono (by simp))
  have e3 : w2.cell? ⟨BR, 3, none⟩ = some (.int .i64 v) := hd2.cell 3
  have g3 := hd2.free 3
  have HD2 := hideP hd2
  have HTW := hideP TW2
  clear hd2 TW2 TW c0 c1 c3
  go_wp2
  refine bodyPost_ret (results_none rfl _ _ _) rfl ?_
  obtain ⟨z1, z2⟩ := buf_read (f := f) (k := k) hbl (by omega) (by omega) HZ.out
  have hT := Touch.setCell HTW.out (g := BR) (j := 3) (by simp) (.int .i64 ((v : Int) + (k : Int)))
  refine ⟨k, hk0, hk1, hk2, rfl, HST.out.make hT ⟨x5, x6, by simpa [bufCells] using RowAt.store HD2.out 3 (.int .i64 ((v : Int) + (k : Int)))⟩ ⟨_, RowAt.other HG.out (fun e => d1 e.symm) _, z1, z2⟩ ⟨_, RowAt.other HY.out (fun e => d2 e.symm) _⟩ (by omega) (by omega) (by omega) (by omega), hT⟩
end
end Go.Proofs.Qxb6614532aFmt
