import Derived.Test.Qxb6614532aFmtNext
import Derived.Deep.CutRange
import Derived.Deep.LoopGhost
import Derived.Lib.MinMax
namespace Go.Proofs.Qxb6614532aFmt
open Go.RowKit Go.Stop
set_option linter.unusedVariables false
section
variable {F : Interp} {B : Nat} {w w' : World} {R BR BB BY N c bS oS p q limit wn wk wc FB L C n : Nat} {ao fa : Option Addr} {f : Nat → Nat} {aE aU aT : Addr} {ys : List Value}

theorem grow_any (h : FieldRow w fa C FB ys) (hL : L ≤ C) (hC : C ≤ 9223372036854775807) (hn : 0 < n) (hbig : L + n ≤ 4194304) :
    Calls Tryf.prog 22 #[.slice fa L C, .int .i64 n] w fun e w' => GrowPost w w' L n FB ys e := by
  by_cases hr : L + n ≤ C
  · exact grow_room h hL hC hn hr
  · exact grow_new h hL hn hbig (by omega)

/-- The loop's relation: L bytes of the field lie at block G. -/
def NextRel (w wr : World) (B R BR BB BY : Nat) (ao : Option Addr) (N c bS oS : Nat) (f : Nat → Nat) (FB h0 L : Nat) (fv : Value) : Prop :=
  ∃ fa C G zs, fv = .slice fa L C ∧ L ≤ C ∧ C ≤ 9223372036854775807 ∧ FieldRow wr fa C G zs ∧ (∀ t, t < L → zs[t]? = some (.int .u8 (f (h0 + t)))) ∧ G ∉ [BR, BB, BY, R] ∧ (0 < N → bS ≠ G) ∧ B ≤ G ∧ (G = FB ∨ w.heap.size ≤ G) ∧
    (∃ r v i, St wr BR BB BY ao N c bS oS f r v i .nilIface ∧ i - (v - r) = h0 + L) ∧ (∃ x, RowAt wr R 52 [.pointer (some ⟨BR, 0, none⟩), x]) ∧ Touch [BR, BB, BY, R, FB] w wr ∧ h0 + L ≤ N

/-- The field put into the reader. -/
theorem NextRel.put {wr : World} {fa : Option Addr} (hn : R ∉ [BR, BB, BY]) (rS : 0 < N → bS ≠ R) (bs : ∀ k ∈ [R, BR, BB, BY, FB], B ≤ k) {C G : Nat} {zs : List Value} (hL : L ≤ C) (hC : C ≤ 9223372036854775807) (hf : FieldRow wr fa C G zs) (hg : G ∉ [BR, BB, BY, R]) (hgS : 0 < N → bS ≠ G) (hBG : B ≤ G)
    {r v i : Nat} (hs : St wr BR BB BY ao N c bS oS f r v i .nilIface) (hp : i - (v - r) = p) {x : Value} (hR : RowAt wr R 52 [.pointer (some ⟨BR, 0, none⟩), x]) :
    Rd (wr.setCell ⟨R, 1, none⟩ (.slice fa L C)) B R BR BB BY ao N c bS oS f p G := by
  have n1 : BR ≠ R := fun e => hn (by simp [e])
  have n2 : BB ≠ R := fun e => hn (by simp [e])
  have n3 : BY ≠ R := fun e => hn (by simp [e])
  have n4 : G ≠ R := fun e => hg (by simp [e])
  have hT : Touch [R] wr (wr.setCell ⟨R, 1, none⟩ (.slice fa L C)) := (Touch.refl _ wr).setCell (by simp) _
  obtain ⟨x5, x6, h1⟩ := hs.hd
  obtain ⟨us, h2, h3, h4⟩ := hs.buf
  obtain ⟨x2, h5⟩ := hs.rd
  refine ⟨⟨r, v, i, ⟨⟨x5, x6, h1.other n1 _⟩, ⟨us, h2.other n2 _, h3, h4⟩, ⟨x2, h5.other n3 _⟩, hs.src.touch hT (fun hp => by have := rS hp; simp; omega), hs.rv, hs.v4, hs.vi, hs.iN, hs.d1, hs.d2, hs.d3, hs.ds⟩, hp⟩,
    ⟨fa, L, C, zs, hR.store 1 _, hL, hC, ?_⟩, hg, hgS, hn, rS, fun k hk => ?_⟩
  · rcases hf with h | ⟨h5, h6, h7⟩
    · exact .inl h
    · exact .inr ⟨h5, h6.other n4 _, h7⟩
  · simp at hk
    rcases hk with rfl | rfl | rfl | rfl | rfl
    · exact bs _ (by simp)
    · exact bs _ (by simp)
    · exact bs _ (by simp)
    · exact bs _ (by simp)
    · exact hBG

/-- Nothing but new blocks: the reader's state stands. -/
theorem St.still {r v i : Nat} {er : Value} (h : St w BR BB BY ao N c bS oS f r v i er) (ht : Touch [] w w') : St w' BR BB BY ao N c bS oS f r v i er := by
  obtain ⟨x5, x6, h1⟩ := h.hd
  obtain ⟨us, h2, h3, h4⟩ := h.buf
  obtain ⟨x2, h5⟩ := h.rd
  exact ⟨⟨x5, x6, h1.touch ht (by simp)⟩, ⟨us, h2.touch ht (by simp), h3, h4⟩, ⟨x2, h5.touch ht (by simp)⟩, h.src.touch ht (fun _ => by simp), h.rv, h.v4, h.vi, h.iN, h.d1, h.d2, h.d3, h.ds⟩
theorem St.lts {r v i : Nat} {er : Value} (h : St w BR BB BY ao N c bS oS f r v i er) : BR < w.heap.size ∧ BB < w.heap.size ∧ BY < w.heap.size ∧ (0 < N → bS < w.heap.size) := by
  obtain ⟨x5, x6, h1⟩ := h.hd
  obtain ⟨us, h2, h3, h4⟩ := h.buf
  obtain ⟨x2, h5⟩ := h.rd
  refine ⟨h1.lt, h2.lt, h5.lt, fun hN => ?_⟩
  have := World.block_lt_of_cell? _ _ (h.src.cell 0 hN)
  simpa using this

set_option maxRecDepth 100000 in
set_option maxHeartbeats 2000000 in
theorem next_ok (env : Env F B w aE aU aT) (h : Rd w B R BR BB BY ao N c bS oS f q FB) (hBw : B ≤ w.heap.size) (hN : N ≤ 1048576) (hu : ∀ t, f t < 256) (hl : limit ≤ 9223372036854775807) (hw : Want (fun t => f (q + t)) (N - q) limit wn wk 0) :
    Calls Tryf.prog 14 #[.pointer (some ⟨R, 0, none⟩), .int .i64 limit] w fun en w' =>
      (wn ≤ N - (q + wk) ∧ NextPost w w' B R BR BB BY ao N c bS oS f FB aE aU aT 0 wn (q + wk + wn) (q + wk) en) ∨ (N - (q + wk) < wn ∧ NextPost w w' B R BR BB BY ao N c bS oS f FB aE aU aT 2 0 N (q + wk) en) := by
  have hB3 : ∀ k ∈ [BR, BB, BY], B ≤ k := fun k hk => h.bs k (by simp at hk ⊢; omega)
  have h0 : 0 ∉ [BR, BB, BY] := fun hx => by have := hB3 0 hx; have := env.lt; omega
  obtain ⟨r, v, i, hs, hq⟩ := h.st
  obtain ⟨fa, fl, C, ys, hrow, hfl, hC, hF⟩ := h.row
  have HL := hideP (length_any env hs hq (hrow.cell 0) h.rn h0 hB3 hBw hu hl hw)
  have H := hideP h
  have hwf := want_facts hw hl
  have HENV := hideP env
  have HU := hideP hu
  have HROW := hideP hrow
  have HF := hideP hF
  have HB3 := hideP hB3
  clear env h hs hq hrow hB3 h0 hw hu hF
  go_enter Tryf.func14, Tryf.ntmps14
  go_wp2_with fail
  refine HL.out.mono ?_
  rintro e w1 ⟨er, r1, v1, i1, rfl, herr, hs1, hp1, ht1⟩
  obtain rfl : er = .nilIface := by
    rcases herr with ⟨_, h⟩ | ⟨h, _⟩ | ⟨h, _⟩ | ⟨h, _⟩
    · exact h
    all_goals omega
  have hrow1 := HROW.out.touch ht1 H.out.rn
  have c1 : w1.cell? ⟨R, 1, none⟩ = some (.slice fa fl C) := hrow1.cell 1
  have hF1 : FieldRow w1 fa C FB ys := by
    rcases HF.out with h | ⟨h5, h6, h7⟩
    · exact .inl h
    · exact .inr ⟨h5, h6.touch ht1 (fun hx => H.out.fb (by simp at hx ⊢; omega)), h7⟩
  have hqN : q + wk ≤ N := by have := hwf.1; have := hs1.iN; omega
  have HROW1 := hideP hrow1
  have HF1 := hideP hF1
  have HS1 := hideP hs1
  have HP1 := hideP hp1
  have HT1 := hideP ht1
  have hCI : (0 : Int) ≤ (C : Int) := by omega
  clear herr hs1 hp1 ht1 HL hrow1
  go_upto_region 4 with fail
  go_cut [8] from 21 to 25 (fun s8 wx => s8 = .slice fa 0 C ∧ wx = w1)
  case first =>
    rcases hF1 with ⟨rfl, rfl, rfl⟩ | ⟨rfl, _, _⟩
    · go_wp2_with fail
      go_meet
      exact ⟨rfl, rfl⟩
    · go_wp2_with fail
      go_meet
      exact ⟨rfl, rfl⟩
  case rest =>
  obtain ⟨rfl, rfl⟩ := hcut
  clear hF1 c1
  go_wp2
  go_loopg [8] wn (fun gk fv wr => ∃ L : Nat, gk + L = wn ∧ NextRel w wr B R BR BB BY ao N c bS oS f FB (q + wk) L fv)
  case atStart =>
    exact ⟨0, by omega, fa, C, FB, ys, rfl, Nat.zero_le _, hC, HF1.out, fun t ht => by omega, H.out.fb, H.out.fS, H.out.bs FB (by simp), .inl rfl, ⟨r1, v1, i1, HS1.out, by have := HP1.out; omega⟩, ⟨_, HROW1.out⟩, HT1.out.mono (by simp), by omega⟩
  case round =>
    obtain ⟨L, hgk, fx, Cx, G, zs, rfl, hLC, hCx, hFx, hbytes, hG, hGS, hBG, hGF, ⟨rr, vv, ii, hs, hp⟩, ⟨x, hrow⟩, ht, hLN⟩ := hrel
    have HS := hideP hs
    have HP := hideP hp
    have HFX := hideP hFx
    have HBY := hideP hbytes
    have HROWX := hideP hrow
    have HT := hideP ht
    have HGN := hideP hG
    clear HS1 HP1 HROW1 HF1 HT1
    by_cases hLn : L < wn
    · have hLnI : (L : Int) < (wn : Int) := by omega
      obtain ⟨mo, hmo, hmo0, hmoN, hmoL⟩ : ∃ mo : Nat, min ((wn : Int) - (L : Int)) (max (L : Int) 65536) = (mo : Int) ∧ 0 < mo ∧ L + mo ≤ wn ∧ L + mo ≤ 4194304 := by
        refine ⟨(min ((wn : Int) - (L : Int)) (max (L : Int) 65536)).toNat, ?_, ?_, ?_, ?_⟩ <;> omega
      clear hs hp hFx hbytes ht hG
      have c0 : wr.cell? ⟨R, 0, none⟩ = some (.pointer (some ⟨BR, 0, none⟩)) := hrow.cell 0
      clear hrow
      go_wp2_with fail
      refine (grow_any HFX.out hLC hCx hmo0 hmoL).mono ?_
      rintro e w2 ⟨G2, C2, z2, rfl, hr2, hz2, hLn2, hC2, hzt, ht2, hG2⟩
      obtain ⟨l1, l2, l3, l4⟩ := HS.out.lts
      have l5 := HROWX.out.lt
      have hwr := HT.out.size
      have hG2n : G2 ∉ [BR, BB, BY, R] := by
        rcases hG2 with rfl | h
        · exact HGN.out
        · simp; omega
      have hG2S : 0 < N → bS ≠ G2 := fun hp => by
        rcases hG2 with rfl | h
        · exact hGS hp
        · have := l4 hp; omega
      have hG2F : G2 = FB ∨ w.heap.size ≤ G2 := by
        rcases hG2 with rfl | h
        · exact hGF
        · right; omega
      have hBG2 : B ≤ G2 := by
        rcases hG2 with rfl | h
        · exact hBG
        · omega
      have hs2 := HS.out.still ht2
      have hrow2 := HROWX.out.touch ht2 (by simp)
      have t2 : Touch [BR, BB, BY, R, FB] w w2 := HT.out.trans (ht2.mono (by simp))
      have env2 := HENV.out.below (t2.below hBw (fun k hk => H.out.bs k (by simp at hk ⊢; omega)))
      have c0 : w2.cell? ⟨R, 0, none⟩ = some (.pointer (some ⟨BR, 0, none⟩)) := hrow2.cell 0
      have hby2 : ∀ t, t < L → z2[t]? = some (.int .u8 (f (q + wk + t))) := fun t ht => (hzt t ht).trans (HBY.out t ht)
      have HFULL := hideP (full_any (w := w2.drew) (g := G2) (o := L) (m := mo) (cm := C2 - L) (ys := z2) (aE := aE) (aU := aU) (by exact St.drewN (d := 1) hs2) HP.out hmo0 (by omega) (by exact hr2) (by omega) (fun hx => hG2n (by simp at hx ⊢; omega)) hG2S HU.out (by omega) (by omega) (by exact env2.gE) (by exact env2.gU) (fun k hk => by
        have hb := env2.lt.1
        have : B ≤ k := by
          simp at hk
          rcases hk with rfl | rfl | rfl | rfl
          · exact HB3.out _ (by simp)
          · exact HB3.out _ (by simp)
          · exact HB3.out _ (by simp)
          · exact hBG2
        omega))
      have HENV2 := hideP env2
      have HS2 := hideP hs2
      have HROW2 := hideP hrow2
      have HR2 := hideP hr2
      have HT2 := hideP t2
      have HBY2 := hideP hby2
      have HG2N := hideP hG2n
      have HG2S := hideP hG2S
      have hLI0 : (0 : Int) ≤ (L : Int) := by omega
      have hmI : (L : Int) + (mo : Int) ≤ (C2 : Int) := by omega
      have hm0I : (0 : Int) ≤ (mo : Int) := by omega
      have hC2L : ¬ C2 = L := by omega
      have hsm : (L : Int) + (mo : Int) ≤ 4194304 := by omega
      have hwm : IntKind.i64.wrap ((L : Int) + (mo : Int)) = (L : Int) + (mo : Int) := by rw [IntKind.wrap_i64]; omega
      have htm : ((L : Int) + (mo : Int)).toNat = L + mo := by omega
      have hlm : (L : Int) ≤ (L : Int) + (mo : Int) := by omega
      clear hr2 hzt ht2 hG2 env2 hs2 hrow2 t2 hby2 hG2n hG2S HFX HBY HROWX HT HGN HS
      go_wp2
      have hRn : R ∉ [BR, BB, BY, G2] := fun hx => by
        have a := H.out.rn
        have b := HG2N.out
        simp at hx a b
        omega
      have HRN := hideP hRn
      clear hRn
      go_region_held3 (fun w' => w'.cell? ⟨R, 0, none⟩ = some (.pointer (some ⟨BR, 0, none⟩))) (first | (exact HT3.out.cell (by exact c0) HRN.out) | go_keep)
        ((go_at_call 23; refine HFULL.out.mono ?_; rintro e w3 ⟨k, r3, v3, i3, er3, rfl, hs3, hp3, hr3, ht3, hc3⟩; have HS3 := hideP hs3; have HP3 := hideP hp3; have HR3 := hideP hr3; have HT3 := hideP ht3; have HC3 := hideP hc3; clear hs3 hp3 hr3 ht3 hc3))
      have t3 : Touch [BR, BB, BY, G2] w2 w3 := ⟨HT3.out.os, HT3.out.tape, HT3.out.output, HT3.out.size, HT3.out.block⟩
      have hrow3 := HROW2.out.touch t3 HRN.out
      have t23 : Touch [BR, BB, BY, R, FB] w w3 := ⟨t3.os.trans HT2.out.os, t3.tape.trans HT2.out.tape, t3.output.trans HT2.out.output, Nat.le_trans HT2.out.size t3.size, fun b hb hn => (t3.block b (Nat.lt_of_lt_of_le hb HT2.out.size) (fun hx => by
        simp at hx hn
        rcases hG2F with rfl | h
        · omega
        · omega)).trans (HT2.out.block b hb hn)⟩
      have hkmo : k ≤ mo := by rcases HC3.out with ⟨h, _⟩ | ⟨h, _⟩ <;> omega
      have hz3l : (splice z2 L (bytesL (fun j => f (q + wk + L + j)) k)).length = C2 := by rw [splice_len _ _ _ (by rw [bytesL_len]; omega)]; exact hz2
      have hby3 : ∀ t, t < L + k → (splice z2 L (bytesL (fun j => f (q + wk + L + j)) k))[t]? = some (.int .u8 (f (q + wk + t))) := fun t ht => by
        by_cases a : t < L
        · rw [splice_before _ _ _ (by rw [bytesL_len]; omega) _ a]; exact HBY2.out t a
        · obtain ⟨u, rfl⟩ : ∃ u, t = L + u := ⟨t - L, by omega⟩
          rw [splice_in _ _ _ (by rw [bytesL_len]; omega) _ (by rw [bytesL_len]; omega), bytesL_at _ _ _ (by omega)]
          congr 4; omega
      have hkI0 : (0 : Int) ≤ (k : Int) := by omega
      have hkI : (L : Int) + (k : Int) ≤ (C2 : Int) := by omega
      have hkI4 : (L : Int) + (k : Int) ≤ 4194304 := by omega
      have env3 := HENV.out.below (t23.below hBw (fun k hk => H.out.bs k (by simp at hk ⊢; omega)))
      have gE := env3.gE
      have gU := env3.gU
      obtain ⟨ci, hi, hcmp⟩ := Option.map_eq_some_iff.1 Tryf.isComp
      obtain ⟨cj, hj, hjs⟩ := Option.map_eq_some_iff.1 Tryf.isSize
      obtain ⟨cE, tE, bE⟩ := env3.bE
      obtain ⟨cU, tU, bU⟩ := env3.bU
      have sE := run_eql_iface_ptr_same (P := Tryf.prog) w3 aE Tryf.underlying30 Tryf.underlying90 hi hcmp hj
      have oUE := run_eql_iface_ptr_other (P := Tryf.prog) w3 Tryf.underlying30 Tryf.underlying90 hi hcmp hj (by omega) env3.nEU.symm bU bE
      have oN := run_eql_iface_nil_left (P := Tryf.prog) w3 90 (.pointer (some aE)) Tryf.underlying30
      have x1 : w3.cell? ⟨R, 1, none⟩ = some x := hrow3.cell 1
      have f1 := hrow3.free 1
      have HPUT := hideP (NextRel.put (p := q + wk + L + k) (L := L + k) H.out.rn H.out.rS H.out.bs (by omega) hC2 (.inr ⟨rfl, HR3.out, hz3l⟩) HG2N.out HG2S.out hBG2 HS3.out HP3.out hrow3)
      have hwk : IntKind.i64.wrap ((L : Int) + (k : Int)) = (L : Int) + (k : Int) := by rw [IntKind.wrap_i64]; omega
      have htk : ((L : Int) + (k : Int)).toNat = L + k := by omega
      have hlk : (0 : Int) ≤ (L : Int) + (k : Int) := by omega
      have hpN : q + wk + L + k ≤ N := by have := HP3.out; have := HS3.out.iN; omega
      have HBY3 := hideP hby3
      have HZ3 := hideP hz3l
      have HROW3 := hideP hrow3
      have HT23 := hideP t23
      have HENV3 := hideP env3
      clear hby3 hz3l hrow3 t23 env3 t3 bE bU HT3 HR2 HBY2 HFULL HENV2 HS2 HROW2 HT2 c0
      rcases HC3.out with ⟨rfl, rfl⟩ | ⟨hkl, hkN, ⟨rfl, rfl⟩ | ⟨hk0, rfl⟩⟩
      · clear HC3 HPUT
        go_wp2
        go_roundg (gk - k)
        case measure => omega
        case rel => exact ⟨L + k, by omega, some ⟨G2, 0, none⟩, C2, G2, _, rfl, by omega, hC2, .inr ⟨rfl, HR3.out, HZ3.out⟩, HBY3.out, HG2N.out, HG2S.out, hBG2, hG2F, ⟨r3, v3, i3, HS3.out, by have := HP3.out; omega⟩, ⟨_, HROW3.out⟩, HT23.out, by omega⟩
      · clear HC3
        go_wp2
        go_ret2
        exact .inr ⟨by omega, none, 0, _, G2, rfl, .inr (.inr (.inl ⟨rfl, rfl⟩)), by have h := HPUT.out; rw [hkN] at h; exact h, fun _ => ⟨rfl, rfl, rfl⟩, fun h => by omega, HT23.out.setCell (by simp) _, hG2F⟩
      · clear HC3
        go_wp2
        go_ret2
        exact .inr ⟨by omega, none, 0, _, G2, rfl, .inr (.inr (.inl ⟨rfl, rfl⟩)), by have h := HPUT.out; rw [hkN] at h; exact h, fun _ => ⟨rfl, rfl, rfl⟩, fun h => by omega, HT23.out.setCell (by simp) _, hG2F⟩
    · obtain rfl : L = wn := by omega
      have hLnI : ¬ (L : Int) < (L : Int) := by omega
      have c1 : wr.cell? ⟨R, 1, none⟩ = some x := hrow.cell 1
      have f1 := hrow.free 1
      have HRD := hideP (NextRel.put (L := L) H.out.rn H.out.rS H.out.bs hLC hCx hFx hG hGS hBG hs hp hrow)
      have hGR : G ≠ R := fun e => hG (by simp [e])
      clear hs hp hFx hbytes ht hG hrow
      go_wp2
      go_ret2
      refine .inl ⟨by omega, fx, Cx, _, G, rfl, .inl ⟨rfl, rfl⟩, HRD.out, fun h => absurd rfl h, fun _ => ⟨fun hL0 => ?_, hLC, fun t ht => ?_⟩, HT.out.setCell (by simp) _, hGF⟩
      · rcases HFX.out with ⟨_, h, _⟩ | ⟨h, _⟩
        · omega
        · exact h
      · rcases HFX.out with ⟨_, h, _⟩ | ⟨_, h, _⟩
        · omega
        · rw [(h.other (j := 1) hGR (.slice fx L Cx)).cell]; exact HBY.out t ht
end
end Go.Proofs.Qxb6614532aFmt
