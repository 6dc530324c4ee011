import Derived.Test.Qxb6614532aFmtSkip
import Derived.Test.Qxb6614532aFmtNW
namespace Go.Proofs.Qxb6614532aFmt
open Go.RowKit Go.Stop
set_option linter.unusedVariables false
section
variable {F : Interp} {B : Nat} {w w' : World} {R BR BB BY N c bS oS r v i q s n limit cls rn k tk wn wk wc FB : Nat} {ao : Option Addr} {f : Nat → Nat} {aE aU aT : Addr} {er : Value}

/-- What Skip leaves. -/
def SkipPost (w w' : World) (B R BR BB BY : Nat) (ao : Option Addr) (N c bS oS : Nat) (f : Nat → Nat) (FB : Nat) (aE aU aT : Addr) (cls pos : Nat) (e : Ending) : Prop :=
  ∃ er, e = .returned er ∧ ErrIs w' aE aU aT cls er ∧ Rd w' B R BR BB BY ao N c bS oS f pos FB ∧ Touch [BR, BB, BY] w w'

theorem discard_any (h : St w BR BB BY ao N c bS oS f r v i .nilIface) (hq : i - (v - r) = q) (hn : n ≤ 9223372036854775807) (gE : w.cell? ⟨0, 0, none⟩ = some (.iface 90 (.pointer (some aE)))) (hz : 0 ∉ [BR, BB, BY]) :
    Calls Tryf.prog 24 #[.pointer (some ⟨BR, 0, none⟩), .int .i64 n] w fun e w' => DiscPost w w' BR BB BY ao N c bS oS f q n aE e := by
  by_cases h0 : n = 0
  · subst h0
    refine discard_zero.mono ?_
    rintro e w' ⟨rfl, rfl⟩
    exact ⟨0, _, r, v, i, rfl, .inl ⟨rfl, rfl⟩, h, hq, Touch.refl _ _⟩
  · exact discard_pos h hq (by omega) hn gE hz

set_option maxRecDepth 100000 in
set_option maxHeartbeats 1000000 in
theorem skip_err (env : Env F B w aE aU aT) (h : Rd w B R BR BB BY ao N c bS oS f q FB) (hBw : B ≤ w.heap.size) (hu : ∀ t, f t < 256) (hl : limit ≤ 9223372036854775807) (hw : Want (fun t => f (q + t)) (N - q) limit wn wk wc) (hc : wc ≠ 0) :
    Calls Tryf.prog 16 #[.pointer (some ⟨R, 0, none⟩), .int .i64 limit] w fun en w' => SkipPost w w' B R BR BB BY ao N c bS oS f FB aE aU aT wc q en := by
  have hB3 : ∀ k ∈ [BR, BB, BY], B ≤ k := fun k hk => h.bs k (by simp at hk ⊢; omega)
  have h0 : 0 ∉ [BR, BB, BY] := fun hx => by have := hB3 0 hx; have := env.lt; omega
  obtain ⟨r, v, i, hs, hq⟩ := h.st
  obtain ⟨fa, fl, C, ys, hrow, _⟩ := h.row
  have HL := hideP (length_any env hs hq (hrow.cell 0) h.rn h0 hB3 hBw hu hl hw)
  have H := hideP h
  have hwk : wk = 0 ∧ wn = 0 := by
    rcases hw with ⟨e, h1, h2, h3, h4, h5, ⟨h6, rfl, rfl, rfl⟩ | ⟨h6, rfl, rfl, rfl⟩⟩ | ⟨h1, h2, h3, h4, rfl, rfl, rfl⟩ | ⟨h1, rfl, rfl, h2⟩
    · exact absurd rfl hc
    all_goals exact ⟨rfl, rfl⟩
  obtain ⟨rfl, rfl⟩ := hwk
  clear env h hs hq hrow hB3 h0 hw hu
  go_enter Tryf.func16, Tryf.ntmps16
  go_wp2_with fail
  refine HL.out.mono ?_
  rintro e w1 ⟨er, r1, v1, i1, rfl, herr, hs1, hp1, ht1⟩
  have HE := hideP herr
  have HR1 := hideP (H.out.moved ht1 hs1 hp1)
  have HT1 := hideP ht1
  clear hs1 hp1 ht1 HL H
  rcases herr with ⟨h, _⟩ | ⟨rfl, rfl⟩ | ⟨rfl, rfl⟩ | ⟨rfl, pb, rfl, _⟩
  · exact absurd h hc
  all_goals
    go_wp2
    go_ret
    exact ⟨_, rfl, HE.out, HR1.out, HT1.out⟩

set_option maxRecDepth 100000 in
set_option maxHeartbeats 1000000 in
theorem skip_ok (env : Env F B w aE aU aT) (h : Rd w B R BR BB BY ao N c bS oS f q FB) (hBw : B ≤ w.heap.size) (hu : ∀ t, f t < 256) (hl : limit ≤ 9223372036854775807) (hw : Want (fun t => f (q + t)) (N - q) limit wn wk 0) :
    Calls Tryf.prog 16 #[.pointer (some ⟨R, 0, none⟩), .int .i64 limit] w fun en w' =>
      (wn ≤ N - (q + wk) ∧ SkipPost w w' B R BR BB BY ao N c bS oS f FB aE aU aT 0 (q + wk + wn) en) ∨ (N - (q + wk) < wn ∧ SkipPost w w' B R BR BB BY ao N c bS oS f FB aE aU aT 2 N en) := by
  have hB3 : ∀ k ∈ [BR, BB, BY], B ≤ k := fun k hk => h.bs k (by simp at hk ⊢; omega)
  have h0 : 0 ∉ [BR, BB, BY] := fun hx => by have := hB3 0 hx; have := env.lt; omega
  obtain ⟨r, v, i, hs, hq⟩ := h.st
  obtain ⟨fa, fl, C, ys, hrow, _⟩ := h.row
  have HL := hideP (length_any env hs hq (hrow.cell 0) h.rn h0 hB3 hBw hu hl hw)
  have H := hideP h
  have hwf := want_facts hw hl
  have HENV := hideP env
  have HROW := hideP hrow
  have HB3 := hideP hB3
  have HZ := hideP h0
  clear env h hs hq hrow hB3 h0 hw hu
  go_enter Tryf.func16, Tryf.ntmps16
  go_wp2_with fail
  refine HL.out.mono ?_
  rintro e w1 ⟨er, r1, v1, i1, rfl, herr, hs1, hp1, ht1⟩
  obtain rfl : er = .nilIface := by
    rcases herr with ⟨_, h⟩ | ⟨h, _⟩ | ⟨h, _⟩ | ⟨h, _⟩
    · exact h
    all_goals omega
  have hrow1 := HROW.out.touch ht1 H.out.rn
  have c0 : w1.cell? ⟨R, 0, none⟩ = some (.pointer (some ⟨BR, 0, none⟩)) := hrow1.cell 0
  have HD := hideP (discard_any (n := wn) hs1 hp1 (by omega) (HENV.out.below (ht1.below hBw HB3.out)).gE HZ.out)
  have HT1 := hideP ht1
  have hqN : q + wk ≤ N := by have := hs1.iN; omega
  clear herr hs1 hp1 ht1 HL hrow1
  go_wp2_with fail
  refine HD.out.mono ?_
  rintro e w2 ⟨kk, er2, r2, v2, i2, rfl, hcase, hs2, hp2, ht2⟩
  have HT2 := hideP (Touch.trans HT1.out ht2)
  have HR2 := hideP (H.out.moved HT2.out hs2 hp2)
  have hk : q + wk + kk ≤ N := by have := hs2.iN; omega
  have env2 := HENV.out.below (HT2.out.below hBw HB3.out)
  have gE := env2.gE
  have gU := env2.gU
  obtain ⟨ci, hi, hcmp⟩ := Option.map_eq_some_iff.1 Tryf.isComp
  obtain ⟨cj, hj, hjs⟩ := Option.map_eq_some_iff.1 Tryf.isSize
  have sE := run_eql_iface_ptr_same (P := Tryf.prog) w2 aE Tryf.underlying30 Tryf.underlying90 hi hcmp hj
  clear env2 hs2 hp2 ht2 HD c0 hi hcmp hj hjs
  rcases hcase with ⟨rfl, rfl⟩ | ⟨hlt, hqk, rfl⟩
  · have hltI : ¬ (kk : Int) < (kk : Int) := by omega
    clear sE
    go_wp2
    go_ret
    exact .inl ⟨by omega, _, rfl, .inl ⟨rfl, rfl⟩, HR2.out, HT2.out⟩
  · have hltI : (kk : Int) < (wn : Int) := by omega
    have HQ := hideP hqk
    clear hqk
    go_wp2
    go_ret
    exact .inr ⟨by have := HQ.out; omega, _, rfl, .inr (.inr (.inl ⟨rfl, rfl⟩)), by have h := HR2.out; rw [HQ.out] at h; exact h, HT2.out⟩

/-- Skip, at every state. -/
theorem skip_any (env : Env F B w aE aU aT) (h : Rd w B R BR BB BY ao N c bS oS f q FB) (hBw : B ≤ w.heap.size) (hqN : q ≤ N) (hu : ∀ t, f t < 256) (hl : limit ≤ 9223372036854775807) (hw : NW (fun t => f (q + t)) (N - q) limit cls rn k tk) :
    Calls Tryf.prog 16 #[.pointer (some ⟨R, 0, none⟩), .int .i64 limit] w fun en w' => SkipPost w w' B R BR BB BY ao N c bS oS f FB aE aU aT cls (q + tk) en := by
  obtain ⟨wn, wk, wc, hw, hc⟩ := hw
  have hf := want_facts hw hl
  rcases hc with ⟨h1, rfl, rfl, rfl, rfl⟩ | ⟨rfl, h2, rfl, rfl, rfl, rfl⟩ | ⟨rfl, h2, rfl, rfl, rfl, rfl⟩
  · exact skip_err env h hBw hu hl hw h1
  · refine (skip_ok env h hBw hu hl hw).mono fun en w' hp => ?_
    rcases hp with ⟨_, hp⟩ | ⟨h3, _⟩
    · rw [Nat.add_assoc] at hp; exact hp
    · omega
  · refine (skip_ok env h hBw hu hl hw).mono fun en w' hp => ?_
    rcases hp with ⟨h3, _⟩ | ⟨_, hp⟩
    · omega
    · rw [show q + (N - q) = N by omega]; exact hp
end
end Go.Proofs.Qxb6614532aFmt
