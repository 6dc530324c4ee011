import Derived.Test.Qxb6614532aFmtFull2
import Derived.Test.Qxb6614532aFmtGrow
import Derived.Test.Qxb6614532aFmtLen
namespace Go.Proofs.Qxb6614532aFmt
open Go.RowKit Go.Stop
set_option linter.unusedVariables false

/-- A frame.Reader at block R: its bufio.Reader at position p; its field's row at block FB, if it has one. -/
structure Rd (w : World) (B R BR BB BY : Nat) (ao : Option Addr) (N c bS oS : Nat) (f : Nat → Nat) (p FB : Nat) : Prop where
  st : ∃ r v i, St w BR BB BY ao N c bS oS f r v i .nilIface ∧ i - (v - r) = p
  row : ∃ fa fl C ys, RowAt w R 52 [.pointer (some ⟨BR, 0, none⟩), .slice fa fl C] ∧ fl ≤ C ∧ C ≤ 9223372036854775807 ∧ FieldRow w fa C FB ys
  fb : FB ∉ [BR, BB, BY, R]
  fS : 0 < N → bS ≠ FB
  rn : R ∉ [BR, BB, BY]
  rS : 0 < N → bS ≠ R
  bs : ∀ k ∈ [R, BR, BB, BY, FB], B ≤ k

/-- What Next leaves. -/
def NextPost (w w' : World) (B R BR BB BY : Nat) (ao : Option Addr) (N c bS oS : Nat) (f : Nat → Nat) (FB : Nat) (aE aU aT : Addr) (cls rn pos hd : Nat) (e : Ending) : Prop :=
  ∃ ra rc er FB', e = .returned (.tuple #[.slice ra rn rc, er]) ∧ ErrIs w' aE aU aT cls er ∧ Rd w' B R BR BB BY ao N c bS oS f pos FB' ∧ (cls ≠ 0 → ra = none ∧ rn = 0 ∧ rc = 0) ∧
    (cls = 0 → (0 < rn → ra = some ⟨FB', 0, none⟩) ∧ rn ≤ rc ∧ ∀ t, t < rn → w'.cell? ⟨FB', t, none⟩ = some (.int .u8 (f (hd + t)))) ∧ Touch [BR, BB, BY, R, FB] w w' ∧ (FB' = FB ∨ w.heap.size ≤ FB')

section
variable {F : Interp} {B : Nat} {w w' : World} {R BR BB BY N c bS oS p q limit wn wk wc FB : Nat} {ao : Option Addr} {f : Nat → Nat} {aE aU aT : Addr}

/-- The bufio part moved: the rest stands. -/
theorem Rd.moved (h : Rd w B R BR BB BY ao N c bS oS f p FB) (ht : Touch [BR, BB, BY] w w') {r v i : Nat} (hs : St w' BR BB BY ao N c bS oS f r v i .nilIface) (hq : i - (v - r) = q) : Rd w' B R BR BB BY ao N c bS oS f q FB := by
  obtain ⟨fa, fl, C, ys, h1, h2, h3, h4⟩ := h.row
  refine ⟨⟨r, v, i, hs, hq⟩, ⟨fa, fl, C, ys, h1.touch ht h.rn, h2, h3, ?_⟩, h.fb, h.fS, h.rn, h.rS, h.bs⟩
  rcases h4 with h | ⟨h5, h6, h7⟩
  · exact .inl h
  · exact .inr ⟨h5, h6.touch ht (fun hx => h.fb (by simp at hx ⊢; omega)), h7⟩

set_option maxRecDepth 100000 in
set_option maxHeartbeats 1000000 in
theorem next_err (env : Env F B w aE aU aT) (h : Rd w B R BR BB BY ao N c bS oS f q FB) (hBw : B ≤ w.heap.size) (hu : ∀ t, f t < 256) (hl : limit ≤ 9223372036854775807) (hw : Want (fun t => f (q + t)) (N - q) limit wn wk wc) (hc : wc ≠ 0) (hd : Nat) :
    Calls Tryf.prog 14 #[.pointer (some ⟨R, 0, none⟩), .int .i64 limit] w fun en w' => NextPost w w' B R BR BB BY ao N c bS oS f FB aE aU aT wc 0 q hd en := by
  have hB3 : ∀ k ∈ [BR, BB, BY], B ≤ k := fun k hk => h.bs k (by simp at hk ⊢; omega)
  have h0 : 0 ∉ [BR, BB, BY] := fun hx => by have := hB3 0 hx; have := env.lt; omega
  obtain ⟨r, v, i, hs, hq⟩ := h.st
  obtain ⟨fa, fl, C, ys, hrow, _⟩ := h.row
  have HL := hideP (length_any env hs hq (hrow.cell 0) h.rn h0 hB3 hBw hu hl hw)
  have H := hideP h
  have hwk : wk = 0 ∧ wn = 0 := by
    rcases hw with ⟨e, h1, h2, h3, h4, h5, ⟨h6, rfl, rfl, rfl⟩ | ⟨h6, rfl, rfl, rfl⟩⟩ | ⟨h1, h2, h3, h4, rfl, rfl, rfl⟩ | ⟨h1, rfl, rfl, h2⟩
    · exact absurd rfl hc
    all_goals exact ⟨rfl, rfl⟩
  obtain ⟨rfl, rfl⟩ := hwk
  clear env h hs hq hrow hB3 h0 hw hu
  go_enter Tryf.func14, Tryf.ntmps14
  go_wp2_with fail
  refine HL.out.mono ?_
  rintro e w1 ⟨er, r1, v1, i1, rfl, herr, hs1, hp1, ht1⟩
  have HE := hideP herr
  have HR1 := hideP (H.out.moved ht1 hs1 hp1)
  have HT1 := hideP ht1
  clear hs1 hp1 ht1 HL H
  rcases herr with ⟨h, _⟩ | ⟨rfl, rfl⟩ | ⟨rfl, rfl⟩ | ⟨rfl, pb, rfl, _⟩
  · exact absurd h hc
  all_goals
    go_wp2
    go_ret2
    exact ⟨none, 0, _, FB, rfl, HE.out, HR1.out, fun _ => ⟨rfl, rfl, rfl⟩, fun hx => absurd hx hc, HT1.out.mono (by simp), .inl rfl⟩
end
end Go.Proofs.Qxb6614532aFmt
