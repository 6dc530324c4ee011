import Derived.Test.Qxb6614532aFmtNW
namespace Go.Proofs.Qxb6614532aFmt
open Go.RowKit Go.Stop
set_option linter.unusedVariables false

/-- How the head at hand and Next's class hang together. -/
def HeadCase (n limit V kk st cls rn k tk : Nat) : Prop :=
  (st ≠ 0 ∧ cls = st) ∨
  (st = 0 ∧ 0 < kk ∧ kk ≤ n ∧ limit < V ∧ V ≤ 18446744073709551615 ∧ cls = 3) ∨
  (st = 0 ∧ 0 < kk ∧ kk ≤ n ∧ V ≤ limit ∧ n - kk < V ∧ cls = 2) ∨
  (st = 0 ∧ 0 < kk ∧ kk ≤ n ∧ V ≤ limit ∧ V ≤ n - kk ∧ cls = 0 ∧ rn = V ∧ k = kk ∧ tk = kk + V)

/-- What zzHead says of n bytes. -/
def HeadSays (f : Nat → Nat) (n b o V kk st : Nat) : Prop :=
  ∀ (wx : World) (ad : Option Addr) (cx : Nat), Bytes wx ad n b o f → Calls Tryf.prog 13 #[.slice ad n cx] wx fun e w' => e = .returned (.tuple #[.int .u64 V, .int .i64 kk, .int .i64 st]) ∧ wx = w'

theorem head_nw (f : Nat → Nat) (n limit b o : Nat) : ∃ V kk st cls rn k tk, NW f n limit cls rn k tk ∧ HeadCase n limit V kk st cls rn k tk ∧ HeadSays f n b o V kk st := by
  obtain ⟨wn, wk, wc, hW⟩ := want_some f n limit
  have hW0 := hW
  rcases hW with ⟨e, h1, h2, h3, h4, h5, hc⟩ | ⟨h1, h2, h3, h4, rfl, rfl, rfl⟩ | ⟨h1, rfl, rfl, h2⟩
  · have hV := valTo_u64 f e h2 h5 h3
    have hh : HeadSays f n b o (valTo f (e + 1)) (e + 1) 0 := fun wx ad cx hb => head_end hb h1 h2 h3 h4 h5
    rcases hc with ⟨h6, rfl, rfl, rfl⟩ | ⟨h6, rfl, rfl, rfl⟩
    · by_cases h7 : valTo f (e + 1) ≤ n - (e + 1)
      · exact ⟨valTo f (e + 1), e + 1, 0, 0, valTo f (e + 1), e + 1, e + 1 + valTo f (e + 1), ⟨_, _, _, hW0, .inr (.inl ⟨rfl, h7, rfl, rfl, rfl, rfl⟩)⟩, .inr (.inr (.inr ⟨rfl, by omega, by omega, h6, h7, rfl, rfl, rfl, rfl⟩)), hh⟩
      · exact ⟨valTo f (e + 1), e + 1, 0, 2, 0, e + 1, n, ⟨_, _, _, hW0, .inr (.inr ⟨rfl, by omega, rfl, rfl, rfl, rfl⟩)⟩, .inr (.inr (.inl ⟨rfl, by omega, by omega, h6, by omega, rfl⟩)), hh⟩
    · exact ⟨valTo f (e + 1), e + 1, 0, 3, 0, 0, 0, ⟨_, _, _, hW0, .inl ⟨by omega, rfl, rfl, rfl, rfl⟩⟩, .inr (.inl ⟨rfl, by omega, by omega, h6, by omega, rfl⟩), hh⟩
  · exact ⟨0, 0, 3, 3, 0, 0, 0, ⟨_, _, _, hW0, .inl ⟨by omega, rfl, rfl, rfl, rfl⟩⟩, .inl ⟨by omega, rfl⟩, fun wx ad cx hb => head_bad hb h1 h2 h3 h4⟩
  · have hs : noneSt n = (wc : Int) := by
      rcases h2 with ⟨h, rfl⟩ | ⟨h, h', rfl⟩ | ⟨h, rfl⟩
      · simp [noneSt, h]
      · have : ¬ n = 0 := by omega
        simp [noneSt, this, h']
      · have h1 : ¬ n = 0 := by omega
        have h2 : ¬ n < 10 := by omega
        simp [noneSt, h1, h2]
    exact ⟨0, 0, wc, wc, 0, 0, 0, ⟨_, _, _, hW0, .inl ⟨by omega, rfl, rfl, rfl, rfl⟩⟩, .inl ⟨by omega, rfl⟩, fun wx ad cx hb => by rw [← hs]; exact head_none hb h1⟩
end Go.Proofs.Qxb6614532aFmt
