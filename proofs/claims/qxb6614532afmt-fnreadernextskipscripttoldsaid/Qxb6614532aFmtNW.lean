import Derived.Test.Qxb6614532aFmtNext2
namespace Go.Proofs.Qxb6614532aFmt
open Go.RowKit Go.Stop
set_option linter.unusedVariables false

/-- What Next comes to over n bytes, at a limit: its class, the field's length, where it begins, what is taken. -/
def NW (f : Nat → Nat) (n limit cls rn k tk : Nat) : Prop :=
  ∃ wn wk wc, Want f n limit wn wk wc ∧ ((wc ≠ 0 ∧ cls = wc ∧ rn = 0 ∧ k = 0 ∧ tk = 0) ∨ (wc = 0 ∧ wn ≤ n - wk ∧ cls = 0 ∧ rn = wn ∧ k = wk ∧ tk = wk + wn) ∨ (wc = 0 ∧ n - wk < wn ∧ cls = 2 ∧ rn = 0 ∧ k = wk ∧ tk = n))

theorem nw_some (f : Nat → Nat) (n limit : Nat) : ∃ cls rn k tk, NW f n limit cls rn k tk := by
  obtain ⟨wn, wk, wc, h⟩ := want_some f n limit
  by_cases h0 : wc = 0
  · by_cases h1 : wn ≤ n - wk
    · exact ⟨0, wn, wk, wk + wn, wn, wk, wc, h, .inr (.inl ⟨h0, h1, rfl, rfl, rfl, rfl⟩)⟩
    · exact ⟨2, 0, wk, n, wn, wk, wc, h, .inr (.inr ⟨h0, by omega, rfl, rfl, rfl, rfl⟩)⟩
  · exact ⟨wc, 0, 0, 0, wn, wk, wc, h, .inl ⟨h0, rfl, rfl, rfl, rfl⟩⟩

theorem nw_facts {f : Nat → Nat} {n limit cls rn k tk : Nat} (h : NW f n limit cls rn k tk) (hl : limit ≤ 9223372036854775807) : rn ≤ n ∧ tk ≤ n ∧ (cls = 0 → tk = k + rn ∧ 0 < k) ∧ (cls ≠ 0 → rn = 0) ∧ cls ≤ 3 := by
  obtain ⟨wn, wk, wc, hw, hc⟩ := h
  have := want_facts hw hl
  rcases hc with ⟨h1, rfl, rfl, rfl, rfl⟩ | ⟨h1, h2, rfl, rfl, rfl, rfl⟩ | ⟨h1, h2, rfl, rfl, rfl, rfl⟩
  · refine ⟨by omega, by omega, fun h => absurd h h1, fun _ => rfl, by omega⟩
  · have h3 := this.2.2.2 h1
    refine ⟨by omega, by omega, fun _ => ⟨rfl, h3⟩, fun h => absurd rfl h, by omega⟩
  · refine ⟨by omega, by omega, fun h => by omega, fun _ => rfl, by omega⟩

section
variable {F : Interp} {B : Nat} {w : World} {R BR BB BY N c bS oS q limit cls rn k tk FB : Nat} {ao : Option Addr} {f : Nat → Nat} {aE aU aT : Addr}

/-- Next, at every state. -/
theorem next_any (env : Env F B w aE aU aT) (h : Rd w B R BR BB BY ao N c bS oS f q FB) (hBw : B ≤ w.heap.size) (hN : N ≤ 1048576) (hqN : q ≤ N) (hu : ∀ t, f t < 256) (hl : limit ≤ 9223372036854775807) (hw : NW (fun t => f (q + t)) (N - q) limit cls rn k tk) :
    Calls Tryf.prog 14 #[.pointer (some ⟨R, 0, none⟩), .int .i64 limit] w fun en w' => NextPost w w' B R BR BB BY ao N c bS oS f FB aE aU aT cls rn (q + tk) (q + k) en := by
  obtain ⟨wn, wk, wc, hw, hc⟩ := hw
  have hf := want_facts hw hl
  rcases hc with ⟨h1, rfl, rfl, rfl, rfl⟩ | ⟨rfl, h2, rfl, rfl, rfl, rfl⟩ | ⟨rfl, h2, rfl, rfl, rfl, rfl⟩
  · exact next_err env h hBw hu hl hw h1 _
  · refine (next_ok env h hBw hN hu hl hw).mono fun en w' hp => ?_
    rcases hp with ⟨_, hp⟩ | ⟨h3, _⟩
    · rw [Nat.add_assoc] at hp; exact hp
    · omega
  · refine (next_ok env h hBw hN hu hl hw).mono fun en w' hp => ?_
    rcases hp with ⟨h3, _⟩ | ⟨_, hp⟩
    · omega
    · rw [show q + (N - q) = N by omega]; exact hp
end

theorem ErrIs.touch {S : List Nat} {w w' : World} {aE aU aT : Addr} {wc : Nat} {er : Value} (h : ErrIs w aE aU aT wc er) (ht : Touch S w w') (hs : ∀ k, k < w.heap.size → k ∉ S) : ErrIs w' aE aU aT wc er := by
  rcases h with h | h | h | ⟨h1, pb, h2, h3⟩
  · exact .inl h
  · exact .inr (.inl h)
  · exact .inr (.inr (.inl h))
  · exact .inr (.inr (.inr ⟨h1, pb, h2, ht.cell h3 (hs _ (World.block_lt_of_cell? _ _ h3))⟩))
end Go.Proofs.Qxb6614532aFmt
