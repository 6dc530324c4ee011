import Derived.Test.Qxb6614532aFmtHead
namespace Go.Proofs.Qxb6614532aFmt
open Go.RowKit
set_option linter.unusedVariables false

/-- What a length at the front of n bytes comes to, at a limit: its value, the bytes it takes, its class. -/
def Want (f : Nat → Nat) (n limit wn wk wc : Nat) : Prop :=
  (∃ e, e < n ∧ e < 10 ∧ f e < 128 ∧ (∀ t, t < e → 128 ≤ f t) ∧ ¬ (e = 9 ∧ 1 < f 9) ∧ ((valTo f (e + 1) ≤ limit ∧ wn = valTo f (e + 1) ∧ wk = e + 1 ∧ wc = 0) ∨ (limit < valTo f (e + 1) ∧ wn = 0 ∧ wk = 0 ∧ wc = 3))) ∨
  (9 < n ∧ f 9 < 128 ∧ (∀ t, t < 9 → 128 ≤ f t) ∧ 1 < f 9 ∧ wn = 0 ∧ wk = 0 ∧ wc = 3) ∨
  ((∀ t, t < n → t < 10 → 128 ≤ f t) ∧ wn = 0 ∧ wk = 0 ∧ ((n = 0 ∧ wc = 1) ∨ (0 < n ∧ n < 10 ∧ wc = 2) ∨ (10 ≤ n ∧ wc = 3)))

theorem least_end (f : Nat → Nat) (m : Nat) : (∃ e, e < m ∧ f e < 128 ∧ ∀ t, t < e → 128 ≤ f t) ∨ ∀ t, t < m → 128 ≤ f t := by
  induction m with
  | zero => right; intro t ht; omega
  | succ m ih =>
    rcases ih with ⟨e, h1, h2, h3⟩ | h
    · exact .inl ⟨e, by omega, h2, h3⟩
    · by_cases hm : f m < 128
      · exact .inl ⟨m, by omega, hm, h⟩
      · right
        intro t ht
        by_cases e : t = m
        · subst e; omega
        · exact h t (by omega)

theorem want_some (f : Nat → Nat) (n limit : Nat) : ∃ wn wk wc, Want f n limit wn wk wc := by
  rcases least_end f (if n < 10 then n else 10) with ⟨e, h1, h2, h3⟩ | h
  · have hen : e < n := by split at h1 <;> omega
    have he : e < 10 := by split at h1 <;> omega
    by_cases h9 : e = 9 ∧ 1 < f 9
    · obtain ⟨rfl, h9'⟩ := h9
      exact ⟨0, 0, 3, .inr (.inl ⟨hen, h2, h3, h9', rfl, rfl, rfl⟩)⟩
    · by_cases hl : valTo f (e + 1) ≤ limit
      · exact ⟨_, _, _, .inl ⟨e, hen, he, h2, h3, h9, .inl ⟨hl, rfl, rfl, rfl⟩⟩⟩
      · exact ⟨_, _, _, .inl ⟨e, hen, he, h2, h3, h9, .inr ⟨by omega, rfl, rfl, rfl⟩⟩⟩
  · have h' : ∀ t, t < n → t < 10 → 128 ≤ f t := fun t h1 h2 => h t (by split <;> omega)
    by_cases h0 : n = 0
    · exact ⟨0, 0, 1, .inr (.inr ⟨h', rfl, rfl, .inl ⟨h0, rfl⟩⟩)⟩
    · by_cases h1 : n < 10
      · exact ⟨0, 0, 2, .inr (.inr ⟨h', rfl, rfl, .inr (.inl ⟨by omega, h1, rfl⟩)⟩)⟩
      · exact ⟨0, 0, 3, .inr (.inr ⟨h', rfl, rfl, .inr (.inr ⟨by omega, rfl⟩)⟩)⟩

theorem want_facts {f : Nat → Nat} {n limit wn wk wc : Nat} (h : Want f n limit wn wk wc) (hl : limit ≤ 9223372036854775807) : wk ≤ n ∧ wn ≤ limit ∧ wc ≤ 3 ∧ (wc = 0 → 0 < wk) := by
  rcases h with ⟨e, h1, h2, h3, h4, h5, ⟨h6, rfl, rfl, rfl⟩ | ⟨h6, rfl, rfl, rfl⟩⟩ | ⟨h1, h2, h3, h4, rfl, rfl, rfl⟩ | ⟨h1, rfl, rfl, h2⟩
  · omega
  · omega
  · omega
  · omega

section
variable {w : World} {ad : Option Addr} {n b o c e limit wn wk wc : Nat} {f : Nat → Nat}

set_option maxRecDepth 100000 in
set_option maxHeartbeats 1000000 in
theorem want_any (h : Bytes w ad n b o f) (hl : limit ≤ 9223372036854775807) (hw : Want f n limit wn wk wc) :
    Calls Tryf.prog 9 #[.slice ad n c, .int .i64 limit] w fun en w' => en = .returned (.tuple #[.int .i64 wn, .int .i64 wk, .int .i64 wc]) ∧ w = w' := by
  rcases hw with ⟨e, h1, h2, h3, h4, h5, hc⟩ | ⟨h1, h2, h3, h4, rfl, rfl, rfl⟩ | ⟨h1, rfl, rfl, h2⟩
  · have HV := hideP (valTo_u64 f e h2 h5 h3)
    rcases hc with ⟨h6, rfl, rfl, rfl⟩ | ⟨h6, rfl, rfl, rfl⟩
    · go_enter Tryf.func9, Tryf.ntmps9
      go_wp2_with fail
      refine (head_end h h1 h2 h3 h4 h5).mono ?_
      rintro e' w' ⟨rfl, rfl⟩
      generalize hE : valTo f (e + 1) = V at *
      have HE := hideP hE
      have h6I : ¬ (limit : Int) < (V : Int) := by omega
      clear h h4 hE
      go_wp2
      go_ret3
      exact ⟨ret3 (by rw [HE.out]; rfl) (by go_num) rfl, rfl⟩
    · go_enter Tryf.func9, Tryf.ntmps9
      go_wp2_with fail
      refine (head_end h h1 h2 h3 h4 h5).mono ?_
      rintro e' w' ⟨rfl, rfl⟩
      generalize valTo f (e + 1) = V at *
      have h6I : (limit : Int) < (V : Int) := by omega
      clear h h4
      go_wp2
      go_ret3
      exact ⟨rfl, rfl⟩
  · go_enter Tryf.func9, Tryf.ntmps9
    go_wp2_with fail
    refine (head_bad h h1 h2 h3 h4).mono ?_
    rintro e' w' ⟨rfl, rfl⟩
    clear h h3
    go_wp2
    go_ret3
    exact ⟨rfl, rfl⟩
  · go_enter Tryf.func9, Tryf.ntmps9
    go_wp2_with fail
    refine (head_none h h1).mono ?_
    rintro e' w' ⟨rfl, rfl⟩
    clear h h1
    have hs : noneSt n = (wc : Int) := by
      rcases h2 with ⟨h, rfl⟩ | ⟨h, h', rfl⟩ | ⟨h, rfl⟩
      · simp [noneSt, h]
      · have : ¬ n = 0 := by omega
        simp [noneSt, this, h']
      · have h1 : ¬ n = 0 := by omega
        have h2 : ¬ n < 10 := by omega
        simp [noneSt, h1, h2]
    have hb : ((wc : Int) != 0) = true := by rw [bne_iff_ne]; omega
    rw [hs]
    clear hs h2
    go_wp2
    go_ret3
    exact ⟨rfl, rfl⟩
end
end Go.Proofs.Qxb6614532aFmt
