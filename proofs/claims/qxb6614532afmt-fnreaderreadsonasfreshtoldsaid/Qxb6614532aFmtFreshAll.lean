import Derived.Test.Qxb6614532aFmtFresh2
import Derived.Test.Qxb6614532aFmtFresh4
import Derived.Test.Qxb6614532aFmtFresh5
namespace Go.Proofs.Qxb6614532aFmt
open Go.RowKit Go.Stop
set_option linter.unusedVariables false
section
variable {F : Interp} {w : World} {N c limit limit2 : Nat} {ao : Option Addr} {f : Nat → Nat} {aE aU aT : Addr}

theorem fresh_any (env : Env F w.heap.size w aE aU aT) (hA : Arg w ao N c f) (hn : N ≤ 1048576) (hu : ∀ t, f t < 256) (hl : limit ≤ 9223372036854775807) (hl2 : limit2 ≤ 9223372036854775807) :
    Calls Tryf.prog 5 #[.slice ao N c, .int .i64 limit, .int .i64 limit2] w fun e w' => e = .returned (.bool true) ∧ Touch [] w w' := by
  have ef : (fun t => f (0 + t)) = f := by funext t; rw [Nat.zero_add]
  have eN : N - 0 = N := rfl
  obtain ⟨wn, wk, wc, hW⟩ := want_some f N limit
  have hW0 : Want (fun t => f (0 + t)) (N - 0) limit wn wk wc := by rw [ef, eN]; exact hW
  rcases hW with ⟨e, h1, h2, h3, h4, h5, hc⟩ | ⟨h1, h2, h3, h4, rfl, rfl, rfl⟩ | ⟨h1, rfl, rfl, h2⟩
  · have hV := valTo_u64 f e h2 h5 h3
    have hh : ∀ (wx : World) (ad : Option Addr) (cx : Nat), Bytes wx ad N w.heap.size 0 f → Calls Tryf.prog 13 #[.slice ad N cx] wx fun e' w' => e' = .returned (.tuple #[.int .u64 (valTo f (e + 1) : Nat), .int .i64 ((e + 1 : Nat) : Int), .int .i64 0]) ∧ wx = w' := fun wx ad cx hb => head_end hb h1 h2 h3 h4 h5
    rcases hc with ⟨h6, rfl, rfl, rfl⟩ | ⟨h6, rfl, rfl, rfl⟩
    · by_cases h7 : valTo f (e + 1) ≤ N - (e + 1)
      · obtain ⟨cls2, rn2, k2, tk2, hw2⟩ := nw_some (fun t => f (e + 1 + valTo f (e + 1) + t)) (N - (e + 1 + valTo f (e + 1))) limit2
        have hw : NW (fun t => f (0 + t)) (N - 0) limit 0 (valTo f (e + 1)) (e + 1) (e + 1 + valTo f (e + 1)) := ⟨_, _, _, hW0, .inr (.inl ⟨rfl, h7, rfl, rfl, rfl, rfl⟩)⟩
        by_cases hm : e + 1 + valTo f (e + 1) = N
        · by_cases hv0 : valTo f (e + 1) = 0
          · exact fresh_ok_end0 env hA hn hu hl hl2 h6 (by omega) (by omega) hm hv0 hw hw2 hh
          · exact fresh_ok_end env hA hn hu hl hl2 h6 (by omega) (by omega) hm (by omega) hw hw2 hh
        · exact fresh_ok env hA hn hu hl hl2 h6 (by omega) (by omega) hm hw hw2 hh
      · exact fresh_err2 env hA hn hu hl hV (by omega) (.inr ⟨h6, by omega, rfl⟩) (fun wx R BR BB BY FB ac hb hrd => (next_any (env.below hb) hrd hb.size hn (Nat.zero_le _) hu hl ⟨_, _, _, hW0, .inr (.inr ⟨rfl, by omega, rfl, rfl, rfl, rfl⟩)⟩).mono fun en w' h => ⟨_, _, h⟩) hh
    · exact fresh_err2 env hA hn hu hl hV (by omega) (.inl ⟨h6, rfl⟩) (fun wx R BR BB BY FB ac hb hrd => (next_err (env.below hb) hrd hb.size hu hl hW0 (by omega) 0).mono fun en w' h => ⟨_, _, h⟩) hh
  · exact fresh_err env hA hn hu hl hW0 (by omega) (fun wx ad cx hb => head_bad hb h1 h2 h3 h4)
  · have hs : noneSt N = (wc : Int) := by
      rcases h2 with ⟨h, rfl⟩ | ⟨h, h', rfl⟩ | ⟨h, rfl⟩
      · simp [noneSt, h]
      · have : ¬ N = 0 := by omega
        simp [noneSt, this, h']
      · have h1 : ¬ N = 0 := by omega
        have h2 : ¬ N < 10 := by omega
        simp [noneSt, h1, h2]
    exact fresh_err env hA hn hu hl hW0 (by omega) (fun wx ad cx hb => by rw [← hs]; exact head_none hb h1)
end
end Go.Proofs.Qxb6614532aFmt
