import Derived.Test.Qxb6614532aFmtLength2
import Derived.Test.Qxb6614532aFmtLength3
import Derived.Test.Qxb6614532aFmtLength4
import Derived.Test.Qxb6614532aFmtWant
namespace Go.Proofs.Qxb6614532aFmt
open Go.RowKit Go.Stop
set_option linter.unusedVariables false
section
variable {F : Interp} {B : Nat} {w : World} {R BR BB BY N c bS oS r v i p limit wn wk wc : Nat} {ao : Option Addr} {f : Nat → Nat} {aE aU aT : Addr}

/-- length, at every input: what is wanted. -/
theorem length_any (env : Env F B w aE aU aT) (h : St w BR BB BY ao N c bS oS f r v i .nilIface) (hp : i - (v - r) = p) (hR : w.cell? ⟨R, 0, none⟩ = some (.pointer (some ⟨BR, 0, none⟩))) (hRd : R ∉ [BR, BB, BY]) (hz : 0 ∉ [BR, BB, BY]) (hBs : ∀ k ∈ [BR, BB, BY], B ≤ k) (hBw : B ≤ w.heap.size) (hu : ∀ t, f t < 256) (hl : limit ≤ 9223372036854775807)
    (hw : Want (fun t => f (p + t)) (N - p) limit wn wk wc) :
    Calls Tryf.prog 20 #[.pointer (some ⟨R, 0, none⟩), .int .i64 limit] w fun en w' => LenPost w w' BR BB BY ao N c bS oS f (p + wk) aE aU aT wn wc en := by
  rcases hw with ⟨e, h1, h2, h3, h4, h5, ⟨h6, rfl, rfl, rfl⟩ | ⟨h6, rfl, rfl, rfl⟩⟩ | ⟨h1, h2, h3, h4, rfl, rfl, rfl⟩ | ⟨h1, rfl, rfl, ⟨h2, rfl⟩ | ⟨h2, h3, rfl⟩ | ⟨h2, rfl⟩⟩
  · exact length_ok env h hp hR hRd hz hBs hBw hu hl h1 h2 h3 h4 h5 h6
  · exact length_more env h hp hR hRd hz hBs hBw hu hl h1 h2 h3 h4 h5 h6
  · exact length_bad env h hp hR hRd hz hBs hBw hu hl h1 h2 h3 h4
  · exact length_eof env h hp hR hRd hz hBs hBw hu hl h2 h1
  · exact length_cut env h hp hR hRd hz hBs hBw hu hl h2 h3 h1
  · exact length_long env h hp hR hRd hz hBs hBw hu hl h2 h1

set_option maxRecDepth 100000 in
set_option maxHeartbeats 1000000 in
/-- ZZLength: the same. -/
theorem zzlength_any (env : Env F B w aE aU aT) (h : St w BR BB BY ao N c bS oS f r v i .nilIface) (hp : i - (v - r) = p) (hR : w.cell? ⟨R, 0, none⟩ = some (.pointer (some ⟨BR, 0, none⟩))) (hRd : R ∉ [BR, BB, BY]) (hz : 0 ∉ [BR, BB, BY]) (hBs : ∀ k ∈ [BR, BB, BY], B ≤ k) (hBw : B ≤ w.heap.size) (hu : ∀ t, f t < 256) (hl : limit ≤ 9223372036854775807)
    (hw : Want (fun t => f (p + t)) (N - p) limit wn wk wc) :
    Calls Tryf.prog 10 #[.pointer (some ⟨R, 0, none⟩), .int .i64 limit] w fun en w' => LenPost w w' BR BB BY ao N c bS oS f (p + wk) aE aU aT wn wc en := by
  have HL := hideP (length_any env h hp hR hRd hz hBs hBw hu hl hw)
  clear env h hp hR hRd hz hBs hBw hu hw
  go_enter Tryf.func10, Tryf.ntmps10
  go_wp2_with fail
  refine HL.out.mono ?_
  rintro en w' ⟨er, r, v, i, rfl, h⟩
  have H := hideP h
  clear h HL
  go_wp2
  go_ret2
  exact ⟨er, r, v, i, rfl, H.out⟩

set_option maxRecDepth 100000 in
set_option maxHeartbeats 1000000 in
/-- zzClass tells the error's class. -/
theorem class_any {er : Value} (env : Env F B w aE aU aT) (h : ErrIs w aE aU aT wc er) :
    Calls Tryf.prog 11 #[er] w fun en w' => en = .returned (.int .i64 wc) ∧ w = w' := by
  obtain ⟨i, hi, hcmp⟩ := Option.map_eq_some_iff.1 Tryf.isComp
  obtain ⟨j, hj, hjs⟩ := Option.map_eq_some_iff.1 Tryf.isSize
  have gE := env.gE
  have gU := env.gU
  have gT := env.gT
  obtain ⟨cE, tE, bE⟩ := env.bE
  obtain ⟨cU, tU, bU⟩ := env.bU
  have hne := env.nEU
  have sE := run_eql_iface_ptr_same (P := Tryf.prog) w aE Tryf.underlying30 Tryf.underlying90 hi hcmp hj
  have sU := run_eql_iface_ptr_same (P := Tryf.prog) w aU Tryf.underlying30 Tryf.underlying90 hi hcmp hj
  have oUE := run_eql_iface_ptr_other (P := Tryf.prog) w Tryf.underlying30 Tryf.underlying90 hi hcmp hj (by omega) hne.symm bU bE
  clear env bE bU
  rcases h with ⟨rfl, rfl⟩ | ⟨rfl, rfl⟩ | ⟨rfl, rfl⟩ | ⟨rfl, pb, rfl, hc⟩
  · go_enter Tryf.func11, Tryf.ntmps11
    go_wp2
    go_ret
    exact ⟨rfl, rfl⟩
  · go_enter Tryf.func11, Tryf.ntmps11
    go_wp2
    go_ret
    exact ⟨rfl, rfl⟩
  · go_enter Tryf.func11, Tryf.ntmps11
    go_wp2
    go_ret
    exact ⟨rfl, rfl⟩
  · have oE := run_eql_iface_types (P := Tryf.prog) 76 90 (.pointer (some ⟨pb, 0, none⟩)) (.pointer (some aE)) Tryf.underlying30 (by decide) w
    have oU := run_eql_iface_types (P := Tryf.prog) 76 90 (.pointer (some ⟨pb, 0, none⟩)) (.pointer (some aU)) Tryf.underlying30 (by decide) w
    have HIS := hideP (is_wrap_same pb 0 aT w hc)
    go_enter Tryf.func11, Tryf.ntmps11
    go_wp2_with fail
    refine HIS.out.mono ?_
    rintro e w' ⟨rfl, rfl⟩
    go_wp2
    go_ret
    exact ⟨rfl, rfl⟩
end
end Go.Proofs.Qxb6614532aFmt
