import Derived.Test.Qxb6614532aFmtLength
import Derived.Test.Qxb6614532aFmtErrorf
import Derived.BigQuiet
namespace Go.Proofs.Qxb6614532aFmt
open Go.RowKit Go.Stop
set_option linter.unusedVariables false
section
variable {F : Interp} {B : Nat} {w : World} {R BR BB BY N c bS oS r v i p limit wn wk wc : Nat} {ao : Option Addr} {f : Nat → Nat} {aE aU aT : Addr}


set_option maxRecDepth 100000 in
set_option maxHeartbeats 400000 in
/-- length: nothing is left. -/
theorem length_eof (env : Env F B w aE aU aT) (h : St w BR BB BY ao N c bS oS f r v i .nilIface) (hp : i - (v - r) = p) (hR : w.cell? ⟨R, 0, none⟩ = some (.pointer (some ⟨BR, 0, none⟩))) (hRd : R ∉ [BR, BB, BY]) (hz : 0 ∉ [BR, BB, BY]) (hBs : ∀ k ∈ [BR, BB, BY], B ≤ k) (hBw : B ≤ w.heap.size) (hu : ∀ t, f t < 256) (hl : limit ≤ 9223372036854775807)
    (h1 : N - p = 0) (h2 : ∀ t, t < N - p → t < 10 → 128 ≤ f (p + t)) :
    Calls Tryf.prog 20 #[.pointer (some ⟨R, 0, none⟩), .int .i64 limit] w fun en w' => LenPost w w' BR BB BY ao N c bS oS f p aE aU aT 0 1 en := by
  go_enter Tryf.func20, Tryf.ntmps20
  go_wp2_with fail
  refine (peek_any h hp env.gE hz).mono ?_
  rintro en w1 ⟨r1, v1, i1, a, cp, ad, er, rfl, hs1, hp1, ht1, had, hav, hcase⟩
  have env1 := env.below (ht1.below hBw hBs)
  have hby := hs1.bytes hp1 hav had hu
  have hR1 := ht1.cell hR hRd
  have HS1 := hideP hs1
  have HT1 := hideP ht1
  have HP1 := hideP hp1
  have hvi := hs1.vi
  have hiN := hs1.iN
  obtain ⟨h10, ha2, ha3, rfl⟩ : a < 10 ∧ a = N - p ∧ a = v1 - r1 ∧ er = .iface 90 (.pointer (some aE)) := by
    rcases hcase with ⟨h, _⟩ | h
    · omega
    · exact h
  clear hcase hs1 ht1 hp1 hR h hp had hvi hiN
  obtain rfl : a = 0 := by omega
  clear ha2 ha3

  go_wp2_with fail
  refine (uvarint_none hby (by omega) (fun t ht => h2 t (by omega) (by omega))).mono ?_
  rintro en w2 ⟨rfl, rfl⟩
  have gE := env1.gE
  have gU := env1.gU
  clear hby env env1
  obtain ⟨i, hi, hcmp⟩ := Option.map_eq_some_iff.1 Tryf.isComp
  obtain ⟨j, hj, hjs⟩ := Option.map_eq_some_iff.1 Tryf.isSize
  have heq := fun wx => run_eql_iface_ptr_same (P := Tryf.prog) wx aE Tryf.underlying30 Tryf.underlying90 hi hcmp hj
  go_wp2_with fail
  go_quiet (fail)
  go_wp2
  go_ret2
  refine ⟨_, r1, v1, i1, rfl, .inr (.inl ⟨rfl, rfl⟩), HS1.out.drewN, HP1.out, HT1.out.drewN _⟩

set_option maxRecDepth 100000 in
set_option maxHeartbeats 400000 in
/-- length: the head is cut off. -/
theorem length_cut (env : Env F B w aE aU aT) (h : St w BR BB BY ao N c bS oS f r v i .nilIface) (hp : i - (v - r) = p) (hR : w.cell? ⟨R, 0, none⟩ = some (.pointer (some ⟨BR, 0, none⟩))) (hRd : R ∉ [BR, BB, BY]) (hz : 0 ∉ [BR, BB, BY]) (hBs : ∀ k ∈ [BR, BB, BY], B ≤ k) (hBw : B ≤ w.heap.size) (hu : ∀ t, f t < 256) (hl : limit ≤ 9223372036854775807)
    (h1 : 0 < N - p) (h1b : N - p < 10) (h2 : ∀ t, t < N - p → t < 10 → 128 ≤ f (p + t)) :
    Calls Tryf.prog 20 #[.pointer (some ⟨R, 0, none⟩), .int .i64 limit] w fun en w' => LenPost w w' BR BB BY ao N c bS oS f p aE aU aT 0 2 en := by
  go_enter Tryf.func20, Tryf.ntmps20
  go_wp2_with fail
  refine (peek_any h hp env.gE hz).mono ?_
  rintro en w1 ⟨r1, v1, i1, a, cp, ad, er, rfl, hs1, hp1, ht1, had, hav, hcase⟩
  have env1 := env.below (ht1.below hBw hBs)
  have hby := hs1.bytes hp1 hav had hu
  have hR1 := ht1.cell hR hRd
  have HS1 := hideP hs1
  have HT1 := hideP ht1
  have HP1 := hideP hp1
  have hvi := hs1.vi
  have hiN := hs1.iN
  obtain ⟨h10, ha2, ha3, rfl⟩ : a < 10 ∧ a = N - p ∧ a = v1 - r1 ∧ er = .iface 90 (.pointer (some aE)) := by
    rcases hcase with ⟨h, _⟩ | h
    · omega
    · exact h
  clear hcase hs1 ht1 hp1 hR h hp had hvi hiN
  have hne : ((a : Int) == 0) = false := beq_eq_false_iff_ne.2 (by omega)
  have h2' : ∀ t, t < a → 128 ≤ f (p + t) := fun t ht => h2 t (by omega) (by omega)
  have ha0 : 0 < a := by omega
  clear ha2 ha3 h2 h1 h1b
  go_wp2_with fail
  refine (uvarint_none hby (by omega) h2').mono ?_
  rintro en w2 ⟨rfl, rfl⟩
  have gE := env1.gE
  have gU := env1.gU
  clear hby env env1
  obtain ⟨i, hi, hcmp⟩ := Option.map_eq_some_iff.1 Tryf.isComp
  obtain ⟨j, hj, hjs⟩ := Option.map_eq_some_iff.1 Tryf.isSize
  have heq := fun wx => run_eql_iface_ptr_same (P := Tryf.prog) wx aE Tryf.underlying30 Tryf.underlying90 hi hcmp hj
  go_wp2_with fail
  go_quiet (fail)
  go_wp2
  go_ret2
  refine ⟨_, r1, v1, i1, rfl, .inr (.inr (.inl ⟨rfl, rfl⟩)), HS1.out.drewN, HP1.out, HT1.out.drewN _⟩
end
end Go.Proofs.Qxb6614532aFmt
