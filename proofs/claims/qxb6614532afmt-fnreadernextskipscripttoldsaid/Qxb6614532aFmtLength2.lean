import Derived.Test.Qxb6614532aFmtLength
import Derived.Test.Qxb6614532aFmtErrorf
import Derived.BigQuiet
namespace Go.Proofs.Qxb6614532aFmt
open Go.RowKit Go.Stop
set_option linter.unusedVariables false
section
variable {F : Interp} {B : Nat} {w : World} {R BR BB BY N c bS oS r v i p limit wn wk wc : Nat} {ao : Option Addr} {f : Nat → Nat} {aE aU aT : Addr}

set_option maxRecDepth 100000 in
set_option maxHeartbeats 1000000 in
/-- length: a whole head beyond the limit. -/
theorem length_more {e : Nat} (env : Env F B w aE aU aT) (h : St w BR BB BY ao N c bS oS f r v i .nilIface) (hp : i - (v - r) = p) (hR : w.cell? ⟨R, 0, none⟩ = some (.pointer (some ⟨BR, 0, none⟩))) (hRd : R ∉ [BR, BB, BY]) (hz : 0 ∉ [BR, BB, BY]) (hBs : ∀ k ∈ [BR, BB, BY], B ≤ k) (hBw : B ≤ w.heap.size) (hu : ∀ t, f t < 256) (hl : limit ≤ 9223372036854775807)
    (h1 : e < N - p) (h2 : e < 10) (h3 : f (p + e) < 128) (h4 : ∀ t, t < e → 128 ≤ f (p + t)) (h5 : ¬ (e = 9 ∧ 1 < f (p + 9))) (h6 : limit < valTo (fun t => f (p + t)) (e + 1)) :
    Calls Tryf.prog 20 #[.pointer (some ⟨R, 0, none⟩), .int .i64 limit] w fun en w' => LenPost w w' BR BB BY ao N c bS oS f p aE aU aT 0 3 en := by
  go_enter Tryf.func20, Tryf.ntmps20
  go_wp2_with fail
  refine (peek_any h hp env.gE hz).mono ?_
  rintro en w1 ⟨r1, v1, i1, a, cp, ad, er, rfl, hs1, hp1, ht1, had, hav, hcase⟩
  have env1 := env.below (ht1.below hBw hBs)
  have hby := hs1.bytes hp1 hav had hu
  have hR1 := ht1.cell hR hRd
  have HS1 := hideP hs1
  have HT1 := hideP ht1
  have HP1 := hideP hp1
  have hea : e < a := by rcases hcase with ⟨rfl, _⟩ | ⟨_, h, _, _⟩ <;> omega
  clear hcase hs1 ht1 hp1 hR h hp
  go_wp2_with fail
  refine (uvarint_end hby hea h2 h3 h4 h5).mono ?_
  rintro en w2 ⟨rfl, rfl⟩
  have hV64 := valTo_u64 (fun t => f (p + t)) e h2 h5 h3
  generalize valTo (fun t => f (p + t)) (e + 1) = V at *
  have hVI : (limit : Int) < (V : Int) := by omega
  have hsz : (((e : Int) + 1) == 0) = false := beq_eq_false_iff_ne.2 (by omega)
  have gT := env1.gT
  obtain ⟨s, hsT⟩ := env1.sT
  have ltT := env1.lt
  have ANS := hideP env1.ans
  clear hby h4 h5 had env env1
  go_wp2_with fail
  refine (errorf_more F w1.heap.size aT s V limit _ (by exact ANS.out) (by simp) (by simp) (by simp) ((World.cell?_alloc_lt w1 _ aT (World.block_lt_of_cell? _ _ hsT)).trans hsT)).mono ?_
  rintro en w2 ⟨rfl, t, rfl⟩
  go_wp2
  go_ret2
  refine ⟨_, r1, v1, i1, rfl, .inr (.inr (.inr ⟨rfl, _, rfl, by simp⟩)), St.drewN (d := 1) ((HS1.out.touchAlloc _).touchAlloc _), HP1.out, ((HT1.out.alloc _).alloc _).drew⟩
end
end Go.Proofs.Qxb6614532aFmt
