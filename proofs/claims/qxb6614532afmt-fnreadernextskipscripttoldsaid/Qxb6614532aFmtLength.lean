import Derived.Test.Qxb6614532aFmtDiscard
import Derived.Test.Qxb6614532aFmtUvarint
namespace Go.Proofs.Qxb6614532aFmt
open Go.RowKit Go.Stop
set_option linter.unusedVariables false

/-- The sentinels that the road looks into, below block B; and what answers for fmt. -/
structure Env (F : Interp) (B : Nat) (w : World) (aE aU aT : Addr) : Prop where
  ans : F.answers w.tape
  gE : w.cell? ⟨0, 0, none⟩ = some (.iface 90 (.pointer (some aE)))
  gU : w.cell? ⟨1, 0, none⟩ = some (.iface 90 (.pointer (some aU)))
  gT : w.cell? ⟨2, 0, none⟩ = some (.iface 90 (.pointer (some aT)))
  bE : ∃ c t, w.heap[aE.block]? = some (.cells c t (0, 0))
  bU : ∃ c t, w.heap[aU.block]? = some (.cells c t (0, 0))
  sT : ∃ s, w.cell? aT = some (.string s)
  nEU : aE ≠ aU
  lt : 2 < B ∧ aE.block < B ∧ aU.block < B ∧ aT.block < B
theorem Env.below {F : Interp} {B : Nat} {w w' : World} {aE aU aT : Addr} (h : Env F B w aE aU aT) (hb : Below B w w') : Env F B w' aE aU aT := by
  obtain ⟨h1, h2, h3, h4, ⟨c5, t5, h5⟩, ⟨c6, t6, h6⟩, ⟨s, h7⟩, h8, h9, h10, h11, h12⟩ := h
  refine ⟨by rw [hb.tape]; exact h1, ?_, ?_, ?_, ⟨c5, t5, ?_⟩, ⟨c6, t6, ?_⟩, ⟨s, ?_⟩, h8, h9, h10, h11, h12⟩
  · rw [hb.cell (p := ⟨0, 0, none⟩) (by simp; omega)]; exact h2
  · rw [hb.cell (p := ⟨1, 0, none⟩) (by simp; omega)]; exact h3
  · rw [hb.cell (p := ⟨2, 0, none⟩) (by simp; omega)]; exact h4
  · rw [hb.block _ h10]; exact h5
  · rw [hb.block _ h11]; exact h6
  · rw [hb.cell h12]; exact h7

/-- An error value of class wc. -/
def ErrIs (w : World) (aE aU aT : Addr) (wc : Nat) (er : Value) : Prop :=
  (wc = 0 ∧ er = .nilIface) ∨ (wc = 1 ∧ er = .iface 90 (.pointer (some aE))) ∨ (wc = 2 ∧ er = .iface 90 (.pointer (some aU))) ∨
  (wc = 3 ∧ ∃ pb, er = .iface 76 (.pointer (some ⟨pb, 0, none⟩)) ∧ w.cell? ⟨pb, 1, none⟩ = some (.iface 90 (.pointer (some aT))))

/-- What length leaves. -/
def LenPost (w w' : World) (BR BB BY : Nat) (ao : Option Addr) (N c bS oS : Nat) (f : Nat → Nat) (q : Nat) (aE aU aT : Addr) (wn wc : Nat) (e : Ending) : Prop :=
  ∃ er r v i, e = .returned (.tuple #[.int .i64 wn, er]) ∧ ErrIs w' aE aU aT wc er ∧ St w' BR BB BY ao N c bS oS f r v i .nilIface ∧ i - (v - r) = q ∧ Touch [BR, BB, BY] w w'

section
variable {F : Interp} {B : Nat} {w : World} {R BR BB BY N c bS oS r v i p limit wn wk wc : Nat} {ao : Option Addr} {f : Nat → Nat} {aE aU aT : Addr}

theorem St.touchAlloc {er : Value} (h : St w BR BB BY ao N c bS oS f r v i er) (o : Obj) : St (w.alloc o) BR BB BY ao N c bS oS f r v i er := by
  have hT : Touch [BR, BB, BY] w (w.alloc o) := (Touch.refl _ w).alloc o
  have hb : Below w.heap.size w (w.alloc o) := (Below.refl _ w).alloc (Nat.le_refl _) o
  obtain ⟨x5, x6, hd⟩ := h.hd
  obtain ⟨ys, hy, h1, h2⟩ := h.buf
  obtain ⟨x2, hY⟩ := h.rd
  exact h.make hT ⟨x5, x6, hd.below hb hd.lt⟩ ⟨ys, hy.below hb hy.lt, h1, h2⟩ ⟨x2, hY.below hb hY.lt⟩ h.rv h.v4 h.vi h.iN

/-- The bytes that Peek hands back. -/
theorem St.bytes {er : Value} {ad : Option Addr} {a : Nat} (h : St w BR BB BY ao N c bS oS f r v i er) (hp : i - (v - r) = p) (ha : a ≤ v - r) (had : 0 < a → ad = some ⟨BB, r, none⟩) (hu : ∀ t, f t < 256) : Bytes w ad a BB r (fun t => f (p + t)) := by
  obtain ⟨ys, hy, h1, h2⟩ := h.buf
  have := h.v4
  refine ⟨had, fun t ht => ?_, fun t => hu _, by omega⟩
  rw [hy.cell, h2 t (by omega), hp]

set_option maxRecDepth 100000 in
set_option maxHeartbeats 1000000 in
/-- length: a whole head within the limit. -/
theorem length_ok {e : Nat} (env : Env F B w aE aU aT) (h : St w BR BB BY ao N c bS oS f r v i .nilIface) (hp : i - (v - r) = p) (hR : w.cell? ⟨R, 0, none⟩ = some (.pointer (some ⟨BR, 0, none⟩))) (hRd : R ∉ [BR, BB, BY]) (hz : 0 ∉ [BR, BB, BY]) (hBs : ∀ k ∈ [BR, BB, BY], B ≤ k) (hBw : B ≤ w.heap.size) (hu : ∀ t, f t < 256) (hl : limit ≤ 9223372036854775807)
    (h1 : e < N - p) (h2 : e < 10) (h3 : f (p + e) < 128) (h4 : ∀ t, t < e → 128 ≤ f (p + t)) (h5 : ¬ (e = 9 ∧ 1 < f (p + 9))) (h6 : valTo (fun t => f (p + t)) (e + 1) ≤ limit) :
    Calls Tryf.prog 20 #[.pointer (some ⟨R, 0, none⟩), .int .i64 limit] w fun en w' => LenPost w w' BR BB BY ao N c bS oS f (p + (e + 1)) aE aU aT (valTo (fun t => f (p + t)) (e + 1)) 0 en := by
  go_enter Tryf.func20, Tryf.ntmps20
  go_wp2_with fail
  refine (peek_any h hp env.gE hz).mono ?_
  rintro en w1 ⟨r1, v1, i1, a, cp, ad, er, rfl, hs1, hp1, ht1, had, hav, hcase⟩
  have hea : e < a := by rcases hcase with ⟨rfl, _⟩ | ⟨_, h, _, _⟩ <;> omega
  have hby := hs1.bytes hp1 hav had hu
  have hR1 := ht1.cell hR hRd
  have HS1 := hideP hs1
  have HT1 := hideP ht1
  have HP1 := hideP hp1
  clear hcase hs1 ht1 hp1 hR h hp
  go_wp2_with fail
  refine (uvarint_end hby hea h2 h3 h4 h5).mono ?_
  rintro en w2 ⟨rfl, rfl⟩
  generalize hE : valTo (fun t => f (p + t)) (e + 1) = V at *
  have HE := hideP hE
  have hVI : ¬ (limit : Int) < (V : Int) := by omega
  have hsz : (((e : Int) + 1) == 0) = false := beq_eq_false_iff_ne.2 (by omega)
  clear hby h4 h5 hE had
  go_wp2_with fail
  have e1 : ((e + 1 : Nat) : Int) = (e : Int) + 1 := by omega
  have hdis := discard_in HS1.out (e + 1) (by omega) (by omega)
  rw [e1] at hdis
  refine hdis.mono ?_
  rintro en w2 ⟨rfl, hs2, ht2⟩
  have HS2 := hideP hs2
  have HT2 := hideP (Touch.trans HT1.out ht2)
  clear hs2 ht2 hdis e1
  go_wp2
  go_ret2
  have hs3 := HS1.out
  have := hs3.rv
  have := hs3.vi
  exact ⟨_, r1 + (e + 1), v1, i1, by rw [HE.out]; rfl, .inl ⟨rfl, rfl⟩, HS2.out, by have := HP1.out; omega, HT2.out⟩

end
end Go.Proofs.Qxb6614532aFmt
