import Derived.Test.Qxb6614532aFmtPeek
namespace Go.Proofs.Qxb6614532aFmt
open Go.RowKit
set_option linter.unusedVariables false
section
variable {w : World} {BR BB BY N c bS oS r v i p : Nat} {ao : Option Addr} {f : Nat → Nat} {aE : Addr} {er : Value}

/-- What Peek(10) hands back: the head of what is left, and whether it is whole. -/
def PeekPost (w w' : World) (BR BB BY : Nat) (ao : Option Addr) (N c bS oS : Nat) (f : Nat → Nat) (p : Nat) (aE : Addr) (e : Ending) : Prop :=
  ∃ r v i a cp ad er, e = .returned (.tuple #[.slice ad a cp, er]) ∧ St w' BR BB BY ao N c bS oS f r v i .nilIface ∧ i - (v - r) = p ∧ Touch [BR, BB, BY] w w' ∧ (0 < a → ad = some ⟨BB, r, none⟩) ∧ a ≤ v - r ∧
    ((a = 10 ∧ er = .nilIface) ∨ (a < 10 ∧ a = N - p ∧ a = v - r ∧ er = .iface 90 (.pointer (some aE))))

/-- The loop's relation: so many rounds at most are to come. -/
def PeekRel (w wr : World) (BR BB BY : Nat) (ao : Option Addr) (N c bS oS : Nat) (f : Nat → Nat) (p : Nat) (aE : Addr) (k : Nat) : Prop :=
  ∃ r v i er, St wr BR BB BY ao N c bS oS f r v i er ∧ i - (v - r) = p ∧ Touch [BR, BB, BY] w wr ∧ ((er = .nilIface ∧ N - i + 1 ≤ k) ∨ (er = .iface 90 (.pointer (some aE)) ∧ i = N ∧ v - r < 10 ∧ r = 0))

set_option maxRecDepth 100000 in
set_option maxHeartbeats 2000000 in
theorem peek_any (h : St w BR BB BY ao N c bS oS f r v i .nilIface) (hp : i - (v - r) = p) (gE : w.cell? ⟨0, 0, none⟩ = some (.iface 90 (.pointer (some aE)))) (hz : 0 ∉ [BR, BB, BY]) :
    Calls Tryf.prog 26 #[.pointer (some ⟨BR, 0, none⟩), .int .i64 10] w fun e w' => PeekPost w w' BR BB BY ao N c bS oS f p aE e := by
  obtain ⟨h1, t1⟩ := h.head (r' := r) (v' := v) (er' := .nilIface) 5 (.int .i64 (-1)) (fun x5 x6 => ⟨_, x6, rfl⟩) h.rv rfl (Nat.le_refl _)
  obtain ⟨h2, t2⟩ := h1.head (r' := r) (v' := v) (er' := .nilIface) 6 (.int .i64 (-1)) (fun x5 x6 => ⟨x5, _, rfl⟩) h.rv rfl (Nat.le_refl _)
  have t12 := t1.trans t2
  have H2 := hideP h2
  have T2 := hideP t12
  obtain ⟨x5, x6, hd⟩ := h.hd
  obtain ⟨y5, y6, hd1⟩ := h1.hd
  have c5 : w.cell? ⟨BR, 5, none⟩ = some x5 := hd.cell 5
  have f5 := hd.free 5
  have c6 : (w.setCell ⟨BR, 5, none⟩ (.int .i64 (-1))).cell? ⟨BR, 6, none⟩ = some y6 := hd1.cell 6
  have f6 := hd1.free 6
  have HP := hideP hp
  clear h h1 t1 h2 t2 t12 hd hd1 hp
  go_enter Tryf.func26, Tryf.ntmps26
  go_wp2
  go_loopg [] (N - i + 1) (fun k wr => PeekRel w wr BR BB BY ao N c bS oS f p aE k)
  case atStart => exact ⟨r, v, i, _, H2.out, HP.out, T2.out, .inl ⟨rfl, Nat.le_refl _⟩⟩
  case round =>
    obtain ⟨r, v, i, er, hs, hp, ht, hc⟩ := hrel
    clear H2 T2 HP c5 f5 c6 f6
    have hrv := hs.rv
    have hv4 := hs.v4
    have hvi := hs.vi
    have hiN := hs.iN
    have hrI : (0 : Int) ≤ (r : Int) := by omega
    have hrvI : (r : Int) ≤ (v : Int) := by omega
    have hv4I : (v : Int) ≤ 4096 := by omega
    have HS := hideP hs
    have HT := hideP ht
    have HP := hideP hp
    have gW := ht.cell gE hz
    obtain ⟨x5, x6, hd⟩ := hs.hd
    have c0 : wr.cell? ⟨BR, 0, none⟩ = some (.slice (some ⟨BB, 0, none⟩) 4096 4096) := hd.cell 0
    have c2 : wr.cell? ⟨BR, 2, none⟩ = some (.int .i64 r) := hd.cell 2
    have c3 : wr.cell? ⟨BR, 3, none⟩ = some (.int .i64 v) := hd.cell 3
    rcases hc with ⟨rfl, hk⟩ | ⟨rfl, hiN2, hlt10, rfl⟩
    · have c4 : wr.cell? ⟨BR, 4, none⟩ = some .nilIface := hd.cell 4
      clear hs ht hp hd
      by_cases h10 : v - r < 10
      · have g1 : (v : Int) - (r : Int) < 10 := by omega
        have g2 : (v : Int) - (r : Int) < 4096 := by omega
        go_wp2
        go_quiet (fail)
        go_wp2_with fail
        by_cases hiN3 : i < N
        · refine (fill_some (St.drewN HS.out) (by omega) hiN3).mono ?_
          rintro e w2 ⟨k, hk0, hk1, hk2, rfl, hs2, ht2⟩
          have HS2 := hideP hs2
          have HT2 := hideP (Touch.trans HT.out (Touch.ofDrewN ht2))
          clear hs2 ht2 c0 c2 c3 c4
          go_wp2
          go_roundg (N - (i + k) + 1)
          case measure => omega
          case rel => exact ⟨0, v - r + k, i + k, _, HS2.out, by have := HP.out; omega, HT2.out, .inl ⟨rfl, Nat.le_refl _⟩⟩
        · refine (fill_eof (St.drewN HS.out) (by omega) (by omega) (by exact gW) hz).mono ?_
          rintro e w2 ⟨rfl, hs2, ht2⟩
          have HS2 := hideP hs2
          have HT2 := hideP (Touch.trans HT.out (Touch.ofDrewN ht2))
          clear hs2 ht2 c0 c2 c3 c4
          go_wp2
          go_roundg 0
          case measure => omega
          case rel => exact ⟨0, v - r, i, _, HS2.out, by have := HP.out; omega, HT2.out, .inr ⟨rfl, by omega, by omega, rfl⟩⟩
      · have g1 : decide ((v : Int) - (r : Int) < 10) = false := decide_eq_false (by omega)
        go_wp2
        go_quiet (fail)
        go_wp2
        have hr4 : ¬ 4096 = r := by omega
        have hr10 : (r : Int) + 10 ≤ 4096 := by omega
        have hge : (10 : Int) ≤ (v : Int) - (r : Int) := by omega
        go_quiet (fail)
        go_wp2
        go_quiet (fail)
        go_wp2
        go_ret2
        exact ⟨r, v, i, r + 10 - r, _, _, _, rfl, St.drewN (St.drewN HS.out), HP.out, Touch.drewN (Touch.drewN HT.out _) _, fun _ => rfl, by omega, .inl ⟨by omega, rfl⟩⟩
    · have c4 : wr.cell? ⟨BR, 4, none⟩ = some (.iface 90 (.pointer (some aE))) := hd.cell 4
      have c2' : wr.cell? ⟨BR, 2, none⟩ = some (.int .i64 0) := c2
      clear hs ht hp hd c2
      have g1 : (v : Int) < 10 := by omega
      have g2 : (v : Int) < 4096 := by omega
      have g0 : (0 : Int) ≤ (v : Int) := by omega
      go_wp2
      go_quiet (fail)
      go_wp2
      go_quiet (fail)
      go_wp2_with fail
      refine (readErr_any (St.drewN HS.out) trivial).mono ?_
      rintro e w2 ⟨rfl, hs2, ht2⟩
      obtain ⟨y5, y6, hd2⟩ := hs2.hd
      have d0 : w2.cell? ⟨BR, 0, none⟩ = some (.slice (some ⟨BB, 0, none⟩) 4096 4096) := hd2.cell 0
      have d2 : w2.cell? ⟨BR, 2, none⟩ = some (.int .i64 0) := hd2.cell 2
      have HS2 := hideP hs2
      have HT2 := hideP (Touch.trans HT.out (Touch.ofDrewN ht2))
      clear hs2 ht2 hd2 c0 c2' c3 c4
      go_wp2
      go_quiet (fail)
      go_wp2
      go_ret2
      refine ⟨0, v, i, v, 4096, _, _, rfl, St.drewN HS2.out, HP.out, Touch.drewN HT2.out _, fun _ => rfl, by omega, .inr ⟨by omega, ?_, by omega, rfl⟩⟩
      have := HP.out
      omega
end
end Go.Proofs.Qxb6614532aFmt
