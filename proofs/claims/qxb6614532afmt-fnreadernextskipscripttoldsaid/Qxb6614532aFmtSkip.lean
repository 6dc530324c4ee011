import Derived.Test.Qxb6614532aFmtDiscard
import Derived.Deep.LoopGhost
namespace Go.Proofs.Qxb6614532aFmt
open Go.RowKit
set_option linter.unusedVariables false
section
variable {w w' : World} {R BR BB BY N c bS oS r v i q s n limit cls rn k tk FB : Nat} {ao : Option Addr} {f : Nat → Nat} {aE aU aT : Addr} {er : Value}

theorem buffered_nat (h : St w BR BB BY ao N c bS oS f r v i er) (hs : v - r = s) :
    Calls Tryf.prog 32 #[.pointer (some ⟨BR, 0, none⟩)] w fun e w' => e = .returned (.int .i64 s) ∧ ∃ d, w' = w.drewN d := by
  have rv := h.rv
  have e : (s : Int) = (v : Int) - (r : Int) := by omega
  rw [e]; exact buffered_any h

/-- The first mark moved on. -/
theorem St.skip (h : St w BR BB BY ao N c bS oS f r v i er) (hs : s ≤ v - r) :
    St (w.setCell ⟨BR, 2, none⟩ (.int .i64 ((r : Int) + (s : Int)))) BR BB BY ao N c bS oS f (r + s) v i er ∧ Touch [BR, BB, BY] w (w.setCell ⟨BR, 2, none⟩ (.int .i64 ((r : Int) + (s : Int)))) := by
  have rv := h.rv
  have eN : ((r + s : Nat) : Int) = (r : Int) + (s : Int) := by omega
  rw [← eN]
  exact h.head (r' := r + s) (v' := v) (er' := er) 2 (.int .i64 (r + s : Nat)) (fun x5 x6 => ⟨x5, x6, rfl⟩) (by omega) rfl (by omega)

/-- What Discard leaves. -/
def DiscPost (w w' : World) (BR BB BY : Nat) (ao : Option Addr) (N c bS oS : Nat) (f : Nat → Nat) (q n : Nat) (aE : Addr) (e : Ending) : Prop :=
  ∃ (k : Nat) (er : Value) (r v i : Nat), e = .returned (.tuple #[.int .i64 k, er]) ∧ ((k = n ∧ er = .nilIface) ∨ (k < n ∧ q + k = N ∧ er = .iface 90 (.pointer (some aE)))) ∧ St w' BR BB BY ao N c bS oS f r v i .nilIface ∧ i - (v - r) = q + k ∧ Touch [BR, BB, BY] w w'

/-- The loop's relation. -/
def DiscRel (w wr : World) (BR BB BY : Nat) (ao : Option Addr) (N c bS oS : Nat) (f : Nat → Nat) (q : Nat) : Prop :=
  ∃ r v i, St wr BR BB BY ao N c bS oS f r v i .nilIface ∧ i - (v - r) = q ∧ Touch [BR, BB, BY] w wr

set_option maxHeartbeats 400000 in
theorem discard_zero : Calls Tryf.prog 24 #[.pointer (some ⟨BR, 0, none⟩), .int .i64 0] w fun e w' => e = .returned (.tuple #[.int .i64 0, .nilIface]) ∧ w = w' := by
  go_enter Tryf.func24, Tryf.ntmps24
  go_wp2
  go_ret2
  exact ⟨rfl, rfl⟩

set_option maxRecDepth 100000 in
set_option maxHeartbeats 2000000 in
/-- Discard(n), n above 0. -/
theorem discard_pos (h : St w BR BB BY ao N c bS oS f r v i .nilIface) (hq : i - (v - r) = q) (hn0 : 0 < n) (hn : n ≤ 9223372036854775807) (gE : w.cell? ⟨0, 0, none⟩ = some (.iface 90 (.pointer (some aE)))) (hz : 0 ∉ [BR, BB, BY]) :
    Calls Tryf.prog 24 #[.pointer (some ⟨BR, 0, none⟩), .int .i64 n] w fun e w' => DiscPost w w' BR BB BY ao N c bS oS f q n aE e := by
  obtain ⟨h2, t2, ⟨x5, c5⟩, f5, ⟨y6, c6⟩, f6⟩ := h.unread
  have H2 := hideP h2
  have T2 := hideP t2
  have HQ := hideP hq
  have GE := hideP gE
  have hnI : (0 : Int) < (n : Int) := by omega
  have hnM : (n : Int) ≤ 9223372036854775807 := by omega
  have hnb : ((n : Int) == 0) = false := beq_eq_false_iff_ne.2 (by omega)
  clear h h2 t2 hq gE
  go_enter Tryf.func24, Tryf.ntmps24
  go_wp2
  go_loopg [6] n (fun gk rem wr => rem = .int .i64 gk ∧ 0 < gk ∧ gk ≤ n ∧ DiscRel w wr BR BB BY ao N c bS oS f (q + (n - gk)))
  case atStart => exact ⟨rfl, hn0, Nat.le_refl _, r, v, i, H2.out, by have := HQ.out; omega, T2.out⟩
  case round =>
    obtain ⟨rfl, hg0, hgn, r1, v1, i1, hs1, hp1, ht1⟩ := hrel
    have rv1 := hs1.rv
    have v41 := hs1.v4
    have iN1 := hs1.iN
    have vi1 := hs1.vi
    have HS1 := hideP hs1
    have HT1 := hideP ht1
    have HP1 := hideP hp1
    clear hs1 ht1 hp1 c5 f5 c6 f6 H2 T2
    have hgI : (0 : Int) < (gk : Int) := by omega
    have hgnI : (gk : Int) ≤ (n : Int) := by omega
    by_cases hvr : v1 = r1
    · by_cases hi : i1 < N
      · go_wp2_with fail
        refine (buffered_nat (s := 0) HS1.out (by omega)).mono ?_
        rintro e w2 ⟨rfl, d, rfl⟩
        have HS2 := hideP (St.drewN (d := d) HS1.out)
        have HT2 := hideP (Touch.drewN HT1.out d)
        generalize wr.drewN d = W at HS2 HT2 ⊢
        go_wp2_with fail
        refine (fill_some HS2.out (by omega) hi).mono ?_
        rintro e w3 ⟨k, hk0, hk1, hk2, rfl, hs3, ht3⟩
        have HS3 := hideP hs3
        have HT3 := hideP (Touch.trans HT2.out ht3)
        have hv3 : v1 - r1 + k - 0 = k := by omega
        clear hs3 ht3
        go_wp2_with fail
        refine (buffered_nat HS3.out hv3).mono ?_
        rintro e w4 ⟨rfl, d4, rfl⟩
        have HS4 := hideP (St.drewN (d := d4) HS3.out)
        have HT4 := hideP (Touch.drewN HT3.out d4)
        generalize w3.drewN d4 = W4 at HS4 HT4 ⊢
        obtain ⟨ra, hra⟩ : ∃ ra, ra = 0 := ⟨0, rfl⟩
        obtain ⟨va, hva⟩ : ∃ va, va = v1 - r1 + k := ⟨_, rfl⟩
        obtain ⟨ia, hia⟩ : ∃ ia, ia = i1 + k := ⟨_, rfl⟩
        have HP4 : Hid (ia - (va - ra) = q + (n - gk)) := by have := HP1.out; exact hideP (by omega)
        rw [← hra, ← hva, ← hia] at HS4
        have hvs : va - ra = k := by omega
        clear hra hva hia hv3 HS1 HP1 HT1 HS2 HT2 HS3 HT3
        have hrv4 := HS4.out.rv
        have hv44 := HS4.out.v4
        have hvi4 := HS4.out.vi
        have hkb : ((k : Int) == 0) = false := beq_eq_false_iff_ne.2 (by omega)
        have hkI : (0 : Int) < (k : Int) := by omega
        have hra0 : (0 : Int) ≤ (ra : Int) := by omega
        have hra4 : (ra : Int) + (k : Int) ≤ 4096 := by omega
        obtain ⟨z5, z6, hd⟩ := HS4.out.hd
        have c2 : W4.cell? ⟨BR, 2, none⟩ = some (.int .i64 ra) := hd.cell 2
        have c4 : W4.cell? ⟨BR, 4, none⟩ = some .nilIface := hd.cell 4
        have f2 := hd.free 2
        clear hd
        by_cases hlt : gk < k
        · have hltI : (gk : Int) < (k : Int) := by omega
          have hraG : (ra : Int) + (gk : Int) ≤ 4096 := by omega
          obtain ⟨h5, t5⟩ := HS4.out.skip (s := gk) (by omega)
          have H5 := hideP h5
          have T5 := hideP (Touch.trans HT4.out t5)
          clear h5 t5
          go_wp2
          go_ret2
          exact ⟨n, _, ra + gk, va, ia, rfl, .inl ⟨rfl, rfl⟩, H5.out, by have := HP4.out; omega, T5.out⟩
        · by_cases heq : gk = k
          · subst heq
            have hltI : ¬ (gk : Int) < (gk : Int) := by omega
            obtain ⟨h5, t5⟩ := HS4.out.skip (s := gk) (by omega)
            have H5 := hideP h5
            have T5 := hideP (Touch.trans HT4.out t5)
            clear h5 t5
            go_wp2
            go_ret2
            exact ⟨n, _, ra + gk, va, ia, rfl, .inl ⟨rfl, rfl⟩, H5.out, by have := HP4.out; omega, T5.out⟩
          · have hltI : ¬ (gk : Int) < (k : Int) := by omega
            have hsub : (gk : Int) - (k : Int) = ((gk - k : Nat) : Int) := by omega
            have hsb : (((gk - k : Nat) : Int) == 0) = false := beq_eq_false_iff_ne.2 (by omega)
            have hwr : IntKind.i64.wrap ((gk : Int) - (k : Int)) = ((gk - k : Nat) : Int) := by rw [IntKind.wrap_i64]; omega
            obtain ⟨h5, t5⟩ := HS4.out.skip (s := k) (by omega)
            have hne : (⟨BR, 4, none⟩ : Addr) ≠ ⟨BR, 2, none⟩ := by simp
            have H5 := hideP h5
            have T5 := hideP (Touch.trans HT4.out t5)
            clear h5 t5
            go_wp2
            go_roundg (gk - k)
            case measure => omega
            case rel => exact ⟨by go_num, by omega, by omega, ra + k, va, ia, H5.out, by have := HP4.out; omega, T5.out⟩
      · go_wp2_with fail
        refine (buffered_nat (s := 0) HS1.out (by omega)).mono ?_
        rintro e w2 ⟨rfl, d, rfl⟩
        have HS2 := hideP (St.drewN (d := d) HS1.out)
        have HT2 := hideP (Touch.drewN HT1.out d)
        generalize wr.drewN d = W at HS2 HT2 ⊢
        go_wp2_with fail
        refine (fill_eof (aE := aE) HS2.out (by omega) (by omega) (HT2.out.cell GE.out hz) hz).mono ?_
        rintro e w3 ⟨rfl, hs3, ht3⟩
        rw [show v1 - r1 = 0 by omega] at hs3
        have HS3 := hideP hs3
        have HT3 := hideP (Touch.trans HT2.out ht3)
        clear hs3 ht3
        go_wp2_with fail
        refine (buffered_nat (s := 0) HS3.out rfl).mono ?_
        rintro e w4 ⟨rfl, d4, rfl⟩
        have HS4 := hideP (St.drewN (d := d4) HS3.out)
        have HT4 := hideP (Touch.drewN HT3.out d4)
        generalize w3.drewN d4 = W4 at HS4 HT4 ⊢
        obtain ⟨z5, z6, hd⟩ := HS4.out.hd
        have c2 : W4.cell? ⟨BR, 2, none⟩ = some (.int .i64 0) := hd.cell 2
        have c4 : W4.cell? ⟨BR, 4, none⟩ = some (.iface 90 (.pointer (some aE))) := hd.cell 4
        have f2 := hd.free 2
        clear hd
        have hgb : ((gk : Int) == 0) = false := beq_eq_false_iff_ne.2 (by omega)
        have hgl : ¬ (gk : Int) < 0 := by omega
        obtain ⟨h5, t5⟩ := HS4.out.head (r' := 0) (v' := 0) (er' := .iface 90 (.pointer (some aE))) 2 (.int .i64 0) (fun x5 x6 => ⟨x5, x6, rfl⟩) (Nat.le_refl _) rfl (Nat.le_refl _)
        have H5 := hideP h5
        have T5 := hideP (Touch.trans HT4.out t5)
        clear h5 t5
        go_wp2_with fail
        refine (readErr_any H5.out trivial).mono ?_
        rintro e w5 ⟨rfl, hs6, ht6⟩
        have H6 := hideP hs6
        have T6 := hideP (Touch.trans T5.out ht6)
        clear hs6 ht6
        go_wp2
        go_ret2
        exact ⟨n - gk, _, 0, 0, i1, by rw [show ((n - gk : Nat) : Int) = (n : Int) - (gk : Int) by omega]; rfl, .inr ⟨by omega, by have := HP1.out; omega, rfl⟩, H6.out, by have := HP1.out; omega, T6.out⟩
    · obtain ⟨s, hs⟩ : ∃ s, v1 - r1 = s := ⟨_, rfl⟩
      go_wp2_with fail
      refine (buffered_nat HS1.out hs).mono ?_
      rintro e w2 ⟨rfl, d, rfl⟩
      have HS4 := hideP (St.drewN (d := d) HS1.out)
      have HT4 := hideP (Touch.drewN HT1.out d)
      generalize wr.drewN d = W4 at HS4 HT4 ⊢
      obtain ⟨ra, rfl⟩ : ∃ ra, ra = r1 := ⟨_, rfl⟩
      obtain ⟨va, rfl⟩ : ∃ va, va = v1 := ⟨_, rfl⟩
      obtain ⟨ia, rfl⟩ : ∃ ia, ia = i1 := ⟨_, rfl⟩
      have HP4 := HP1
      clear HS1 HP1 HT1
      have hrv4 := HS4.out.rv
      have hv44 := HS4.out.v4
      have hvi4 := HS4.out.vi
      have hkb : ((s : Int) == 0) = false := beq_eq_false_iff_ne.2 (by omega)
      have hkI : (0 : Int) < (s : Int) := by omega
      have hra0 : (0 : Int) ≤ (ra : Int) := by omega
      have hra4 : (ra : Int) + (s : Int) ≤ 4096 := by omega
      obtain ⟨z5, z6, hd⟩ := HS4.out.hd
      have c2 : W4.cell? ⟨BR, 2, none⟩ = some (.int .i64 ra) := hd.cell 2
      have c4 : W4.cell? ⟨BR, 4, none⟩ = some .nilIface := hd.cell 4
      have f2 := hd.free 2
      clear hd
      by_cases hlt : gk < s
      · have hltI : (gk : Int) < (s : Int) := by omega
        have hraG : (ra : Int) + (gk : Int) ≤ 4096 := by omega
        obtain ⟨h5, t5⟩ := HS4.out.skip (s := gk) (by omega)
        have H5 := hideP h5
        have T5 := hideP (Touch.trans HT4.out t5)
        clear h5 t5
        go_wp2
        go_ret2
        exact ⟨n, _, ra + gk, va, ia, rfl, .inl ⟨rfl, rfl⟩, H5.out, by have := HP4.out; omega, T5.out⟩
      · by_cases heq : gk = s
        · subst heq
          have hltI : ¬ (gk : Int) < (gk : Int) := by omega
          obtain ⟨h5, t5⟩ := HS4.out.skip (s := gk) (by omega)
          have H5 := hideP h5
          have T5 := hideP (Touch.trans HT4.out t5)
          clear h5 t5
          go_wp2
          go_ret2
          exact ⟨n, _, ra + gk, va, ia, rfl, .inl ⟨rfl, rfl⟩, H5.out, by have := HP4.out; omega, T5.out⟩
        · have hltI : ¬ (gk : Int) < (s : Int) := by omega
          have hsub : (gk : Int) - (s : Int) = ((gk - s : Nat) : Int) := by omega
          have hsb : (((gk - s : Nat) : Int) == 0) = false := beq_eq_false_iff_ne.2 (by omega)
          have hwr : IntKind.i64.wrap ((gk : Int) - (s : Int)) = ((gk - s : Nat) : Int) := by rw [IntKind.wrap_i64]; omega
          obtain ⟨h5, t5⟩ := HS4.out.skip (s := s) (by omega)
          have hne : (⟨BR, 4, none⟩ : Addr) ≠ ⟨BR, 2, none⟩ := by simp
          have H5 := hideP h5
          have T5 := hideP (Touch.trans HT4.out t5)
          clear h5 t5
          go_wp2
          go_roundg (gk - s)
          case measure => omega
          case rel => exact ⟨by go_num, by omega, by omega, ra + s, va, ia, H5.out, by have := HP4.out; omega, T5.out⟩
end
end Go.Proofs.Qxb6614532aFmt
