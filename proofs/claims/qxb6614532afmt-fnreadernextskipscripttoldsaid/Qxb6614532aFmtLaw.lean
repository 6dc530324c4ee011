import Derived.Test.Qxb6614532aFmtNew
import Derived.Test.Qxb6614532aFmtLen
namespace Go.Proofs.Qxb6614532aFmt
open Go.RowKit Go.Stop
set_option linter.unusedVariables false

/-- The argument: bytes behind a slice, or nil. -/
def Arg (w : World) (ao : Option Addr) (N c : Nat) (f : Nat → Nat) : Prop := (ao = none ∧ N = 0 ∧ c = 0) ∨ ∃ a, ao = some a ∧ N ≤ c ∧ ∀ j, j < N → w.cell? (a.add j) = some (.int .u8 (f j))

section
variable {F : Interp} {w : World} {N c limit : Nat} {ao : Option Addr} {f : Nat → Nat} {aE aU aT : Addr}

theorem clone_any (h : Arg w ao N c f) (hn : N ≤ 1048576) : Calls Tryf.prog 7 #[.slice ao N c] w fun e w' => ClonePost w w' N f e := by
  rcases h with ⟨rfl, rfl, rfl⟩ | ⟨a, rfl, h1, h2⟩
  · exact clone_nil
  · exact clone_some a h2 h1 hn

set_option maxHeartbeats 1000000 in
theorem bytes6 (n : Int) (hn : N ≤ 1048576) : Calls Tryf.prog 6 #[.slice ao N c, .int .i64 n] w fun e w' => e = .returned (.bool true) ∧ w = w' := by
  have h1 : ¬ (1048576 : Int) < (N : Int) := by omega
  go_enter Tryf.func6, Tryf.ntmps6
  go_wp2
  go_ret
  exact ⟨rfl, rfl⟩
set_option maxHeartbeats 1000000 in
theorem bytes6_no (n : Int) (hn : 1048576 < N) : Calls Tryf.prog 6 #[.slice ao N c, .int .i64 n] w fun e w' => e = .returned (.bool false) ∧ w = w' := by
  have h1 : (1048576 : Int) < (N : Int) := by omega
  go_enter Tryf.func6, Tryf.ntmps6
  go_wp2
  go_ret
  exact ⟨rfl, rfl⟩

set_option maxHeartbeats 1000000 in
/-- Too long: nothing is asked. -/
theorem law_long (n : Int) (hn : 1048576 < N) : Calls Tryf.prog 3 #[.slice ao N c, .int .i64 n] w fun e w' => e = .returned (.bool true) ∧ Touch [] w w' := by
  go_enter Tryf.func3, Tryf.ntmps3
  go_wp2_with fail
  refine (bytes6_no n hn).mono ?_
  rintro e w' ⟨rfl, rfl⟩
  go_wp2
  go_ret
  exact ⟨rfl, Touch.refl _ _⟩
set_option maxHeartbeats 1000000 in
theorem law_neg (n : Int) (hn : N ≤ 1048576) (h0 : n < 0) : Calls Tryf.prog 3 #[.slice ao N c, .int .i64 n] w fun e w' => e = .returned (.bool true) ∧ Touch [] w w' := by
  have h1 : ¬ (1048576 : Int) < (N : Int) := by omega
  go_enter Tryf.func3, Tryf.ntmps3
  go_wp2_with fail
  refine (bytes6 n hn).mono ?_
  rintro e w' ⟨rfl, rfl⟩
  go_wp2
  go_ret
  exact ⟨rfl, Touch.refl _ _⟩

/-- The loop's relation. -/
def LawRel (w2 wr : World) (BR BB BY : Nat) (ao : Option Addr) (N bS : Nat) (f : Nat → Nat) (q : Nat) : Prop :=
  ∃ r v i, St wr BR BB BY ao N N bS 0 f r v i .nilIface ∧ i - (v - r) = q ∧ Touch [BR, BB, BY] w2 wr

set_option maxRecDepth 100000 in
set_option maxHeartbeats 4000000 in
theorem law_any (env : Env F w.heap.size w aE aU aT) (hA : Arg w ao N c f) (hn : N ≤ 1048576) (hu : ∀ t, f t < 256) (hl : limit ≤ 9223372036854775807) :
    Calls Tryf.prog 3 #[.slice ao N c, .int .i64 limit] w fun e w' => e = .returned (.bool true) ∧ Touch [] w w' := by
  have h1 : ¬ (1048576 : Int) < (N : Int) := by omega
  have h2 : ¬ (limit : Int) < 0 := by omega
  have HB := hideP (fun (wx : World) => bytes6 (w := wx) (ao := ao) (c := c) limit hn)
  have HC := hideP (clone_any hA hn)
  have ENV := hideP env
  have HU := hideP hu
  clear env hA hu
  go_enter Tryf.func3, Tryf.ntmps3
  go_wp2_with fail
  refine (HB.out w).mono ?_
  rintro e w' ⟨rfl, rfl⟩
  clear HB
  go_wp2_with fail
  refine HC.out.mono ?_
  rintro e w1 ⟨ac, rfl, hac, hS, ht1⟩
  have HS := hideP hS
  have HT1 := hideP ht1
  have HAC := hideP hac
  clear HC hS ht1 hac
  go_wp2_with fail
  refine (over_any HS.out).mono ?_
  rintro e w2 ⟨R, BR, BB, BY, rfl, hst, hR, hRn, hBs, ht2, hR2⟩
  have HST := hideP hst
  have HR := hideP hR
  have HRN := hideP hRn
  have HBS := hideP hBs
  have HT2 := hideP (Touch.trans HT1.out ht2)
  clear hst hR hRn hBs ht2
  go_wp2
  go_loopg [6, 7] N (fun k p st wr => ∃ q m : Nat, p = .int .i64 q ∧ st = .int .i64 m ∧ m ≤ q ∧ k + q = N ∧ LawRel w2 wr BR BB BY ac N w.heap.size f q)
  case atStart => exact ⟨0, 0, rfl, rfl, Nat.le_refl _, by omega, 0, 0, 0, HST.out, rfl, Touch.refl _ _⟩
  case round =>
    obtain ⟨q, m, rfl, rfl, hmq, hkq, r, v, i, hs, hq, ht⟩ := hrel
    have hmN : (m : Int) ≤ (N : Int) := by omega
    have hq0 : (0 : Int) ≤ (q : Int) := by omega
    have hqN : (q : Int) ≤ (N : Int) := by omega
    have hBS : ∀ k ∈ [BR, BB, BY], w.heap.size ≤ k := fun k hk => Nat.le_trans HT1.out.size (HBS.out k hk)
    have hbel : Below w.heap.size w wr := (HT2.out.below (Nat.le_refl _) (by simp)).trans (ht.below HT2.out.size hBS)
    have henv := ENV.out.below hbel
    obtain ⟨wn, wk, wc, hw⟩ := want_some (fun t => f (q + t)) (N - q) limit
    have hwf := want_facts hw hl
    have hz : 0 ∉ [BR, BB, BY] := fun h => by have := hBS 0 h; have := henv.lt; omega
    have HLEN := hideP (zzlength_any henv hs hq (ht.cell HR.out (by exact HRN.out)) HRN.out hz hBS hbel.size HU.out hl hw)
    have hby : ∀ ad, (0 < N - q → ad = some ⟨w.heap.size, q, none⟩) → Bytes wr ad (N - q) w.heap.size q (fun t => f (q + t)) := fun ad had => ⟨had, fun t ht => by have := hs.src.cell (q + t) (by omega); rwa [Nat.zero_add] at this, fun t => HU.out _, by omega⟩
    have HW := hideP (fun ad cx had => want_any (c := cx) (hby ad had) hl hw)
    have HENV := hideP henv
    have HT := hideP ht
    have HBEL := hideP hbel
    have hac := HAC.out
    clear hs hq ht henv hbel hby hw HST hBS hz HAC
    rcases hac with ⟨rfl, rfl⟩ | rfl
    · obtain rfl : q = 0 := by omega
      go_wp2_with fail
      refine (HW.out none 0 (by omega)).mono ?_
      rintro e w' ⟨rfl, rfl⟩
      clear HW
      go_wp2_with fail
      refine HLEN.out.mono ?_
      rintro e w3 ⟨er, r3, v3, i3, rfl, herr, hs3, hq3, ht3⟩
      have HB3 := hideP (HBEL.out.trans (ht3.below HBEL.out.size (fun k hk => Nat.le_trans HT1.out.size (HBS.out k hk))))
      have HCL := hideP (class_any (ENV.out.below HB3.out) herr)
      have HS3 := hideP hs3
      have HQ3 := hideP hq3
      have HT3 := hideP (Touch.trans HT.out ht3)
      clear herr hs3 hq3 ht3 HLEN
      have hne1 : ((wn : Int) != (wn : Int)) = false := bne_self_eq_false _
      have hne2 : ((wc : Int) != (wc : Int)) = false := bne_self_eq_false _
      go_wp2_with fail
      refine HCL.out.mono ?_
      rintro e w' ⟨rfl, rfl⟩
      clear HCL
      by_cases hc0 : wc = 0
      · have hk0 := hwf.2.2.2 hc0
        have hk1 := hwf.1
        omega
      · have hcb : ((wc : Int) != 0) = true := by rw [bne_iff_ne]; omega
        clear hc0
        go_wp2
        go_ret
        exact ⟨rfl, Touch.ofBelow HB3.out⟩
    · by_cases hqe : q = N
      · subst hqe
        rw [Nat.sub_self] at HW
        go_wp2_with fail
        refine (HW.out _ _ (by omega)).mono ?_
        rintro e w' ⟨rfl, rfl⟩
        clear HW
        go_wp2_with fail
        refine HLEN.out.mono ?_
        rintro e w3 ⟨er, r3, v3, i3, rfl, herr, hs3, hq3, ht3⟩
        have HB3 := hideP (HBEL.out.trans (ht3.below HBEL.out.size (fun k hk => Nat.le_trans HT1.out.size (HBS.out k hk))))
        have HCL := hideP (class_any (ENV.out.below HB3.out) herr)
        have HS3 := hideP hs3
        have HQ3 := hideP hq3
        have HT3 := hideP (Touch.trans HT.out ht3)
        clear herr hs3 hq3 ht3 HLEN
        have hne1 : ((wn : Int) != (wn : Int)) = false := bne_self_eq_false _
        have hne2 : ((wc : Int) != (wc : Int)) = false := bne_self_eq_false _
        go_wp2_with fail
        refine HCL.out.mono ?_
        rintro e w' ⟨rfl, rfl⟩
        clear HCL
        by_cases hc0 : wc = 0
        · have hk0 := hwf.2.2.2 hc0
          have hk1 := hwf.1
          have hcb : ((wc : Int) != 0) = false := by rw [hc0]; rfl
          clear hc0
          go_wp2
          go_roundg (gk - wk)
          case measure => omega
          case rel => exact ⟨q + wk, m + 1, by go_num, by go_num, by omega, by omega, r3, v3, i3, HS3.out, HQ3.out, HT3.out⟩
        · have hcb : ((wc : Int) != 0) = true := by rw [bne_iff_ne]; omega
          clear hc0
          go_wp2
          go_ret
          exact ⟨rfl, Touch.ofBelow HB3.out⟩
      · have hqlt : q < N := by omega
        go_wp2_with fail
        refine (HW.out _ _ (fun _ => rfl)).mono ?_
        rintro e w' ⟨rfl, rfl⟩
        clear HW
        go_wp2_with fail
        refine HLEN.out.mono ?_
        rintro e w3 ⟨er, r3, v3, i3, rfl, herr, hs3, hq3, ht3⟩
        have HB3 := hideP (HBEL.out.trans (ht3.below HBEL.out.size (fun k hk => Nat.le_trans HT1.out.size (HBS.out k hk))))
        have HCL := hideP (class_any (ENV.out.below HB3.out) herr)
        have HS3 := hideP hs3
        have HQ3 := hideP hq3
        have HT3 := hideP (Touch.trans HT.out ht3)
        clear herr hs3 hq3 ht3 HLEN
        have hne1 : ((wn : Int) != (wn : Int)) = false := bne_self_eq_false _
        have hne2 : ((wc : Int) != (wc : Int)) = false := bne_self_eq_false _
        go_wp2_with fail
        refine HCL.out.mono ?_
        rintro e w' ⟨rfl, rfl⟩
        clear HCL
        by_cases hc0 : wc = 0
        · have hk0 := hwf.2.2.2 hc0
          have hk1 := hwf.1
          have hcb : ((wc : Int) != 0) = false := by rw [hc0]; rfl
          clear hc0
          go_wp2
          go_roundg (gk - wk)
          case measure => omega
          case rel => exact ⟨q + wk, m + 1, by go_num, by go_num, by omega, by omega, r3, v3, i3, HS3.out, HQ3.out, HT3.out⟩
        · have hcb : ((wc : Int) != 0) = true := by rw [bne_iff_ne]; omega
          clear hc0
          go_wp2
          go_ret
          exact ⟨rfl, Touch.ofBelow HB3.out⟩
end
end Go.Proofs.Qxb6614532aFmt
