import Derived.Test.Qxb6614532aFmtFresh
import Derived.Test.Qxb6614532aFmtSkip2
import Derived.Test.Qxb6614532aFmtHeadNW
namespace Go.Proofs.Qxb6614532aFmt
open Go.RowKit Go.Stop
set_option linter.unusedVariables false

/-- The argument: bools behind a slice. -/
def ArgB (w : World) (bo : Option Addr) (M : Nat) (g : Nat → Bool) : Prop := ∀ j, j < M → ∃ a : Addr, bo = some a ∧ w.cell? (a.add j) = some (.bool (g j))

section
variable {F : Interp} {B : Nat} {w : World} {R BR BB BY N M c cb bS oS limit : Nat} {ao bo : Option Addr} {f : Nat → Nat} {g : Nat → Bool} {aE aU aT : Addr}

theorem Rd.drawn {p FB d : Nat} (h : Rd w B R BR BB BY ao N c bS oS f p FB) : Rd (w.drewN d) B R BR BB BY ao N c bS oS f p FB := by
  obtain ⟨r, v, i, hs, hp⟩ := h.st
  exact ⟨⟨r, v, i, hs.drewN, hp⟩, h.row, h.fb, h.fS, h.rn, h.rS, h.bs⟩

set_option maxHeartbeats 1000000 in
theorem bytes12 (n : Int) (hn : N + M ≤ 1048576) : Calls Tryf.prog 12 #[.slice ao N c, .slice bo M cb, .int .i64 n] w fun e w' => e = .returned (.bool true) ∧ w = w' := by
  have h1 : ¬ (1048576 : Int) < (N : Int) := by omega
  have h2 : ¬ (1048576 : Int) < (M : Int) := by omega
  have h3 : ¬ (1048576 : Int) < (N : Int) + (M : Int) := by omega
  go_enter Tryf.func12, Tryf.ntmps12
  go_wp2
  go_ret
  exact ⟨rfl, rfl⟩
set_option maxHeartbeats 1000000 in
theorem bytes12_no (n : Int) (hn : 1048576 < N + M) : Calls Tryf.prog 12 #[.slice ao N c, .slice bo M cb, .int .i64 n] w fun e w' => e = .returned (.bool false) ∧ w = w' := by
  by_cases a1 : 1048576 < N
  · have h1 : (1048576 : Int) < (N : Int) := by omega
    go_enter Tryf.func12, Tryf.ntmps12
    go_wp2
    go_ret
    exact ⟨rfl, rfl⟩
  · have h1 : ¬ (1048576 : Int) < (N : Int) := by omega
    by_cases a2 : 1048576 < M
    · have h2 : (1048576 : Int) < (M : Int) := by omega
      go_enter Tryf.func12, Tryf.ntmps12
      go_wp2
      go_ret
      exact ⟨rfl, rfl⟩
    · have h2 : ¬ (1048576 : Int) < (M : Int) := by omega
      have h3 : (1048576 : Int) < (N : Int) + (M : Int) := by omega
      go_enter Tryf.func12, Tryf.ntmps12
      go_wp2
      go_ret
      exact ⟨rfl, rfl⟩

set_option maxHeartbeats 1000000 in
/-- Too long: nothing is asked. -/
theorem script_long (n : Int) (hn : 524288 < N ∨ 65536 < M) : Calls Tryf.prog 4 #[.slice ao N c, .slice bo M cb, .int .i64 n] w fun e w' => e = .returned (.bool true) ∧ Touch [] w w' := by
  by_cases h : 1048576 < N + M
  · go_enter Tryf.func4, Tryf.ntmps4
    go_wp2_with fail
    refine (bytes12_no n h).mono ?_
    rintro e w' ⟨rfl, rfl⟩
    go_wp2
    go_ret
    exact ⟨rfl, Touch.refl _ _⟩
  · by_cases h1 : 524288 < N
    · have h1I : (524288 : Int) < (N : Int) := by omega
      go_enter Tryf.func4, Tryf.ntmps4
      go_wp2_with fail
      refine (bytes12 n (by omega)).mono ?_
      rintro e w' ⟨rfl, rfl⟩
      go_wp2
      go_ret
      exact ⟨rfl, Touch.refl _ _⟩
    · have h1I : ¬ (524288 : Int) < (N : Int) := by omega
      have h2I : (65536 : Int) < (M : Int) := by omega
      go_enter Tryf.func4, Tryf.ntmps4
      go_wp2_with fail
      refine (bytes12 n (by omega)).mono ?_
      rintro e w' ⟨rfl, rfl⟩
      go_wp2
      go_ret
      exact ⟨rfl, Touch.refl _ _⟩
set_option maxHeartbeats 1000000 in
theorem script_neg (n : Int) (hn : N ≤ 524288) (hm : M ≤ 65536) (h0 : n < 0) : Calls Tryf.prog 4 #[.slice ao N c, .slice bo M cb, .int .i64 n] w fun e w' => e = .returned (.bool true) ∧ Touch [] w w' := by
  have h1I : ¬ (524288 : Int) < (N : Int) := by omega
  have h2I : ¬ (65536 : Int) < (M : Int) := by omega
  go_enter Tryf.func4, Tryf.ntmps4
  go_wp2_with fail
  refine (bytes12 n (by omega)).mono ?_
  rintro e w' ⟨rfl, rfl⟩
  go_wp2
  go_ret
  exact ⟨rfl, Touch.refl _ _⟩

/-- The loop's relation. -/
def ScriptRel (w wr : World) (R BR BB BY : Nat) (ac : Option Addr) (N : Nat) (f : Nat → Nat) (q : Nat) : Prop :=
  ∃ FB, Rd wr w.heap.size R BR BB BY ac N N w.heap.size 0 f q FB ∧ Below w.heap.size w wr

set_option maxRecDepth 100000 in
set_option maxHeartbeats 8000000 in
theorem script_any (env : Env F w.heap.size w aE aU aT) (hA : Arg w ao N c f) (hO : ArgB w bo M g) (hn : N ≤ 524288) (hm : M ≤ 65536) (hu : ∀ t, f t < 256) (hl : limit ≤ 9223372036854775807) :
    Calls Tryf.prog 4 #[.slice ao N c, .slice bo M cb, .int .i64 limit] w fun e w' => e = .returned (.bool true) ∧ Touch [] w w' := by
  have h1I : ¬ (524288 : Int) < (N : Int) := by omega
  have h2I : ¬ (65536 : Int) < (M : Int) := by omega
  have h3I : ¬ (limit : Int) < 0 := by omega
  have HB := hideP (fun (wx : World) => bytes12 (w := wx) (ao := ao) (c := c) (bo := bo) (cb := cb) limit (by omega : N + M ≤ 1048576))
  have HC := hideP (clone_any hA (by omega))
  have ENV := hideP env
  have HU := hideP hu
  have HO := hideP hO
  clear env hA hu hO
  go_enter Tryf.func4, Tryf.ntmps4
  go_wp2_with fail
  refine (HB.out w).mono ?_
  rintro e w' ⟨rfl, rfl⟩
  clear HB
  go_wp2_with fail
  refine HC.out.mono ?_
  rintro e w1 ⟨ac, rfl, hac, hS, ht1⟩
  have HS := hideP hS
  have HT1 := hideP ht1
  have HAC := hideP hac
  clear HC hS ht1 hac
  go_wp2_with fail
  refine (over_any2 HS.out).mono ?_
  rintro e w2 ⟨R, BR, BB, BY, rfl, hst, hR, hRn, hBs, ht2⟩
  have HRD := hideP (Rd.new (B := w.heap.size) HS.out hst hR hRn hBs ht2 HT1.out.size)
  have HT2 := hideP (Touch.trans HT1.out ht2)
  clear hst hR hRn hBs ht2
  go_wp2
  go_loopg [8, 9] M (fun gk p ix wr => ∃ q m : Nat, p = .int .i64 q ∧ ix = .int .i64 m ∧ gk + m = M ∧ q ≤ N ∧ ScriptRel w wr R BR BB BY ac N f q)
  case atStart => exact ⟨0, 0, rfl, rfl, by omega, Nat.zero_le _, _, HRD.out, HT2.out.below (Nat.le_refl _) (by simp)⟩
  case round =>
    obtain ⟨q, m, rfl, rfl, hgm, hqN, FB, hrd, hbel⟩ := hrel
    have hm0 : (0 : Int) ≤ (m : Int) := by omega
    have hq0 : (0 : Int) ≤ (q : Int) := by omega
    have hqNI : (q : Int) ≤ (N : Int) := by omega
    clear HS HT1 HRD HT2
    by_cases hmN : ¬ m < M
    · obtain rfl : m = M := by omega
      have hmI : ¬ (m : Int) < (m : Int) := by omega
      have HBEL := hideP hbel
      clear hrd hbel
      go_wp2
      go_ret
      exact ⟨rfl, Touch.ofBelow HBEL.out⟩
    have hmM : m < M := by omega
    clear hmN
    have hmI : (m : Int) < (M : Int) := by omega
    obtain ⟨oa, hoa, hoc⟩ := HO.out m hmM
    subst hoa
    have hcell : wr.cell? (oa.add m) = some (.bool (g m)) := by rw [hbel.cell (p := oa.add m) (World.block_lt_of_cell? _ _ hoc)]; exact hoc
    obtain ⟨V, kk, st, cls, rn, k, tk, hnw, hcase, hsays⟩ := head_nw (fun t => f (q + t)) (N - q) limit w.heap.size q
    have hsrc : ∀ ad, (0 < N - q → ad = some ⟨w.heap.size, q, none⟩) → Bytes wr ad (N - q) w.heap.size q (fun t => f (q + t)) := fun ad had => by
      obtain ⟨r, v, i, hs, _⟩ := hrd.st
      exact ⟨had, fun t ht => by have := hs.src.cell (q + t) (by omega); rwa [Nat.zero_add] at this, fun t => HU.out _, by omega⟩
    have HH := hideP (fun ad cx had => hsays wr ad cx (hsrc ad had))
    have HN := hideP (next_any (ENV.out.below hbel) hrd hbel.size (by omega) hqN HU.out hl hnw)
    have HSK := hideP (skip_any (ENV.out.below hbel) hrd hbel.size hqN HU.out hl hnw)
    have HBEL := hideP hbel
    have HRD := hideP hrd
    have HNW := hideP hnw
    have hac := HAC.out
    have hop : ∀ b : Bool, g m = b ∨ g m = !b := fun b => by cases b <;> cases g m <;> simp
    clear hrd hbel hnw hsays hsrc hoc HAC HO
    rcases hcase with hA | hB | hC | hD
    · obtain ⟨hst0, rfl⟩ := hA
      have hsb : ((cls : Int) == 0) = false := beq_eq_false_iff_ne.2 (by omega)
      have hsn : ((cls : Int) != 0) = true := by rw [bne_iff_ne]; omega
      have hss : ((cls : Int) != (cls : Int)) = false := bne_self_eq_false _
      rcases hac with ⟨rfl, rfl⟩ | rfl
      · obtain rfl : q = 0 := by omega
        rcases hop true with hg | hg
        · rw [hg] at hcell
          clear HSK
          go_wp2_with fail
          refine (HH.out none 0 (by omega)).mono ?_
          rintro e w' ⟨rfl, rfl⟩
          clear HH
          go_wp2_with fail
          refine HN.out.mono ?_
          rintro e w3 ⟨ra, rc, er, FB', rfl, herr, hrd3, hne, hz, ht3, hF3⟩
          obtain ⟨rfl, rfl, rfl⟩ := hne hst0
          have hb3 : Below w.heap.size w w3 := HBEL.out.trans (ht3.below HBEL.out.size (fun k hk => HRD.out.bs k (by simp at hk ⊢; omega)))
          have HCL := hideP (class_any (ENV.out.below hb3) herr)
          have HB3 := hideP hb3
          have hnn := Go.Lib.run_eql_slice_nil (P := Tryf.prog) w3 22 5 none 0 0 0 0 Tryf.underlying22
          clear herr hrd3 hne hz ht3 hF3 hb3 HN HRD
          go_wp2_with fail
          refine HCL.out.mono ?_
          rintro e w' ⟨rfl, rfl⟩
          clear HCL
          go_wp2
          go_ret
          exact ⟨rfl, Touch.ofBelow HB3.out⟩
        · rw [hg] at hcell
          clear HN
          go_wp2_with fail
          refine (HH.out none 0 (by omega)).mono ?_
          rintro e w' ⟨rfl, rfl⟩
          clear HH
          go_wp2_with fail
          refine HSK.out.mono ?_
          rintro e w3 ⟨er, rfl, herr, hrd3, ht3⟩
          have hb3 : Below w.heap.size w w3 := HBEL.out.trans (ht3.below HBEL.out.size (fun k hk => HRD.out.bs k (by simp at hk ⊢; omega)))
          have HCL := hideP (class_any (ENV.out.below hb3) herr)
          have HB3 := hideP hb3
          clear herr hrd3 ht3 hb3 HSK HRD
          go_wp2_with fail
          refine HCL.out.mono ?_
          rintro e w' ⟨rfl, rfl⟩
          clear HCL
          go_wp2
          go_ret
          exact ⟨rfl, Touch.ofBelow HB3.out⟩
      · by_cases hqe : q = N
        · subst hqe
          rw [Nat.sub_self] at HH
          rcases hop true with hg | hg
          · rw [hg] at hcell
            clear HSK
            go_wp2_with fail
            refine (HH.out _ _ (by omega)).mono ?_
            rintro e w' ⟨rfl, rfl⟩
            clear HH
            go_wp2_with fail
            refine HN.out.mono ?_
            rintro e w3 ⟨ra, rc, er, FB', rfl, herr, hrd3, hne, hz, ht3, hF3⟩
            obtain ⟨rfl, rfl, rfl⟩ := hne hst0
            have hb3 : Below w.heap.size w w3 := HBEL.out.trans (ht3.below HBEL.out.size (fun k hk => HRD.out.bs k (by simp at hk ⊢; omega)))
            have HCL := hideP (class_any (ENV.out.below hb3) herr)
            have HB3 := hideP hb3
            have hnn := Go.Lib.run_eql_slice_nil (P := Tryf.prog) w3 22 5 none 0 0 0 0 Tryf.underlying22
            clear herr hrd3 hne hz ht3 hF3 hb3 HN HRD
            go_wp2_with fail
            refine HCL.out.mono ?_
            rintro e w' ⟨rfl, rfl⟩
            clear HCL
            go_wp2
            go_ret
            exact ⟨rfl, Touch.ofBelow HB3.out⟩
          · rw [hg] at hcell
            clear HN
            go_wp2_with fail
            refine (HH.out _ _ (by omega)).mono ?_
            rintro e w' ⟨rfl, rfl⟩
            clear HH
            go_wp2_with fail
            refine HSK.out.mono ?_
            rintro e w3 ⟨er, rfl, herr, hrd3, ht3⟩
            have hb3 : Below w.heap.size w w3 := HBEL.out.trans (ht3.below HBEL.out.size (fun k hk => HRD.out.bs k (by simp at hk ⊢; omega)))
            have HCL := hideP (class_any (ENV.out.below hb3) herr)
            have HB3 := hideP hb3
            clear herr hrd3 ht3 hb3 HSK HRD
            go_wp2_with fail
            refine HCL.out.mono ?_
            rintro e w' ⟨rfl, rfl⟩
            clear HCL
            go_wp2
            go_ret
            exact ⟨rfl, Touch.ofBelow HB3.out⟩
        · have hqlt : q < N := by omega
          rcases hop true with hg | hg
          · rw [hg] at hcell
            clear HSK
            go_wp2_with fail
            refine (HH.out _ _ (fun _ => rfl)).mono ?_
            rintro e w' ⟨rfl, rfl⟩
            clear HH
            go_wp2_with fail
            refine HN.out.mono ?_
            rintro e w3 ⟨ra, rc, er, FB', rfl, herr, hrd3, hne, hz, ht3, hF3⟩
            obtain ⟨rfl, rfl, rfl⟩ := hne hst0
            have hb3 : Below w.heap.size w w3 := HBEL.out.trans (ht3.below HBEL.out.size (fun k hk => HRD.out.bs k (by simp at hk ⊢; omega)))
            have HCL := hideP (class_any (ENV.out.below hb3) herr)
            have HB3 := hideP hb3
            have hnn := Go.Lib.run_eql_slice_nil (P := Tryf.prog) w3 22 5 none 0 0 0 0 Tryf.underlying22
            clear herr hrd3 hne hz ht3 hF3 hb3 HN HRD
            go_wp2_with fail
            refine HCL.out.mono ?_
            rintro e w' ⟨rfl, rfl⟩
            clear HCL
            go_wp2
            go_ret
            exact ⟨rfl, Touch.ofBelow HB3.out⟩
          · rw [hg] at hcell
            clear HN
            go_wp2_with fail
            refine (HH.out _ _ (fun _ => rfl)).mono ?_
            rintro e w' ⟨rfl, rfl⟩
            clear HH
            go_wp2_with fail
            refine HSK.out.mono ?_
            rintro e w3 ⟨er, rfl, herr, hrd3, ht3⟩
            have hb3 : Below w.heap.size w w3 := HBEL.out.trans (ht3.below HBEL.out.size (fun k hk => HRD.out.bs k (by simp at hk ⊢; omega)))
            have HCL := hideP (class_any (ENV.out.below hb3) herr)
            have HB3 := hideP hb3
            clear herr hrd3 ht3 hb3 HSK HRD
            go_wp2_with fail
            refine HCL.out.mono ?_
            rintro e w' ⟨rfl, rfl⟩
            clear HCL
            go_wp2
            go_ret
            exact ⟨rfl, Touch.ofBelow HB3.out⟩
    · obtain ⟨rfl, hk0, hkn, hlV, hVu, rfl⟩ := hB
      have hst0 : (3 : Nat) ≠ 0 := by omega
      have hqlt : q < N := by omega
      have hlVI : (limit : Int) < (V : Int) := by omega
      rcases hac with ⟨rfl, rfl⟩ | rfl
      · omega
      rcases hop true with hg | hg
      · rw [hg] at hcell
        clear HSK
        go_wp2_with fail
        refine (HH.out _ _ (fun _ => rfl)).mono ?_
        rintro e w' ⟨rfl, rfl⟩
        clear HH
        go_wp2_with fail
        refine HN.out.mono ?_
        rintro e w3 ⟨ra, rc, er, FB', rfl, herr, hrd3, hne, hz, ht3, hF3⟩
        obtain ⟨rfl, rfl, rfl⟩ := hne hst0
        have hb3 : Below w.heap.size w w3 := HBEL.out.trans (ht3.below HBEL.out.size (fun k hk => HRD.out.bs k (by simp at hk ⊢; omega)))
        have HCL := hideP (class_any (ENV.out.below hb3) herr)
        have HB3 := hideP hb3
        have hnn := Go.Lib.run_eql_slice_nil (P := Tryf.prog) w3 22 5 none 0 0 0 0 Tryf.underlying22
        clear herr hrd3 hne hz ht3 hF3 hb3 HN HRD
        go_wp2_with fail
        refine HCL.out.mono ?_
        rintro e w' ⟨rfl, rfl⟩
        clear HCL
        go_wp2
        go_ret
        exact ⟨rfl, Touch.ofBelow HB3.out⟩
      · rw [hg] at hcell
        clear HN
        go_wp2_with fail
        refine (HH.out _ _ (fun _ => rfl)).mono ?_
        rintro e w' ⟨rfl, rfl⟩
        clear HH
        go_wp2_with fail
        refine HSK.out.mono ?_
        rintro e w3 ⟨er, rfl, herr, hrd3, ht3⟩
        have hb3 : Below w.heap.size w w3 := HBEL.out.trans (ht3.below HBEL.out.size (fun k hk => HRD.out.bs k (by simp at hk ⊢; omega)))
        have HCL := hideP (class_any (ENV.out.below hb3) herr)
        have HB3 := hideP hb3
        clear herr hrd3 ht3 hb3 HSK HRD
        go_wp2_with fail
        refine HCL.out.mono ?_
        rintro e w' ⟨rfl, rfl⟩
        clear HCL
        go_wp2
        go_ret
        exact ⟨rfl, Touch.ofBelow HB3.out⟩
    · obtain ⟨rfl, hk0, hkn, hlV, hnV, rfl⟩ := hC
      have hst0 : (2 : Nat) ≠ 0 := by omega
      have hqlt : q < N := by omega
      have hlVI : ¬ (limit : Int) < (V : Int) := by omega
      have hkI : (kk : Int) ≤ (N : Int) - (q : Int) := by omega
      have hkI0 : (0 : Int) < (kk : Int) := by omega
      have hnVI : (N : Int) - (q : Int) - (kk : Int) < (V : Int) := by omega
      rcases hac with ⟨rfl, rfl⟩ | rfl
      · omega
      rcases hop true with hg | hg
      · rw [hg] at hcell
        clear HSK
        go_wp2_with fail
        refine (HH.out _ _ (fun _ => rfl)).mono ?_
        rintro e w' ⟨rfl, rfl⟩
        clear HH
        go_wp2_with fail
        refine HN.out.mono ?_
        rintro e w3 ⟨ra, rc, er, FB', rfl, herr, hrd3, hne, hz, ht3, hF3⟩
        obtain ⟨rfl, rfl, rfl⟩ := hne hst0
        have hb3 : Below w.heap.size w w3 := HBEL.out.trans (ht3.below HBEL.out.size (fun k hk => HRD.out.bs k (by simp at hk ⊢; omega)))
        have HCL := hideP (class_any (ENV.out.below hb3) herr)
        have HB3 := hideP hb3
        have hnn := Go.Lib.run_eql_slice_nil (P := Tryf.prog) w3 22 5 none 0 0 0 0 Tryf.underlying22
        clear herr hrd3 hne hz ht3 hF3 hb3 HN HRD
        go_wp2_with fail
        refine HCL.out.mono ?_
        rintro e w' ⟨rfl, rfl⟩
        clear HCL
        go_wp2
        go_ret
        exact ⟨rfl, Touch.ofBelow HB3.out⟩
      · rw [hg] at hcell
        clear HN
        go_wp2_with fail
        refine (HH.out _ _ (fun _ => rfl)).mono ?_
        rintro e w' ⟨rfl, rfl⟩
        clear HH
        go_wp2_with fail
        refine HSK.out.mono ?_
        rintro e w3 ⟨er, rfl, herr, hrd3, ht3⟩
        have hb3 : Below w.heap.size w w3 := HBEL.out.trans (ht3.below HBEL.out.size (fun k hk => HRD.out.bs k (by simp at hk ⊢; omega)))
        have HCL := hideP (class_any (ENV.out.below hb3) herr)
        have HB3 := hideP hb3
        clear herr hrd3 ht3 hb3 HSK HRD
        go_wp2_with fail
        refine HCL.out.mono ?_
        rintro e w' ⟨rfl, rfl⟩
        clear HCL
        go_wp2
        go_ret
        exact ⟨rfl, Touch.ofBelow HB3.out⟩
    · obtain ⟨rfl, hk0, hkn, hlV, hnV, rfl, rfl, rfl, rfl⟩ := hD
      have hqlt : q < N := by omega
      have hlVI : ¬ (limit : Int) < (rn : Int) := by omega
      have hkI : (k : Int) ≤ (N : Int) - (q : Int) := by omega
      have hkI0 : (0 : Int) < (k : Int) := by omega
      have hnVI : ¬ (N : Int) - (q : Int) - (k : Int) < (rn : Int) := by omega
      have hrn0 : (0 : Int) ≤ (rn : Int) := by omega
      have hNI : (N : Int) ≤ 524288 := by omega
      have hend : (q : Int) + (k : Int) + (rn : Int) ≤ (N : Int) := by omega
      rcases hac with ⟨rfl, rfl⟩ | rfl
      · omega
      rcases hop true with hg | hg
      · rw [hg] at hcell
        clear HSK
        by_cases hsN : q + k = N
        · obtain rfl : rn = 0 := by omega
          have hsNI : (q : Int) + (k : Int) = (N : Int) := by omega
          go_wp2_with fail
          refine (HH.out _ _ (fun _ => rfl)).mono ?_
          rintro e w' ⟨rfl, rfl⟩
          clear HH
          go_wp2_with fail
          refine HN.out.mono ?_
          rintro e w3 ⟨ra, rc, er, FB', rfl, herr, hrd3, hne, hz, ht3, hF3⟩
          obtain ⟨hz1, hz2, hz3⟩ := hz rfl
          have hb3 : Below w.heap.size w w3 := HBEL.out.trans (ht3.below HBEL.out.size (fun k hk => HRD.out.bs k (by simp at hk ⊢; omega)))
          have HCL := hideP (class_any (ENV.out.below hb3) herr)
          have HB3 := hideP hb3
          have HRD3 := hideP hrd3
          have HEQ := hideP (fun (a2 : Option Addr) (cx : Nat) (h2 : 0 < 0 → a2 = some ⟨w.heap.size, q + k, none⟩) => eq_same (w := w3) (n := 0) (c1 := rc) (c2 := cx) (h := fun t => f (q + k + t)) (by omega) hz1 h2 (fun t ht => by have := hz3 t ht; rw [Nat.zero_add]; exact this) (fun t ht => by
            obtain ⟨r3, v3, i3, hs3, _⟩ := HRD3.out.st
            have := hs3.src.cell (q + k + t) (by omega)
            rw [Nat.zero_add] at this; exact this))
          clear herr hrd3 hne hz ht3 hF3 hb3 HN HRD hz1 hz2 hz3
          go_wp2_with fail
          refine HCL.out.mono ?_
          rintro e w' ⟨rfl, rfl⟩
          clear HCL
          go_wp2_with fail
          refine (HEQ.out _ _ (by omega)).mono ?_
          rintro e w4 ⟨rfl, d, rfl⟩
          clear HEQ
          go_wp2
          go_roundg (gk - 1)
          case measure => omega
          case rel => exact ⟨q + (k + 0), m + 1, by go_num, by go_num, by omega, by omega, _, Rd.drawn HRD3.out, HB3.out.trans ((Touch.refl [] w3).drewN d |>.below HB3.out.size (by simp))⟩
        · have hsNI : (q : Int) + (k : Int) < (N : Int) := by omega
          have hsNn : ¬ N = q + k := fun e => hsN e.symm
          go_wp2_with fail
          refine (HH.out _ _ (fun _ => rfl)).mono ?_
          rintro e w' ⟨rfl, rfl⟩
          clear HH
          go_wp2_with fail
          refine HN.out.mono ?_
          rintro e w3 ⟨ra, rc, er, FB', rfl, herr, hrd3, hne, hz, ht3, hF3⟩
          obtain ⟨hz1, hz2, hz3⟩ := hz rfl
          have hb3 : Below w.heap.size w w3 := HBEL.out.trans (ht3.below HBEL.out.size (fun k hk => HRD.out.bs k (by simp at hk ⊢; omega)))
          have HCL := hideP (class_any (ENV.out.below hb3) herr)
          have HB3 := hideP hb3
          have HRD3 := hideP hrd3
          have HEQ := hideP (fun (a2 : Option Addr) (cx : Nat) (h2 : 0 < rn → a2 = some ⟨w.heap.size, q + k, none⟩) => eq_same (w := w3) (n := rn) (c1 := rc) (c2 := cx) (h := fun t => f (q + k + t)) (by omega) hz1 h2 (fun t ht => by have := hz3 t ht; rw [Nat.zero_add]; exact this) (fun t ht => by
            obtain ⟨r3, v3, i3, hs3, _⟩ := HRD3.out.st
            have := hs3.src.cell (q + k + t) (by omega)
            rw [Nat.zero_add] at this; exact this))
          clear herr hrd3 hne hz ht3 hF3 hb3 HN HRD hz1 hz2 hz3
          go_wp2_with fail
          refine HCL.out.mono ?_
          rintro e w' ⟨rfl, rfl⟩
          clear HCL
          go_wp2_with fail
          refine (HEQ.out _ _ (fun _ => rfl)).mono ?_
          rintro e w4 ⟨rfl, d, rfl⟩
          clear HEQ
          go_wp2
          go_roundg (gk - 1)
          case measure => omega
          case rel => exact ⟨q + (k + rn), m + 1, by go_num, by go_num, by omega, by omega, _, Rd.drawn HRD3.out, HB3.out.trans ((Touch.refl [] w3).drewN d |>.below HB3.out.size (by simp))⟩
      · rw [hg] at hcell
        clear HN
        go_wp2_with fail
        refine (HH.out _ _ (fun _ => rfl)).mono ?_
        rintro e w' ⟨rfl, rfl⟩
        clear HH
        go_wp2_with fail
        refine HSK.out.mono ?_
        rintro e w3 ⟨er, rfl, herr, hrd3, ht3⟩
        have hb3 : Below w.heap.size w w3 := HBEL.out.trans (ht3.below HBEL.out.size (fun k hk => HRD.out.bs k (by simp at hk ⊢; omega)))
        have HCL := hideP (class_any (ENV.out.below hb3) herr)
        have HB3 := hideP hb3
        have HRD3 := hideP hrd3
        clear herr hrd3 ht3 hb3 HSK HRD
        go_wp2_with fail
        refine HCL.out.mono ?_
        rintro e w' ⟨rfl, rfl⟩
        clear HCL
        go_wp2
        go_roundg (gk - 1)
        case measure => omega
        case rel => exact ⟨q + (k + rn), m + 1, by go_num, by go_num, by omega, by omega, _, HRD3.out, HB3.out⟩
end
end Go.Proofs.Qxb6614532aFmt
