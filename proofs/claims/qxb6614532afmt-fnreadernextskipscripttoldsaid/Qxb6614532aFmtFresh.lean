import Derived.Test.Qxb6614532aFmtEq
import Derived.Test.Qxb6614532aFmtLaw
namespace Go.Proofs.Qxb6614532aFmt
open Go.RowKit Go.Stop
set_option linter.unusedVariables false
section
variable {F : Interp} {B : Nat} {w w0 w1 w2 : World} {R BR BB BY N c bS oS limit limit2 wn wk wc : Nat} {ao : Option Addr} {f : Nat → Nat} {aE aU aT : Addr}

theorem Rd.new (hS : Src w1 ao N c bS oS f) (hst : St w2 BR BB BY ao N c bS oS f 0 0 0 .nilIface) (hR : RowAt w2 R 52 [.pointer (some ⟨BR, 0, none⟩), .slice none 0 0]) (hn : R ∉ [BR, BB, BY]) (hbs : ∀ k ∈ [R, BR, BB, BY], w1.heap.size ≤ k) (ht : Touch [] w1 w2) (hB : B ≤ w1.heap.size) :
    Rd w2 B R BR BB BY ao N c bS oS f 0 w2.heap.size := by
  obtain ⟨l1, l2, l3, l4⟩ := hst.lts
  have l5 := hR.lt
  have hb : 0 < N → bS < w1.heap.size := fun hN => by
    have := World.block_lt_of_cell? _ _ (hS.cell 0 hN)
    simpa using this
  refine ⟨⟨0, 0, 0, hst, rfl⟩, ⟨none, 0, 0, [], hR, Nat.le_refl _, by omega, .inl ⟨rfl, rfl, rfl⟩⟩, by simp; omega, fun hN => by have := l4 hN; omega, hn, fun hN => by have := hb hN; have := hbs R (by simp); omega, fun k hk => ?_⟩
  simp at hk
  rcases hk with rfl | rfl | rfl | rfl | rfl
  · have := hbs _ (by simp : k ∈ [k, BR, BB, BY]); omega
  · have := hbs _ (by simp : k ∈ [R, k, BB, BY]); omega
  · have := hbs _ (by simp : k ∈ [R, BR, k, BY]); omega
  · have := hbs _ (by simp : k ∈ [R, BR, BB, k]); omega
  · have := ht.size; omega

set_option maxHeartbeats 1000000 in
theorem fresh_long (x y : Int) (hn : 1048576 < N) : Calls Tryf.prog 5 #[.slice ao N c, .int .i64 x, .int .i64 y] w fun e w' => e = .returned (.bool true) ∧ Touch [] w w' := by
  go_enter Tryf.func5, Tryf.ntmps5
  go_wp2_with fail
  refine (bytes17_no x y hn).mono ?_
  rintro e w' ⟨rfl, rfl⟩
  go_wp2
  go_ret
  exact ⟨rfl, Touch.refl _ _⟩
set_option maxHeartbeats 1000000 in
theorem fresh_neg (x y : Int) (hn : N ≤ 1048576) (h0 : x < 0 ∨ y < 0) : Calls Tryf.prog 5 #[.slice ao N c, .int .i64 x, .int .i64 y] w fun e w' => e = .returned (.bool true) ∧ Touch [] w w' := by
  have h1 : ¬ (1048576 : Int) < (N : Int) := by omega
  by_cases hx : x < 0
  · go_enter Tryf.func5, Tryf.ntmps5
    go_wp2_with fail
    refine (bytes17 x y hn).mono ?_
    rintro e w' ⟨rfl, rfl⟩
    go_wp2
    go_ret
    exact ⟨rfl, Touch.refl _ _⟩
  · have hy : y < 0 := by omega
    go_enter Tryf.func5, Tryf.ntmps5
    go_wp2_with fail
    refine (bytes17 x y hn).mono ?_
    rintro e w' ⟨rfl, rfl⟩
    go_wp2
    go_ret
    exact ⟨rfl, Touch.refl _ _⟩

set_option maxRecDepth 100000 in
set_option maxHeartbeats 2000000 in
/-- The first length is not whole: both say so. -/
theorem fresh_err {st : Nat} (env : Env F w.heap.size w aE aU aT) (hA : Arg w ao N c f) (hn : N ≤ 1048576) (hu : ∀ t, f t < 256) (hl : limit ≤ 9223372036854775807)
    (hw : Want (fun t => f (0 + t)) (N - 0) limit 0 0 st) (hst0 : st ≠ 0)
    (hh : ∀ (wx : World) (ad : Option Addr) (cx : Nat), Bytes wx ad N w.heap.size 0 f → Calls Tryf.prog 13 #[.slice ad N cx] wx fun e w' => e = .returned (.tuple #[.int .u64 0, .int .i64 0, .int .i64 st]) ∧ wx = w') :
    Calls Tryf.prog 5 #[.slice ao N c, .int .i64 limit, .int .i64 limit2] w fun e w' => e = .returned (.bool true) ∧ Touch [] w w' := by
  have h1 : ¬ (1048576 : Int) < (N : Int) := by omega
  have h2 : ¬ (limit : Int) < 0 := by omega
  have h3 : ¬ (limit2 : Int) < 0 := by omega
  have HB := hideP (fun (wx : World) => bytes17 (w := wx) (ao := ao) (c := c) limit limit2 hn)
  have HC := hideP (clone_any hA hn)
  have ENV := hideP env
  have HU := hideP hu
  have HH := hideP hh
  have HW := hideP hw
  have hnn := fun wx => Go.Lib.run_eql_slice_nil (P := Tryf.prog) wx 22 5 none 0 0 0 0 Tryf.underlying22
  have hsb : ((st : Int) == 0) = false := beq_eq_false_iff_ne.2 (by omega)
  have hsn : ((st : Int) != 0) = true := by rw [bne_iff_ne]; omega
  have hss : ((st : Int) == (st : Int)) = true := beq_self_eq_true _
  clear env hA hu hh hw
  go_enter Tryf.func5, Tryf.ntmps5
  go_wp2_with fail
  refine (HB.out w).mono ?_
  rintro e w' ⟨rfl, rfl⟩
  clear HB
  go_wp2_with fail
  refine HC.out.mono ?_
  rintro e w1 ⟨ac, rfl, hac, hS, ht1⟩
  have HS := hideP hS
  have HT1 := hideP ht1
  clear HC hS ht1 hac
  go_wp2_with fail
  refine (over_any2 HS.out).mono ?_
  rintro e w2 ⟨R, BR, BB, BY, rfl, hst, hR, hRn, hBs, ht2⟩
  have HRD := hideP (Rd.new (B := w.heap.size) HS.out hst hR hRn hBs ht2 HT1.out.size)
  have HT2 := hideP (Touch.trans HT1.out ht2)
  clear hst hR hRn hBs ht2
  have hb2 : Below w.heap.size w w2 := HT2.out.below (Nat.le_refl _) (by simp)
  have HN := hideP (next_err (ENV.out.below hb2) HRD.out hb2.size HU.out hl HW.out hst0 0)
  clear hb2
  go_wp2_with fail
  refine HN.out.mono ?_
  rintro e w3 ⟨ra, rc, er, FB', rfl, herr, hrd3, hz, _, ht3, hF3⟩
  obtain ⟨rfl, _, rfl⟩ := hz hst0
  have hb3 : Below w.heap.size w w3 := (HT2.out.below (Nat.le_refl _) (by simp)).trans (ht3.below HT2.out.size (fun k hk => HRD.out.bs k (by simp at hk ⊢; omega)))
  have HCL := hideP (class_any (ENV.out.below hb3) herr)
  obtain ⟨r3, v3, i3, hst3, _⟩ := hrd3.st
  have hby : Bytes w3 ac N w.heap.size 0 f := ⟨hst3.src.adr, fun t ht => hst3.src.cell t ht, HU.out, hn⟩
  have HHD := hideP (HH.out w3 ac N hby)
  have HB3 := hideP hb3
  clear herr hrd3 hz ht3 hF3 hb3 hst3 hby HN HRD
  go_wp2_with fail
  refine HCL.out.mono ?_
  rintro e w' ⟨rfl, rfl⟩
  go_wp2_with fail
  refine HHD.out.mono ?_
  rintro e w' ⟨rfl, rfl⟩
  clear HHD HCL
  go_wp2
  go_ret
  exact ⟨rfl, Touch.ofBelow HB3.out⟩
end
end Go.Proofs.Qxb6614532aFmt
