import Derived.Test.Qxb6614532aFmtFresh
namespace Go.Proofs.Qxb6614532aFmt
open Go.RowKit Go.Stop
set_option linter.unusedVariables false
section
variable {F : Interp} {B : Nat} {w w0 w1 w2 : World} {R BR BB BY N c bS oS limit limit2 wn wk wc : Nat} {ao : Option Addr} {f : Nat → Nat} {aE aU aT : Addr}

set_option maxRecDepth 100000 in
set_option maxHeartbeats 2000000 in
/-- The first length is whole, but too great, or its field is cut off: both say so. -/
theorem fresh_err2 {cls V kk : Nat} (env : Env F w.heap.size w aE aU aT) (hA : Arg w ao N c f) (hn : N ≤ 1048576) (hu : ∀ t, f t < 256) (hl : limit ≤ 9223372036854775807)
    (hV : V < 18446744073709551616) (hkN : kk ≤ N) (hcls : (limit < V ∧ cls = 3) ∨ (V ≤ limit ∧ N - kk < V ∧ cls = 2))
    (hN : ∀ (wx : World) (R BR BB BY FB : Nat) (ac : Option Addr), Below w.heap.size w wx → Rd wx w.heap.size R BR BB BY ac N N w.heap.size 0 f 0 FB → Calls Tryf.prog 14 #[.pointer (some ⟨R, 0, none⟩), .int .i64 limit] wx fun en w' => ∃ pos hd, NextPost wx w' w.heap.size R BR BB BY ac N N w.heap.size 0 f FB aE aU aT cls 0 pos hd en)
    (hh : ∀ (wx : World) (ad : Option Addr) (cx : Nat), Bytes wx ad N w.heap.size 0 f → Calls Tryf.prog 13 #[.slice ad N cx] wx fun e w' => e = .returned (.tuple #[.int .u64 V, .int .i64 kk, .int .i64 0]) ∧ wx = w') :
    Calls Tryf.prog 5 #[.slice ao N c, .int .i64 limit, .int .i64 limit2] w fun e w' => e = .returned (.bool true) ∧ Touch [] w w' := by
  have h1 : ¬ (1048576 : Int) < (N : Int) := by omega
  have h2 : ¬ (limit : Int) < 0 := by omega
  have h3 : ¬ (limit2 : Int) < 0 := by omega
  have HB := hideP (fun (wx : World) => bytes17 (w := wx) (ao := ao) (c := c) limit limit2 hn)
  have HC := hideP (clone_any hA hn)
  have ENV := hideP env
  have HU := hideP hu
  have HH := hideP hh
  have HNX := hideP hN
  have hst0 : cls ≠ 0 := by omega
  have hnn := fun wx => Go.Lib.run_eql_slice_nil (P := Tryf.prog) wx 22 5 none 0 0 0 0 Tryf.underlying22
  have hcl0 : (0 : Int) ≤ (V : Int) := by omega
  have hkk0 : (0 : Int) ≤ (N : Int) - (kk : Int) := by omega
  have hkk1 : (N : Int) - (kk : Int) ≤ 1048576 := by omega
  clear env hA hu hh hN
  go_enter Tryf.func5, Tryf.ntmps5
  go_wp2_with fail
  refine (HB.out w).mono ?_
  rintro e w' ⟨rfl, rfl⟩
  clear HB
  go_wp2_with fail
  refine HC.out.mono ?_
  rintro e w1 ⟨ac, rfl, hac, hS, ht1⟩
  have HS := hideP hS
  have HT1 := hideP ht1
  clear HC hS ht1 hac
  go_wp2_with fail
  refine (over_any2 HS.out).mono ?_
  rintro e w2 ⟨R, BR, BB, BY, rfl, hst, hR, hRn, hBs, ht2⟩
  have HRD := hideP (Rd.new (B := w.heap.size) HS.out hst hR hRn hBs ht2 HT1.out.size)
  have HT2 := hideP (Touch.trans HT1.out ht2)
  clear hst hR hRn hBs ht2
  have hb2 : Below w.heap.size w w2 := HT2.out.below (Nat.le_refl _) (by simp)
  have HN := hideP (HNX.out w2 R BR BB BY w2.heap.size ac hb2 HRD.out)
  clear hb2
  go_wp2_with fail
  refine HN.out.mono ?_
  rintro e w3 ⟨pos, hd, ra, rc, er, FB', rfl, herr, hrd3, hz, _, ht3, hF3⟩
  obtain ⟨rfl, _, rfl⟩ := hz hst0
  have hb3 : Below w.heap.size w w3 := (HT2.out.below (Nat.le_refl _) (by simp)).trans (ht3.below HT2.out.size (fun k hk => HRD.out.bs k (by simp at hk ⊢; omega)))
  have HCL := hideP (class_any (ENV.out.below hb3) herr)
  obtain ⟨r3, v3, i3, hst3, _⟩ := hrd3.st
  have hby : Bytes w3 ac N w.heap.size 0 f := ⟨hst3.src.adr, fun t ht => hst3.src.cell t ht, HU.out, hn⟩
  have HHD := hideP (HH.out w3 ac N hby)
  have HB3 := hideP hb3
  clear herr hrd3 hz ht3 hF3 hb3 hst3 hby HN HRD
  go_wp2_with fail
  refine HCL.out.mono ?_
  rintro e w' ⟨rfl, rfl⟩
  go_wp2_with fail
  refine HHD.out.mono ?_
  rintro e w' ⟨rfl, rfl⟩
  clear HHD HCL
  rcases hcls with ⟨h4, rfl⟩ | ⟨h4, h5, rfl⟩
  · have h4I : (limit : Int) < (V : Int) := by omega
    go_wp2
    go_ret
    exact ⟨rfl, Touch.ofBelow HB3.out⟩
  · have h4I : ¬ (limit : Int) < (V : Int) := by omega
    have h5I : (N : Int) - (kk : Int) < (V : Int) := by omega
    go_wp2
    go_ret
    exact ⟨rfl, Touch.ofBelow HB3.out⟩
end
end Go.Proofs.Qxb6614532aFmt
