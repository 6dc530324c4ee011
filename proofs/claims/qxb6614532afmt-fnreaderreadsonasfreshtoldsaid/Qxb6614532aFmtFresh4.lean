import Derived.Test.Qxb6614532aFmtFresh3
namespace Go.Proofs.Qxb6614532aFmt
open Go.RowKit Go.Stop
set_option linter.unusedVariables false
section
variable {F : Interp} {B : Nat} {w w0 w1 w2 : World} {R BR BB BY N c bS oS limit limit2 wn wk wc : Nat} {ao : Option Addr} {f : Nat → Nat} {aE aU aT : Addr}

set_option maxRecDepth 100000 in
set_option maxHeartbeats 2000000 in
/-- The first field is whole: the second is read as a fresh reader reads it. -/
theorem fresh_ok_end {V kk cls2 rn2 k2 tk2 : Nat} (env : Env F w.heap.size w aE aU aT) (hA : Arg w ao N c f) (hn : N ≤ 1048576) (hu : ∀ t, f t < 256) (hl : limit ≤ 9223372036854775807)
    (hl2 : limit2 ≤ 9223372036854775807) (hV : V ≤ limit) (hk0 : 0 < kk) (hkN : kk + V ≤ N) (hm : kk + V = N) (hV1 : 0 < V) (hw : NW (fun t => f (0 + t)) (N - 0) limit 0 V kk (kk + V)) (hw2 : NW (fun t => f (kk + V + t)) (N - (kk + V)) limit2 cls2 rn2 k2 tk2)
    (hh : ∀ (wx : World) (ad : Option Addr) (cx : Nat), Bytes wx ad N w.heap.size 0 f → Calls Tryf.prog 13 #[.slice ad N cx] wx fun e w' => e = .returned (.tuple #[.int .u64 V, .int .i64 kk, .int .i64 0]) ∧ wx = w') :
    Calls Tryf.prog 5 #[.slice ao N c, .int .i64 limit, .int .i64 limit2] w fun e w' => e = .returned (.bool true) ∧ Touch [] w w' := by
  subst hm
  have h1 : ¬ (1048576 : Int) < ((kk + V : Nat) : Int) := by omega
  have h2 : ¬ (limit : Int) < 0 := by omega
  have h3 : ¬ (limit2 : Int) < 0 := by omega
  have HB := hideP (fun (wx : World) => bytes17 (w := wx) (ao := ao) (c := c) limit limit2 hn)
  have HC := hideP (clone_any hA hn)
  have ENV := hideP env
  have HU := hideP hu
  have HH := hideP hh
  have HW := hideP hw
  have HW2 := hideP hw2
  have hnn := fun wx => Go.Lib.run_eql_slice_nil (P := Tryf.prog) wx 22 5 none 0 0 0 0 Tryf.underlying22
  have hVl : ¬ (limit : Int) < (V : Int) := by omega
  have hkI : (0 : Int) < (kk : Int) := by omega
  have hkV : (kk : Int) + (V : Int) ≤ ((kk + V : Nat) : Int) := by omega
  have hNI : ((kk + V : Nat) : Int) ≤ 1048576 := by omega
  have hVn : ¬ ((kk + V : Nat) : Int) - (kk : Int) < (V : Int) := by omega
  have hV0 : (0 : Int) ≤ (V : Int) := by omega
  clear env hA hu hh hw hw2
  go_enter Tryf.func5, Tryf.ntmps5
  go_wp2_with fail
  refine (HB.out w).mono ?_
  rintro e w' ⟨rfl, rfl⟩
  clear HB
  go_wp2_with fail
  refine HC.out.mono ?_
  rintro e w1 ⟨ac, rfl, hac, hS, ht1⟩
  have HS := hideP hS
  have HT1 := hideP ht1
  obtain rfl := hS.adr (by omega)
  clear HC hS ht1 hac
  go_wp2_with fail
  refine (over_any2 HS.out).mono ?_
  rintro e w2 ⟨R, BR, BB, BY, rfl, hst, hR, hRn, hBs, ht2⟩
  have HRD := hideP (Rd.new (B := w.heap.size) HS.out hst hR hRn hBs ht2 HT1.out.size)
  have HT2 := hideP (Touch.trans HT1.out ht2)
  clear hst hR hRn hBs ht2
  have hb2 : Below w.heap.size w w2 := HT2.out.below (Nat.le_refl _) (by simp)
  have HN := hideP (next_any (ENV.out.below hb2) HRD.out hb2.size hn (Nat.zero_le _) HU.out hl HW.out)
  clear hb2
  go_wp2_with fail
  refine HN.out.mono ?_
  rintro e w3 ⟨ra, rc, er, FB', rfl, herr, hrd3, _, hz, ht3, hF3⟩
  obtain ⟨hz1, hz2, hz3⟩ := hz rfl
  rw [Nat.zero_add] at hrd3
  have hz3' : ∀ t, t < V → w3.cell? ⟨FB', 0 + t, none⟩ = some (.int .u8 (f (kk + t))) := fun t ht => by have := hz3 t ht; rw [Nat.zero_add] at this ⊢; exact this
  have hb3 : Below w.heap.size w w3 := (HT2.out.below (Nat.le_refl _) (by simp)).trans (ht3.below HT2.out.size (fun k hk => HRD.out.bs k (by simp at hk ⊢; omega)))
  have HCL := hideP (class_any (ENV.out.below hb3) herr)
  obtain ⟨r3, v3, i3, hst3, _⟩ := hrd3.st
  have hsrc3 := hst3.src
  have hby : Bytes w3 (some ⟨w.heap.size, 0, none⟩) (kk + V) w.heap.size 0 f := ⟨fun _ => rfl, fun t ht => hsrc3.cell t ht, HU.out, hn⟩
  have HHD := hideP (HH.out w3 (some ⟨w.heap.size, 0, none⟩) (kk + V) hby)
  have HB3 := hideP hb3
  have HRD3 := hideP hrd3
  have HSRC3 := hideP hsrc3
  have HEQ := hideP (fun (a2 : Option Addr) (cx : Nat) (h2 : 0 < V → a2 = some ⟨w.heap.size, kk, none⟩) => eq_same (w := w3) (n := V) (c1 := rc) (c2 := cx) (h := fun t => f (kk + t)) (by omega) hz1 h2 hz3' (fun t ht => by have := hsrc3.cell (kk + t) (by omega); rw [Nat.zero_add] at this; exact this))
  clear herr hrd3 hz ht3 hF3 hb3 hst3 hby HN HRD hz1 hz3 hz3' hsrc3 HW HS HT1 HT2
  go_wp2_with fail
  refine HCL.out.mono ?_
  rintro e w' ⟨rfl, rfl⟩
  go_wp2_with fail
  refine HHD.out.mono ?_
  rintro e w' ⟨rfl, rfl⟩
  clear HHD HCL
  go_wp2_with fail
  refine (HEQ.out _ _ (fun _ => rfl)).mono ?_
  rintro e w4 ⟨rfl, d, rfl⟩
  have hb4 : Below w.heap.size w (w3.drewN d) := HB3.out.trans ((Touch.refl [] w3).drewN d |>.below HB3.out.size (by simp))
  have HN2 := hideP (next_any (ENV.out.below hb4) (Rd.drewN (d := d) HRD3.out) hb4.size hn hkN HU.out hl2 HW2.out)
  have HB4 := hideP hb4
  clear hb4 HEQ
  go_wp2_with fail
  refine HN2.out.mono ?_
  rintro e w5 ⟨ra2, rc2, er2, FB2, rfl, herr2, hrd5, hne2, hz5, ht5, hF5⟩
  have hb5 : Below w.heap.size w w5 := HB4.out.trans (ht5.below HB4.out.size (fun k hk => HRD3.out.bs k (by simp at hk ⊢; omega)))
  obtain ⟨r5, v5, i5, hst5, _⟩ := hrd5.st
  have hsrc5 := hst5.src
  have HSRC := hideP (fun (ad : Option Addr) (cx : Nat) (h1 : 0 < 0 → ad = some ⟨w.heap.size, kk + V, none⟩) (h2 : 0 ≤ cx) => (⟨h1, fun j hj => by have := hsrc5.cell (kk + V + j) (by omega); rw [Nat.zero_add] at this; exact this, h2, by omega⟩ : Src w5 ad 0 cx w.heap.size (kk + V) (fun t => f (kk + V + t))))
  have HB5 := hideP hb5
  have HE2 := hideP herr2
  have HNE := hideP hne2
  have HZ5 := hideP hz5
  clear hrd5 hst5 hsrc5 hb5 herr2 hne2 hz5 ht5 hF5 HN2
  go_wp2_with fail
  have hsr := HSRC.out (some ⟨w.heap.size, 0, none⟩) 0 (by omega) (Nat.le_refl _)
  have HSR := hideP hsr
  refine (over_any2 hsr).mono ?_
  rintro e w6 ⟨R2, BR2, BB2, BY2, rfl, hst6, hR6, hRn6, hBs6, ht6⟩
  have HR6 := hideP (Rd.new (B := w.heap.size) HSR.out hst6 hR6 hRn6 hBs6 ht6 HB5.out.size)
  have hb6 : Below w.heap.size w w6 := HB5.out.trans (ht6.below HB5.out.size (by simp))
  have HT6 := hideP ht6
  have HBS6 := hideP hBs6
  have HN6 := hideP (next_any (ENV.out.below hb6) HR6.out hb6.size (by omega) (Nat.zero_le _) (fun t => HU.out _) hl2 (show NW (fun t => (fun t => f (kk + V + t)) (0 + t)) (0 - 0) limit2 cls2 rn2 k2 tk2 by have h := HW2.out; rw [Nat.sub_self] at h; simpa [Nat.zero_add] using h))
  have HB6 := hideP hb6
  clear hsr hst6 hR6 hRn6 hBs6 ht6 hb6
  go_wp2_with fail
  refine HN6.out.mono ?_
  rintro e w7 ⟨ra7, rc7, er7, FB7, rfl, herr7, hrd7, hne7, hz7, ht7, hF7⟩
  have hb7 : Below w.heap.size w w7 := HB6.out.trans (ht7.below HB6.out.size (fun k hk => HR6.out.bs k (by simp at hk ⊢; omega)))
  have t57 : Touch [BR2, BB2, BY2, R2, w6.heap.size] w5 w7 := (HT6.out.mono (by simp)).trans ht7
  have hlow : ∀ k, k < w5.heap.size → k ∉ [BR2, BB2, BY2, R2, w6.heap.size] := fun k hk hx => by
    have a1 := HBS6.out BR2 (by simp)
    have a2 := HBS6.out BB2 (by simp)
    have a3 := HBS6.out BY2 (by simp)
    have a4 := HBS6.out R2 (by simp)
    have a5 := HT6.out.size
    simp at hx
    omega
  have e2 := HE2.out.touch t57 hlow
  have HC2 := hideP (class_any (ENV.out.below hb7) e2)
  have HC7 := hideP (class_any (ENV.out.below hb7) herr7)
  have nwf := nw_facts HW2.out hl2
  have HEQ2 : Hid (Calls Tryf.prog 15 #[.slice ra2 rn2 rc2, .slice ra7 rn2 rc7] w7 fun e w' => e = .returned (.bool true) ∧ ∃ d, w' = w7.drewN d) := by
    by_cases hc : cls2 = 0
    · obtain ⟨y1, y2, y3⟩ := HZ5.out hc
      obtain ⟨z1, z2, z3⟩ := hz7 hc
      exact eq_same (b1 := FB2) (o1 := 0) (b2 := FB7) (o2 := 0) (h := fun t => f (kk + V + k2 + t)) (by omega) y1 z1 (fun t ht => by
        have h := y3 t ht
        rw [Nat.zero_add]
        exact t57.cell h (hlow _ (World.block_lt_of_cell? _ _ h))) (fun t ht => by
        have h := z3 t ht
        rw [Nat.zero_add]
        rw [h]
        show some (Value.int .u8 (f (kk + V + (0 + k2 + t)) : Nat)) = some (Value.int .u8 (f (kk + V + k2 + t) : Nat))
        congr 4; omega)
    · have := nwf.2.2.2.1 hc
      exact eq_same (b1 := 0) (o1 := 0) (b2 := 0) (o2 := 0) (h := fun t => 0) (by omega) (by omega) (by omega) (fun t ht => by omega) (fun t ht => by omega)
  have HB7 := hideP hb7
  have hcc : ((cls2 : Int) == (cls2 : Int)) = true := beq_self_eq_true _
  clear herr7 hrd7 hne7 hz7 ht7 hF7 hb7 t57 hlow e2 nwf HN6 HE2 HNE HZ5 HT6 HBS6 HR6 HSR HSRC
  go_wp2_with fail
  refine HC2.out.mono ?_
  rintro e w' ⟨rfl, rfl⟩
  go_wp2_with fail
  refine HC7.out.mono ?_
  rintro e w' ⟨rfl, rfl⟩
  go_wp2_with fail
  refine HEQ2.out.mono ?_
  rintro e w8 ⟨rfl, d8, rfl⟩
  go_wp2
  go_ret
  exact ⟨rfl, Touch.ofBelow (HB7.out.trans ((Touch.refl [] w7).drewN d8 |>.below HB7.out.size (by simp)))⟩
end
end Go.Proofs.Qxb6614532aFmt
