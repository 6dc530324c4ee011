import Derived.Test.Qxb6614997aPut
namespace Go.Proofs.Qxb6614997a
open Go.RowKit
theorem Try.info33 : (Try.prog.info? 33).map (fun i => (i.zero, i.size, i.bytes)) = some (some (.slice none 0 0), 1, 24) := by kernel_rfl
theorem Try.info28 : (Try.prog.info? 28).map (fun i => (i.zero, i.size, i.bytes)) = some (some (.int .u64 0), 1, 8) := by kernel_rfl
variable {b off n c : Nat} {A : Nat → Option Addr} {L C bb oo : Nat → Nat} {X : Nat → Nat → Nat}

theorem ret_true {a : Bool} (h : a = true) : Ending.returned (.bool a) = .returned (.bool true) := by rw [h]

set_option maxRecDepth 100000 in
set_option maxHeartbeats 400000 in
theorem law4_zero (a : Option Addr) (p q x : Value) (w : World) : Calls Try.prog 4 #[.slice a 0 c, p, q, x] w fun e w' => e = .returned (.bool true) ∧ Below w.heap.size w w' := by
  go_enter Try.func4, Try.ntmps4
  go_wp2_with (first | (go_at_call 13; go_in) | (go_at_call 7; refine (fit_zero a _).mono ?_; rintro e w' ⟨rfl, rfl⟩))
  refine wp_loop_rounds 1 ?_; rw [rounds_succ]
  go_wp2_with (go_at_call 7; refine (fit_zero a _).mono ?_; rintro e w' ⟨rfl, rfl⟩)
  go_ret
  exact ⟨rfl, Below.refl _ _⟩

set_option maxRecDepth 100000 in
set_option maxHeartbeats 1000000 in
/-- The ways on which the law answers true at once, and the others. -/
theorem law4_any (w : World) (bi jj : Int) (x : Nat) (h0 : 0 < n) (hn : n ≤ 9223372036854775807) (g : Grid w b off n A L C bb oo X) :
    Calls Try.prog 4 #[.slice (some ⟨b, off, none⟩) n c, .int .i64 bi, .int .i64 jj, .int .u64 x] w fun e w' => e = .returned (.bool true) ∧ Below w.heap.size w w' := by
  obtain ⟨i0, hi, hz0, hz1, hz2⟩ := info_parts Try.info33
  obtain ⟨i1, gi, gz0, gz1, gz2⟩ := info_parts Try.info28
  go_enter Try.func4, Try.ntmps4
  go_wp2_with fail
  refine (bytes13_any _ _ _ w hn g).mono ?_
  rintro e w' ⟨⟨v, rfl⟩, rfl⟩
  cases v
  · go_wp2
    go_ret
    exact ⟨rfl, Below.refl _ _⟩
  go_wp2_with fail
  refine (fit_any w hn h0 g).mono ?_
  rintro e w' ⟨hf | ⟨t, rfl, hn1, hL, _, hl1⟩, rfl⟩
  · obtain ⟨t, rfl⟩ := hf
    go_wp2
    go_ret
    exact ⟨rfl, Below.refl _ _⟩
  by_cases hb0 : bi < 0
  · go_wp2
    go_ret
    exact ⟨rfl, Below.refl _ _⟩
  obtain ⟨k0, rfl⟩ := Int.eq_ofNat_of_zero_le (by omega : 0 ≤ bi)
  by_cases hb1 : (n : Int) ≤ (k0 : Int)
  · go_wp2
    go_ret
    exact ⟨rfl, Below.refl _ _⟩
  have hkn : k0 < n := by omega
  have ct := g.top k0 hkn
  by_cases hj0 : jj < 0
  · go_wp2
    go_ret
    exact ⟨rfl, Below.refl _ _⟩
  obtain ⟨j0, rfl⟩ := Int.eq_ofNat_of_zero_le (by omega : 0 ≤ jj)
  by_cases hj1 : (L k0 : Int) < (j0 : Int)
  · go_wp2
    go_ret
    exact ⟨rfl, Below.refl _ _⟩
  by_cases hl8 : (8192 : Int) ≤ (L k0 : Int)
  · go_wp2
    go_ret
    exact ⟨rfl, Below.refl _ _⟩
  have hjL : j0 ≤ L k0 := by omega
  have hL8 : L k0 < 8192 := by omega
  have hb0' : ¬ (k0 : Int) < 0 := hb0
  go_wp2_with (at_make; refine wpList_make_full _ rfl _ _ 22 rfl w.heap.size 33 i0 _ 1 Try.underlying22 hi hz0 hz1 .i64 .i64 n n n rfl rfl rfl rfl (by rw [hz2]; omega) (by unfold maxLen; omega) (Nat.le_refl _) ?_; intro w1 hown0 hgrow; obtain ⟨zs0, hown⟩ : ∃ zs, w1.ownsRow w.heap.size 33 1 (.slice (some ⟨w.heap.size, 0, none⟩) n n) n zs := ⟨_, hown0⟩; clear hown0)
  go_loopw [12] (fun i wr => ∃ k : Nat, k ≤ n ∧ i = .int .i64 k ∧ PutRel w wr n A L C X k0 j0 x k) (fun i _ => n - (intOf i).toNat)
  case atStart => exact ⟨0, Nat.zero_le _, rfl, (Below.refl _ _).grown hgrow (Nat.le_refl _) (by simp), 0, _, row_block hown, hown.1.trans (by omega), fun i hi => absurd hi (by omega), fun h => absurd h (by omega)⟩
  case round =>
    obtain ⟨k, hk, rfl, hrel⟩ := hrel
    clear hown hgrow hi hz0 hz1 hz2
    by_cases hlt : k < n
    · have hlt' : (k : Int) < (n : Int) := by omega
      have hk0 : (0 : Int) ≤ (k : Int) := by omega
      have gr := grid_below g h0 hrel.bel
      have hc1 := gr.top k hlt
      obtain ⟨hbel, CB, xs, hr, hl, hx, hc⟩ := id hrel
      obtain ⟨u, hu⟩ := hr.some k (by omega)
      have hc2 := (hr.cell k).trans hu
      have hf2 := hr.free k
      have hB := hr.lt
      by_cases hne : k = k0
      · subst hne
        obtain ⟨wo, rfl⟩ : ∃ wo, wo = wr := ⟨_, rfl⟩
        have hneb : ((k : Int) != (k : Int)) = false := by simp
        have hcl := grid_cells gr k hlt
        have hnu := gr.nul k hlt
        have hle := gr.len k hlt
        have HR : Hid _ := hrel
        have HC : Hid _ := hcl
        have HN : Hid _ := hnu
        clear hbel hr hl hx hc hu gr hrel g hL hcl hnu ct
        go_wp2_with (first
          | (at_make; refine wpList_make_own _ rfl _ _ 33 rfl wo.heap.size 28 i1 _ 1 Try.underlying33 gi gz0 gz1 .i64 .i64 _ (L k + 1) rfl rfl (by simp) (by rw [gz2]; omega) (by unfold maxLen; omega) (Nat.le_refl _) ?_; intro w2 hown2 hg2; have hb2 : Below wo.heap.size wo w2 := (Below.refl _ _).grown hg2 (Nat.le_refl _) (by simp); have h12 := cell_later hb2 hc1)
          | (at_builtin; refine wpList_append_fits_any _ rfl (.tmp 87) (.tmp 93) 33 rfl wo.heap.size 28 i1 1 Try.underlying33 gi gz1 wo.heap.size 0 (L k + 1) [] rfl hown2 _ j0 (C k) (rowL (X k) j0) rfl (by rw [rowL_len]; omega) (none_head HN.out hle.1 hjL) (cells_head HC.out hb2 hjL) (rowL_one _ _) (by omega) ?_; intro w3 hown3 hg3; simp only [Nat.zero_add, List.nil_append] at hown3; have hb3 : Below wo.heap.size wo w3 := hb2.grown hg3 hb2.size (by simp); have h13 := cell_later hb3 hc1)
          | (at_builtin; refine wpList_append_fits _ rfl (.tmp 95) (.tmp 97) 33 rfl wo.heap.size 28 i1 1 Try.underlying33 gi gz1 wo.heap.size _ (L k + 1) _ rfl (hown3.alloc _) ⟨w3.heap.size, 0, none⟩ 1 1 [.int .u64 x] rfl rfl (cell_one_new _ _ _) (by intro u hu; simp at hu; subst hu; rfl) (by omega) ?_; intro w4 hown4 hg4; have hb4 : Below wo.heap.size wo w4 := (hb3.alloc hb3.size _).grown hg4 (by have := hb3.size; simp; omega) (by simp); have h14 := cell_later hb4 hc1)
          | (at_builtin; refine wpList_append_fits_any _ rfl (.tmp 99) (.tmp 105) 33 rfl wo.heap.size 28 i1 1 Try.underlying33 gi gz1 wo.heap.size _ (L k + 1) _ rfl hown4 _ (L k - j0) (C k - j0) (rowL (fun t => X k (j0 + t)) (L k - j0)) rfl (by rw [rowL_len]; omega) (none_tail HN.out hle.1) (cells_tail HC.out hb4 hle.1) (rowL_one _ _) (by omega) ?_; intro w5 hown5 hg5; have hb5 : Below wo.heap.size wo w5 := hb4.grown hg5 hb4.size (by simp); have hc25 := cell_later hb5 hc2; have hf25 : w5.frozen? ⟨w.heap.size, k, none⟩ = false := (hb5.frozen (p := ⟨w.heap.size, k, none⟩) hB).trans hf2))
        go_roundw
        case rel => exact ⟨k + 1, by omega, by go_num, put_here hlt (by omega) HR.out hb5 (row_block' (by omega) hown5) (rowL_join X L k j0 x hjL)⟩
        case measure => simp [intOf]; omega
      · have hneb : ((k : Int) != (k0 : Int)) = true := by rw [bne_iff_ne]; omega
        have HS : Hid _ := put_other hlt hne hrel
        clear hbel hr hl hx hc hu gr hrel g hL
        go_wp2
        go_roundw
        case rel => exact ⟨k + 1, by omega, by go_num, HS.out⟩
        case measure => simp [intOf]; omega
    · obtain rfl : k = n := by omega
      obtain ⟨A', C', bb', oo', gp⟩ := put_grid h0 hkn g hrel hL8
      have gr := grid_below g h0 hrel.bel
      have HB0 : Hid _ := hrel.bel
      have hLp := putL_le hL hL8
      have hlp := putL_pos (k0 := k0) hl1
      have hl2 := hL (k - 1) (by omega)
      have hlp2 := hLp (k - 1) (by omega)
      have HH : Hid _ := g
      clear hrel g
      go_wp2_with fail
      refine (newKeys_any wr t h0 hn1 hL gr).mono ?_
      rintro e wa ⟨K1, rfl, _, hba, hd1, _, xs1, hr1, hlast1⟩
      obtain ⟨G1, kb1⟩ := kb_of h0 hn1 hl2 hl1 hd1 hr1 hlast1
      have gpa := grid_below gp h0 hba
      have gra := grid_below gr h0 hba
      clear hd1 hr1 hlast1 gp gr
      go_wp2_with fail
      refine (newKeys_any wa _ h0 hn1 hLp gpa).mono ?_
      rintro e wb ⟨K2, rfl, _, hbb, hd2, _, xs2, hr2, hlast2⟩
      obtain ⟨G2, kb2⟩ := kb_of h0 hn1 hlp2 hlp hd2 hr2 hlast2
      have kb1b := kb_below kb1 hbb
      have grb := grid_below gra h0 hbb
      clear hd2 hr2 hlast2 gra gpa kb1
      have HBel : Hid (Below w.heap.size w wb) := (HB0.out.trans (hba.mono HB0.out.size)).trans (hbb.mono (by have := HB0.out.size; have := hba.size; omega))
      clear hba hbb hLp hlp hlp2
      by_cases hin : k0 = k - 1
      · have hinb : ((k0 : Int) == (k : Int) - 1) = true := beq_iff_eq.2 (by omega)
        by_cases hje : j0 = L k0
        · have hjb : ((j0 : Int) == (L k0 : Int)) = true := beq_iff_eq.2 (by omega)
          obtain ⟨e1, e2⟩ := put_end (X := X) (x := x) hin hje
          clear hje
          rw [e1, e2] at kb2
          have ctb := grb.top k0 hkn
          have HG : Hid _ := grb
          have HL : Hid _ := hL
          clear e1 e2 grb hL hin
          go_wp2_with fail
          refine (zzlast_any kb1b).mono ?_
          rintro e w2 ⟨rfl, d1, rfl⟩
          go_wp2_with fail
          refine (zzlastPos_any (kb_drew kb1b)).mono ?_
          rintro e w2 ⟨rfl, rfl⟩
          go_wp2_with fail
          refine (zzlast_any (kb_drew kb2)).mono ?_
          rintro e w2 ⟨rfl, d2, rfl⟩
          go_wp2_with fail
          refine (zzlastPos_any (kb_drew kb2)).mono ?_
          rintro e w2 ⟨rfl, rfl⟩
          go_wp2_with fail
          refine (lastInOrder_any _ h0 hn1 HL.out hl1 (grid_drew HG.out)).mono ?_
          rintro e w2 ⟨rfl, rfl⟩
          clear kb2 kb1b
          go_wp2
          go_ret
          exact ⟨ret_true (by first | rfl | (refine beq_iff_eq.2 ?_; omega)), below_drewN HBel.out _⟩
        · have hjb : ((j0 : Int) == (L k0 : Int)) = false := beq_eq_false_iff_ne.2 (by omega)
          obtain ⟨e1, e2⟩ := put_mid (X := X) (x := x) (L := L) (j0 := j0) hin (by omega)
          clear hje
          rw [e1, e2] at kb2
          have ctb := grb.top k0 hkn
          have HG : Hid _ := grb
          have HL : Hid _ := hL
          clear e1 e2 grb hL hin
          go_wp2_with fail
          refine (zzlast_any kb1b).mono ?_
          rintro e w2 ⟨rfl, d1, rfl⟩
          go_wp2_with fail
          refine (zzlastPos_any (kb_drew kb1b)).mono ?_
          rintro e w2 ⟨rfl, rfl⟩
          go_wp2_with fail
          refine (zzlast_any (kb_drew kb2)).mono ?_
          rintro e w2 ⟨rfl, d2, rfl⟩
          go_wp2_with fail
          refine (zzlastPos_any (kb_drew kb2)).mono ?_
          rintro e w2 ⟨rfl, rfl⟩
          go_wp2_with fail
          refine (lastInOrder_any _ h0 hn1 HL.out hl1 (grid_drew HG.out)).mono ?_
          rintro e w2 ⟨rfl, rfl⟩
          clear kb2 kb1b
          go_wp2
          go_ret
          exact ⟨ret_true (by first | rfl | (refine beq_iff_eq.2 ?_; omega)), below_drewN HBel.out _⟩
      · have hinb : ((k0 : Int) == (k : Int) - 1) = false := beq_eq_false_iff_ne.2 (by omega)
        obtain ⟨e1, e2⟩ := put_off (X := X) (j0 := j0) (x := x) (L := L) hin
        rw [e1, e2] at kb2
        have ctb := grb.top k0 hkn
        have HG : Hid _ := grb
        have HL : Hid _ := hL
        clear e1 e2 grb hL hin
        go_wp2_with fail
        refine (zzlast_any kb1b).mono ?_
        rintro e w2 ⟨rfl, d1, rfl⟩
        go_wp2_with fail
        refine (zzlastPos_any (kb_drew kb1b)).mono ?_
        rintro e w2 ⟨rfl, rfl⟩
        go_wp2_with fail
        refine (zzlast_any (kb_drew kb2)).mono ?_
        rintro e w2 ⟨rfl, d2, rfl⟩
        go_wp2_with fail
        refine (zzlastPos_any (kb_drew kb2)).mono ?_
        rintro e w2 ⟨rfl, rfl⟩
        go_wp2_with fail
        refine (lastInOrder_any _ h0 hn1 HL.out hl1 (grid_drew HG.out)).mono ?_
        rintro e w2 ⟨rfl, rfl⟩
        clear kb2 kb1b
        go_wp2
        go_ret
        exact ⟨ret_true (by first | rfl | (refine beq_iff_eq.2 ?_; omega)), below_drewN HBel.out _⟩
end Go.Proofs.Qxb6614997a
