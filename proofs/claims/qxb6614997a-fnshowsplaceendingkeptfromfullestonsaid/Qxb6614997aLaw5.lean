import Derived.Test.Qxb6614997aShows
namespace Go.Proofs.Qxb6614997a
open Go.RowKit
variable {b off n c : Nat} {A : Nat → Option Addr} {L C bb oo : Nat → Nat} {X : Nat → Nat → Nat}

set_option maxHeartbeats 400000 in
theorem law5_zero (a : Option Addr) (p q r s : Int) (w : World) : Calls Try.prog 5 #[.int .i64 p, .int .i64 q, .int .i64 r, .int .i64 s, .slice a 0 c] w fun e w' => e = .returned (.bool true) ∧ Below w.heap.size w w' := by
  go_enter Try.func5, Try.ntmps5
  go_wp2_with (first | (go_at_call 14; go_in) | (go_at_call 7; refine (fit_zero a _).mono ?_; rintro e w' ⟨rfl, rfl⟩))
  refine wp_loop_rounds 1 ?_; rw [rounds_succ]
  go_wp2_with (go_at_call 7; refine (fit_zero a _).mono ?_; rintro e w' ⟨rfl, rfl⟩)
  go_ret
  exact ⟨rfl, Below.refl _ _⟩

/-- The world is as it was for a keyBlocks that lies below: what each pair of calls leaves. -/
structure Same (w0 w : World) (K B n G l x : Nat) (t : Int) : Prop where
  bel : Below w0.heap.size w0 w
  kb : KB w K 0 B n G l x
  ct : w.cell? ⟨K, 1, none⟩ = some (.int .i64 t)

theorem same_next {w0 w w' : World} {K B n G l x d : Nat} {t : Int} (h : Same w0 w K B n G l x t) (hb : Below w.heap.size w w') : Same w0 (w'.drewN d) K B n G l x t :=
  ⟨below_drewN (h.bel.trans (hb.mono h.bel.size)) _, kb_drew (kb_below h.kb hb), cell_later (below_drewN hb d) h.ct⟩

theorem shows_most (po mo : Int) : shows po mo mo = true := by simp [shows]
theorem shows_ge (po m mo : Int) (h : mo ≤ m) : shows po m mo = true := by simp [shows, h]
theorem shows_zero (m mo : Int) : shows 0 m mo = true := by simp [shows]
theorem shows_lt (po m mo : Int) (hp : ¬ po = 0) (h : m < mo) : shows po m mo = false := by simp [shows, hp]; omega

set_option maxHeartbeats 2000000 in
theorem law5_any (w : World) (po fi m mo : Int) (hm : -9223372036854775808 ≤ m ∧ m ≤ 9223372036854775807) (hmo : -9223372036854775808 ≤ mo ∧ mo ≤ 9223372036854775807) (h0 : 0 < n) (hn : n ≤ 9223372036854775807) (g : Grid w b off n A L C bb oo X) :
    Calls Try.prog 5 #[.int .i64 po, .int .i64 fi, .int .i64 m, .int .i64 mo, .slice (some ⟨b, off, none⟩) n c] w fun e w' => e = .returned (.bool true) ∧ Below w.heap.size w w' := by
  go_enter Try.func5, Try.ntmps5
  go_wp2_with fail
  refine (bytes14_any _ _ _ _ w hn g).mono ?_
  rintro e w' ⟨⟨v, rfl⟩, rfl⟩
  cases v
  · go_wp2
    go_ret
    exact ⟨rfl, Below.refl _ _⟩
  go_wp2_with fail
  refine (fit_any w hn h0 g).mono ?_
  rintro e w' ⟨hf | ⟨t, rfl, hn1, hL, _, hl1⟩, rfl⟩
  · obtain ⟨t, rfl⟩ := hf
    go_wp2
    go_ret
    exact ⟨rfl, Below.refl _ _⟩
  have hl2 := hL (n - 1) (by omega)
  go_wp2_with fail
  refine (newKeys_any w t h0 hn1 hL g).mono ?_
  rintro e w1 ⟨K, rfl, hK, hb1, hd, ht, xs, hr, hlast⟩
  obtain ⟨G, kb⟩ := kb_of h0 hn1 hl2 hl1 hd hr hlast
  have S1 : Same w w1 K w.heap.size n G (L (n - 1)) (X (n - 1) (L (n - 1) - 1)) t := ⟨hb1, kb, ht⟩
  generalize X (n - 1) (L (n - 1) - 1) = xx at *
  generalize L (n - 1) = ll at *
  generalize w.heap.size = BB at S1
  clear hd hr hlast kb ht hL hb1 hK hl1 hl2 g
  go_wp2_with fail
  refine (newPage_any S1.kb S1.ct po fi m mo).mono ?_
  rintro e w2 ⟨R, S, rfl, hb2, pr⟩
  go_wp2_with fail
  refine (zzshows_any pr).mono ?_
  rintro e w2 ⟨rfl, d, rfl⟩
  have S2 := same_next (d := d) S1 hb2
  clear S1 hb2 pr
  go_wp2_with fail
  refine (newPage_any S2.kb S2.ct po fi mo mo).mono ?_
  rintro e w3 ⟨R, S, rfl, hb3, pr⟩
  go_wp2_with fail
  refine (zzshows_any pr).mono ?_
  rintro e w3 ⟨rfl, d3, rfl⟩
  have S3 := same_next (d := d3) S2 hb3
  clear S2 hb3 pr
  rw [shows_most]
  by_cases hp : po = 0
  · subst hp
    rw [shows_zero]
    by_cases hlt : m < mo
    · go_wp2_with fail
      refine (newPage_any S3.kb S3.ct 0 fi mo mo).mono ?_
      rintro e w4 ⟨R, S, rfl, hb4, pr⟩
      go_wp2_with fail
      refine (zzshows_any pr).mono ?_
      rintro e w4 ⟨rfl, d4, rfl⟩
      have S4 := same_next (d := d4) S3 hb4
      rw [shows_zero]
      go_wp2
      go_ret
      exact ⟨rfl, S4.bel⟩
    · go_wp2_with fail
      refine (newPage_any S3.kb S3.ct 0 fi m mo).mono ?_
      rintro e w4 ⟨R, S, rfl, hb4, pr⟩
      go_wp2_with fail
      refine (zzshows_any pr).mono ?_
      rintro e w4 ⟨rfl, d4, rfl⟩
      have S4 := same_next (d := d4) S3 hb4
      rw [shows_zero]
      go_wp2
      go_ret
      exact ⟨rfl, S4.bel⟩
  have hpb : (po == 0) = false := beq_eq_false_iff_ne.2 hp
  have HP : Hid _ := hp
  clear hp
  by_cases hlt : m < mo
  · rw [shows_lt po m mo HP.out hlt]
    have hmin : (mo == -9223372036854775808) = false := beq_eq_false_iff_ne.2 (by omega)
    go_wp2_with fail
    refine (newPage_any S3.kb S3.ct po fi mo mo).mono ?_
    rintro e w4 ⟨R, S, rfl, hb4, pr⟩
    go_wp2_with fail
    refine (zzshows_any pr).mono ?_
    rintro e w4 ⟨rfl, d4, rfl⟩
    have S4 := same_next (d := d4) S3 hb4
    clear S3 hb4 pr
    rw [shows_most]
    go_wp2_with fail
    refine (newPage_any S4.kb S4.ct po fi (mo - 1) mo).mono ?_
    rintro e w5 ⟨R, S, rfl, hb5, pr⟩
    go_wp2_with fail
    refine (zzshows_any pr).mono ?_
    rintro e w5 ⟨rfl, d5, rfl⟩
    have S5 := same_next (d := d5) S4 hb5
    clear S4 hb5 pr
    rw [shows_lt po (mo - 1) mo HP.out (by omega)]
    by_cases hlt2 : m < mo - 1
    · go_wp2_with fail
      refine (newPage_any S5.kb S5.ct po fi (mo - 1) mo).mono ?_
      rintro e w6 ⟨R, S, rfl, hb6, pr⟩
      go_wp2_with fail
      refine (zzshows_any pr).mono ?_
      rintro e w6 ⟨rfl, d6, rfl⟩
      have S6 := same_next (d := d6) S5 hb6
      rw [shows_lt po (mo - 1) mo HP.out (by omega)]
      go_wp2
      go_ret
      exact ⟨rfl, S6.bel⟩
    · go_wp2_with fail
      refine (newPage_any S5.kb S5.ct po fi m mo).mono ?_
      rintro e w6 ⟨R, S, rfl, hb6, pr⟩
      go_wp2_with fail
      refine (zzshows_any pr).mono ?_
      rintro e w6 ⟨rfl, d6, rfl⟩
      have S6 := same_next (d := d6) S5 hb6
      rw [shows_lt po m mo HP.out (by omega)]
      go_wp2
      go_ret
      exact ⟨rfl, S6.bel⟩
  · rw [shows_ge po m mo (by omega)]
    go_wp2_with fail
    refine (newPage_any S3.kb S3.ct po fi m mo).mono ?_
    rintro e w4 ⟨R, S, rfl, hb4, pr⟩
    go_wp2_with fail
    refine (zzshows_any pr).mono ?_
    rintro e w4 ⟨rfl, d4, rfl⟩
    have S4 := same_next (d := d4) S3 hb4
    clear S3 hb4 pr
    rw [shows_ge po m mo (by omega)]
    by_cases hmi : mo = -9223372036854775808
    · have hmin : (mo == -9223372036854775808) = true := beq_iff_eq.2 hmi
      clear hmi
      go_wp2
      go_ret
      exact ⟨rfl, S4.bel⟩
    have hmin : (mo == -9223372036854775808) = false := beq_eq_false_iff_ne.2 hmi
    have hmo1 : -9223372036854775808 < mo := by omega
    clear hmi
    go_wp2_with fail
    refine (newPage_any S4.kb S4.ct po fi (mo - 1) mo).mono ?_
    rintro e w5 ⟨R, S, rfl, hb5, pr⟩
    go_wp2_with fail
    refine (zzshows_any pr).mono ?_
    rintro e w5 ⟨rfl, d5, rfl⟩
    have S5 := same_next (d := d5) S4 hb5
    clear S4 hb5 pr
    rw [shows_lt po (mo - 1) mo HP.out (by omega)]
    have hnl : ¬ m < mo - 1 := by omega
    go_wp2_with fail
    refine (newPage_any S5.kb S5.ct po fi m mo).mono ?_
    rintro e w6 ⟨R, S, rfl, hb6, pr⟩
    go_wp2_with fail
    refine (zzshows_any pr).mono ?_
    rintro e w6 ⟨rfl, d6, rfl⟩
    have S6 := same_next (d := d6) S5 hb6
    rw [shows_ge po m mo (by omega)]
    go_wp2
    go_ret
    exact ⟨rfl, S6.bel⟩
end Go.Proofs.Qxb6614997a
