import Derived.Test.Qxb6614997aLast
namespace Go.Proofs.Qxb6614997a
open Go.RowKit
variable {b off n c : Nat} {A : Nat → Option Addr} {L C bb oo : Nat → Nat} {X : Nat → Nat → Nat}

set_option maxHeartbeats 400000 in
theorem law3_zero (a : Option Addr) (w : World) : Calls Try.prog 3 #[.slice a 0 c] w fun e w' => e = .returned (.bool true) ∧ Below w.heap.size w w' := by
  go_enter Try.func3, Try.ntmps3
  go_wp2_with (first | (go_at_call 6; go_in) | (go_at_call 7; refine (fit_zero a _).mono ?_; rintro e w' ⟨rfl, rfl⟩))
  refine wp_loop_rounds 1 ?_; rw [rounds_succ]
  go_wp2_with (go_at_call 7; refine (fit_zero a _).mono ?_; rintro e w' ⟨rfl, rfl⟩)
  go_ret
  exact ⟨rfl, Below.refl _ _⟩

theorem kb_of {w w' : World} {K : Nat} {xs : List Value} (h0 : 0 < n) (hn : n ≤ 4096) (hl : L (n - 1) ≤ 8192) (h1 : 0 < L (n - 1))
    (hd : w'.cell? ⟨K, 0, none⟩ = some (.slice (some ⟨w.heap.size, 0, none⟩) n n)) (hr : RowAt w' w.heap.size 40 xs) (hlast : LastRow w' w.heap.size L X xs n) :
    ∃ G, KB w' K 0 w.heap.size n G (L (n - 1)) (X (n - 1) (L (n - 1) - 1)) := by
  obtain ⟨G, _, _, h2, h3⟩ := hlast h0
  exact ⟨G, hd, (hr.cell _).trans h2, h3 h1, h0, hn, h1, hl⟩

theorem kb_below {w w' : World} {K o B n G l x : Nat} (h : KB w K o B n G l x) (hb : Below w.heap.size w w') : KB w' K o B n G l x :=
  ⟨cell_later hb h.hd, cell_later hb h.row, cell_later hb h.key, h.n1, h.n2, h.l1, h.l2⟩
theorem kb_drew {w : World} {K o B n G l x d : Nat} (h : KB w K o B n G l x) : KB (w.drewN d) K o B n G l x := ⟨h.hd, h.row, h.key, h.n1, h.n2, h.l1, h.l2⟩
theorem grid_drew {w : World} {d : Nat} (g : Grid w b off n A L C bb oo X) : Grid (w.drewN d) b off n A L C bb oo X := ⟨g.top, g.len, g.adr, g.nul, g.cell⟩

set_option maxHeartbeats 1000000 in
theorem law3_any (w : World) (h0 : 0 < n) (hn : n ≤ 9223372036854775807) (g : Grid w b off n A L C bb oo X) :
    Calls Try.prog 3 #[.slice (some ⟨b, off, none⟩) n c] w fun e w' => e = .returned (.bool true) ∧ Below w.heap.size w w' := by
  go_enter Try.func3, Try.ntmps3
  go_wp2_with fail
  refine (bytes6_any w hn g).mono ?_
  rintro e w' ⟨⟨v, rfl⟩, rfl⟩
  cases v
  · go_wp2
    go_ret
    exact ⟨rfl, Below.refl _ _⟩
  go_wp2_with fail
  refine (fit_any w hn h0 g).mono ?_
  rintro e w' ⟨hf | ⟨t, rfl, hn1, hL, _, hl1⟩, rfl⟩
  · obtain ⟨t, rfl⟩ := hf
    go_wp2
    go_ret
    exact ⟨rfl, Below.refl _ _⟩
  have hl2 := hL (n - 1) (by omega)
  go_wp2_with fail
  refine (newKeys_any w t h0 hn1 hL g).mono ?_
  rintro e w1 ⟨K, rfl, hK, hb1, hd, _, xs, hr, hlast⟩
  obtain ⟨G, kb⟩ := kb_of h0 hn1 hl2 hl1 hd hr hlast
  have g1 := grid_below g h0 hb1
  clear hd hr hlast
  go_wp2_with fail
  refine (zzlast_any kb).mono ?_
  rintro e w2 ⟨rfl, d, rfl⟩
  go_wp2_with fail
  refine (zzlastPos_any (kb_drew kb)).mono ?_
  rintro e w2 ⟨rfl, rfl⟩
  go_wp2_with fail
  refine (posLast_any _ h0 hn1 hl2 (grid_drew g1)).mono ?_
  rintro e w2 ⟨rfl, rfl⟩
  have e1 : (((n : Int) - 1) * 8192 + (L (n - 1) : Int) - 1) / 8192 = (n : Int) - 1 := by omega
  have e2 : (((n : Int) - 1) * 8192 + (L (n - 1) : Int) - 1) % 8192 = (L (n - 1) : Int) - 1 := by omega
  have e3 : (0 : Int) ≤ ((n : Int) - 1) * 8192 + (L (n - 1) : Int) - 1 := by omega
  go_wp2_with fail
  refine (lastInOrder_any _ h0 hn1 hL hl1 (grid_drew g1)).mono ?_
  rintro e w2 ⟨rfl, rfl⟩
  have c1 : w1.cell? ⟨b, off + (n - 1), none⟩ = some (.slice (some ⟨bb (n - 1), oo (n - 1), none⟩) (L (n - 1)) (C (n - 1))) := by rw [g1.top _ (by omega), g1.adr _ (by omega) hl1]
  have c2 := g1.cell (n - 1) (by omega) (L (n - 1) - 1) (by omega)
  have f1 : ((n - 1 : Nat) : Int) = (n : Int) - 1 := by omega
  have f2 : ((L (n - 1) - 1 : Nat) : Int) = (L (n - 1) : Int) - 1 := by omega
  clear g1 g kb hL
  go_wp2
  go_ret
  exact ⟨rfl, below_drewN hb1 _⟩
end Go.Proofs.Qxb6614997a
