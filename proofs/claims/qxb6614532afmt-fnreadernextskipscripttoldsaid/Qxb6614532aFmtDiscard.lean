import Derived.Test.Qxb6614532aFmtPeek2
namespace Go.Proofs.Qxb6614532aFmt
open Go.RowKit
set_option linter.unusedVariables false
section
variable {w : World} {BR BB BY N c bS oS r v i p : Nat} {ao : Option Addr} {f : Nat → Nat} {aE : Addr} {er : Value}

set_option maxHeartbeats 400000 in
theorem buffered_any (h : St w BR BB BY ao N c bS oS f r v i er) :
    Calls Tryf.prog 32 #[.pointer (some ⟨BR, 0, none⟩)] w fun e w' => e = .returned (.int .i64 ((v : Int) - (r : Int))) ∧ ∃ d, w' = w.drewN d := by
  obtain ⟨x5, x6, hd⟩ := h.hd
  have rv := h.rv
  have v4 := h.v4
  have c2 : w.cell? ⟨BR, 2, none⟩ = some (.int .i64 r) := hd.cell 2
  have c3 : w.cell? ⟨BR, 3, none⟩ = some (.int .i64 v) := hd.cell 3
  have hrI : (0 : Int) ≤ (r : Int) := by omega
  have hrvI : (r : Int) ≤ (v : Int) := by omega
  have hv4I : (v : Int) ≤ 4096 := by omega
  clear h hd
  go_enter Tryf.func32, Tryf.ntmps32
  go_wp2
  go_quiet (fail)
  go_wp2
  go_ret
  exact ⟨rfl, _, rfl⟩

/-- The two marks of what was read last are turned: nothing else. -/
theorem St.unread (h : St w BR BB BY ao N c bS oS f r v i .nilIface) :
    St ((w.setCell ⟨BR, 5, none⟩ (.int .i64 (-1))).setCell ⟨BR, 6, none⟩ (.int .i64 (-1))) BR BB BY ao N c bS oS f r v i .nilIface ∧ Touch [BR, BB, BY] w ((w.setCell ⟨BR, 5, none⟩ (.int .i64 (-1))).setCell ⟨BR, 6, none⟩ (.int .i64 (-1))) ∧
    (∃ x, w.cell? ⟨BR, 5, none⟩ = some x) ∧ w.frozen? ⟨BR, 5, none⟩ = false ∧ (∃ x, (w.setCell ⟨BR, 5, none⟩ (.int .i64 (-1))).cell? ⟨BR, 6, none⟩ = some x) ∧ (w.setCell ⟨BR, 5, none⟩ (.int .i64 (-1))).frozen? ⟨BR, 6, none⟩ = false := by
  obtain ⟨h1, t1⟩ := h.head (r' := r) (v' := v) (er' := .nilIface) 5 (.int .i64 (-1)) (fun x5 x6 => ⟨_, x6, rfl⟩) h.rv rfl (Nat.le_refl _)
  obtain ⟨h2, t2⟩ := h1.head (r' := r) (v' := v) (er' := .nilIface) 6 (.int .i64 (-1)) (fun x5 x6 => ⟨x5, _, rfl⟩) h.rv rfl (Nat.le_refl _)
  obtain ⟨x5, x6, hd⟩ := h.hd
  obtain ⟨y5, y6, hd1⟩ := h1.hd
  exact ⟨h2, t1.trans t2, ⟨x5, hd.cell 5⟩, hd.free 5, ⟨y6, hd1.cell 6⟩, hd1.free 6⟩

set_option maxRecDepth 100000 in
set_option maxHeartbeats 1000000 in
/-- Discard(n), n bytes lie in the buffer. -/
theorem discard_in (h : St w BR BB BY ao N c bS oS f r v i .nilIface) (n : Nat) (hn0 : 0 < n) (hn : n ≤ v - r) :
    Calls Tryf.prog 24 #[.pointer (some ⟨BR, 0, none⟩), .int .i64 n] w fun e w' => e = .returned (.tuple #[.int .i64 n, .nilIface]) ∧ St w' BR BB BY ao N c bS oS f (r + n) v i .nilIface ∧ Touch [BR, BB, BY] w w' := by
  have rv := h.rv
  have v4 := h.v4
  obtain ⟨h2, t2, ⟨x5, c5⟩, f5, ⟨y6, c6⟩, f6⟩ := h.unread
  have H2 := hideP h2
  have T2 := hideP t2
  have hnI : (0 : Int) < (n : Int) := by omega
  have hnb : ((n : Int) == 0) = false := beq_eq_false_iff_ne.2 (by omega)
  have hsb : ((v : Int) - (r : Int) == 0) = false := beq_eq_false_iff_ne.2 (by omega)
  have hrI : (0 : Int) ≤ (r : Int) := by omega
  have hnv : (n : Int) ≤ (v : Int) - (r : Int) := by omega
  have hv4I : (v : Int) ≤ 4096 := by omega
  clear h h2 t2
  go_enter Tryf.func24, Tryf.ntmps24
  go_wp2
  refine wp_loop_rounds 1 ?_; rw [rounds_succ]
  go_wp2_with fail
  refine (buffered_any H2.out).mono ?_
  rintro e w2 ⟨rfl, d, rfl⟩
  have H3 := hideP (St.drewN (d := d) H2.out)
  have T3 := hideP (Touch.drewN T2.out d)
  generalize ((w.setCell ⟨BR, 5, none⟩ (.int .i64 (-1))).setCell ⟨BR, 6, none⟩ (.int .i64 (-1))).drewN d = W at H3 T3 ⊢
  have hs := H3.out
  obtain ⟨z5, z6, hd⟩ := hs.hd
  have c2 : W.cell? ⟨BR, 2, none⟩ = some (.int .i64 r) := hd.cell 2
  have f2 := hd.free 2
  obtain ⟨h4, t4⟩ := hs.head (r' := r + n) (v' := v) (er' := .nilIface) 2 (.int .i64 (r + n : Nat)) (fun x5 x6 => ⟨x5, x6, rfl⟩) (by omega) rfl (by omega)
  have H4 := hideP h4
  have T4 := hideP (Touch.trans T3.out t4)
  have eN : ((r + n : Nat) : Int) = (r : Int) + (n : Int) := by omega
  rw [eN] at H4 T4
  clear hs hd h4 t4 c5 f5 c6 f6 eN
  by_cases hgt : n < v - r
  · have hgtI : (n : Int) < (v : Int) - (r : Int) := by omega
    go_wp2
    go_ret2
    exact ⟨rfl, H4.out, T4.out⟩
  · have hvn : (v : Int) - (r : Int) = (n : Int) := by omega
    rw [hvn]
    clear hnv hsb
    go_wp2
    go_ret2
    exact ⟨rfl, H4.out, T4.out⟩
end
end Go.Proofs.Qxb6614532aFmt
