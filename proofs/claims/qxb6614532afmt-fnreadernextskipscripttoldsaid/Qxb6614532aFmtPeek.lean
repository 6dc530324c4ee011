import Derived.Test.Qxb6614532aFmtFillT
import Derived.Deep.LoopGhost
namespace Go.Proofs.Qxb6614532aFmt
open Go.RowKit
set_option linter.unusedVariables false
section
variable {w : World} {BR BB BY N c bS oS r v i : Nat} {ao : Option Addr} {f : Nat → Nat} {aE : Addr} {er : Value}

theorem fill_eof (h : St w BR BB BY ao N c bS oS f r v i .nilIface) (hvr : v - r < 4096) (hi : N ≤ i) (gE : w.cell? ⟨0, 0, none⟩ = some (.iface 90 (.pointer (some aE)))) (hz : 0 ∉ [BR, BB, BY]) :
    Calls Tryf.prog 33 #[.pointer (some ⟨BR, 0, none⟩)] w fun e w' => e = .returned (.tuple #[]) ∧ St w' BR BB BY ao N c bS oS f 0 (v - r) i (.iface 90 (.pointer (some aE))) ∧ Touch [BR, BB, BY] w w' := by
  have rv := h.rv
  have v4 := h.v4
  by_cases h0 : r = 0
  · subst h0
    rw [Nat.sub_zero] at hvr ⊢
    exact fill0_eof h hvr hi gE
  by_cases h4 : r = 4096
  · obtain rfl : v = 4096 := by omega
    subst h4
    exact fillT_eof h hi gE hz
  · exact fillS_eof h (by omega) (by omega) hi gE hz

theorem fill_some (h : St w BR BB BY ao N c bS oS f r v i .nilIface) (hvr : v - r < 4096) (hi : i < N) :
    Calls Tryf.prog 33 #[.pointer (some ⟨BR, 0, none⟩)] w fun e w' => ∃ k, 0 < k ∧ k ≤ N - i ∧ k ≤ 4096 - (v - r) ∧ e = .returned (.tuple #[]) ∧ St w' BR BB BY ao N c bS oS f 0 (v - r + k) (i + k) .nilIface ∧ Touch [BR, BB, BY] w w' := by
  have rv := h.rv
  have v4 := h.v4
  by_cases h0 : r = 0
  · subst h0
    rw [Nat.sub_zero] at hvr ⊢
    exact fill0_some h hvr hi
  by_cases h4 : r = 4096
  · obtain rfl : v = 4096 := by omega
    subst h4
    refine (fillT_some h hi).mono fun e w' ⟨k, h1, h2, h3, h4, h5, h6⟩ => ⟨k, h1, h2, by omega, h4, ?_, h6⟩
    have e : 4096 - 4096 + k = k := by omega
    rw [e]; exact h5
  · exact fillS_some h (by omega) (by omega) hi

/-- A cell of the head turned. -/
theorem St.head (h : St w BR BB BY ao N c bS oS f r v i er) (j : Nat) (x : Value) {r' v' : Nat} {er' : Value} (hx : ∀ x5 x6, ∃ y5 y6, (bufCells BB BY r v er x5 x6).set j x = bufCells BB BY r' v' er' y5 y6) (hr : r' ≤ v') (hv : v' = v) (hrr : r ≤ r') :
    St (w.setCell ⟨BR, j, none⟩ x) BR BB BY ao N c bS oS f r' v' i er' ∧ Touch [BR, BB, BY] w (w.setCell ⟨BR, j, none⟩ x) := by
  subst hv
  have hT : Touch [BR, BB, BY] w (w.setCell ⟨BR, j, none⟩ x) := (Touch.refl _ w).setCell (by simp) _
  obtain ⟨x5, x6, hd⟩ := h.hd
  obtain ⟨ys, hb, hl, hy⟩ := h.buf
  obtain ⟨x2, hY⟩ := h.rd
  obtain ⟨y5, y6, e⟩ := hx x5 x6
  have rv := h.rv
  have vi := h.vi
  refine ⟨h.make hT ⟨y5, y6, by rw [← e]; exact hd.store j x⟩ ⟨ys, hb.other (fun e => h.d1 e.symm) _, hl, fun t ht => ?_⟩ ⟨x2, hY.other (fun e => h.d2 e.symm) _⟩ hr h.v4 (by omega) h.iN, hT⟩
  have := hy (r' - r + t) (by omega)
  have e1 : r + (r' - r + t) = r' + t := by omega
  have e2 : i - (v' - r) + (r' - r + t) = i - (v' - r') + t := by omega
  rw [e1, e2] at this
  exact this

set_option maxHeartbeats 400000 in
theorem readErr_any (h : St w BR BB BY ao N c bS oS f r v i er) (her : IsIface er) :
    Calls Tryf.prog 34 #[.pointer (some ⟨BR, 0, none⟩)] w fun e w' => e = .returned er ∧ St w' BR BB BY ao N c bS oS f r v i .nilIface ∧ Touch [BR, BB, BY] w w' := by
  obtain ⟨h1, h2⟩ := h.head (r' := r) (v' := v) (er' := .nilIface) 4 .nilIface (fun x5 x6 => ⟨x5, x6, rfl⟩) h.rv rfl (Nat.le_refl _)
  have H1 := hideP h1
  have H2 := hideP h2
  obtain ⟨x5, x6, hd⟩ := h.hd
  have c4 : w.cell? ⟨BR, 4, none⟩ = some er := hd.cell 4
  have f4 := hd.free 4
  clear h1 h2 hd h
  cases er <;> simp only [IsIface] at her
  all_goals
    go_enter Tryf.func34, Tryf.ntmps34
    go_wp2
    go_ret
    exact ⟨rfl, H1.out, H2.out⟩
end
end Go.Proofs.Qxb6614532aFmt
