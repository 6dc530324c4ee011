import Derived.Test.Qxb6614997aLaw3
import Derived.ProofKit
import Derived.OpenShut
import Derived.ShutString
import Derived.ChangeOld
import Derived.Below
import Derived.Deep.Matrix
namespace Go.Proofs.Qxb6614997a
open Go.ChangeShapes Go.WideShapes Go.ChangeAt Go.RowKit

theorem own : ownKnob Try.prog.godebug = none := by kernel_rfl
theorem laidOut : laidOutB Try.prog = true := by kernel_rfl
theorem addr_block (a : Addr) (n : Nat) : (a.add n).block = a.block := by unfold Addr.add; split <;> rfl

/-- What the walks are told of a [][]uint64 that came in: no element; or a grid. -/
def IsGrid (w : World) (a : Option Addr) (len : Nat) : Prop :=
  len = 0 ∨ ∃ b off, a = some ⟨b, off, none⟩ ∧ 0 < len ∧ len ≤ 9223372036854775807 ∧ ∃ A L C bb oo X, Grid w b off len A L C bb oo X

theorem isGrid_of {H : Type} {enc : TypeId × Value → H} {W : World} {base fuel : Nat} {held : Bool} {a0 : Option Addr} {len0 cap0 : Nat} {x : DataW H × List MemPlace}
    (hf : DataW.trod enc Try.prog W base (fun _ => true) held fuel 22 [.slice a0 len0 cap0] = some x) : IsGrid W a0 len0 := by
  rcases Deep.open_int_rows Try.underlying22 Try.underlying33 Try.underlying28 (by kernel_rfl) (by kernel_rfl) hf with ⟨hcs, _⟩ | ⟨a, len, cap, A, L, C, Z, hcs, _, hl, hm, _, hr⟩
  · simp at hcs
    exact .inl hcs.2.1
  · simp at hcs
    obtain ⟨rfl, rfl, rfl⟩ := hcs
    by_cases h0 : len0 = 0
    · exact .inl h0
    right
    obtain ⟨b, off, spot⟩ := a
    have hspot : spot = none := by simpa [Addr.add] using World.cell?_spot (hr 0 (by omega)).1
    subst hspot
    have hm' : cap0 ≤ 9223372036854775807 := hm
    refine ⟨b, off, rfl, by omega, by omega, A, L, C, fun i => ((A i).getD ⟨0, 0, none⟩).block, fun i => ((A i).getD ⟨0, 0, none⟩).off, fun i j => ((Z i).getD j 0).toNat, ?_⟩
    have hadr : ∀ i, i < len0 → 0 < L i → ∃ b' o', A i = some ⟨b', o', none⟩ := fun i hi hp => by
      obtain ⟨h1, h2, h3, h4, h5, h6, h7⟩ := hr i (by omega)
      cases ha : A i with
      | none => have := h6 ha; omega
      | some a' =>
        obtain ⟨b', o', s'⟩ := a'
        have hs' : s' = none := by simpa [Addr.add] using World.cell?_spot ((h7 _ ha).2 0 (by omega))
        subst hs'
        exact ⟨b', o', rfl⟩
    refine ⟨fun i hi => ?_, fun i hi => ?_, fun i hi hp => ?_, fun i hi => (hr i (by omega)).2.2.2.2.2.1, fun i hi j hj => ?_⟩
    · rw [← add_plain]; exact (hr i (by omega)).1
    · exact ⟨(hr i (by omega)).2.1, (hr i (by omega)).2.2.1⟩
    · obtain ⟨b', o', ha⟩ := hadr i hi hp
      rw [ha]; rfl
    · obtain ⟨b', o', ha⟩ := hadr i hi (by omega)
      obtain ⟨h1, h2, h3, h4, h5, h6, h7⟩ := hr i (by omega)
      have hc := (h7 _ ha).2 j (by omega)
      rw [add_plain] at hc
      have hb := range_u64 h5 j
      rw [ha]
      show W.cell? ⟨b', o' + j, none⟩ = some (.int .u64 (((Z i).getD j 0).toNat : Int))
      rw [hc, Int.toNat_of_nonneg (by rw [List.getD_eq_getElem?_getD]; exact hb.1)]
end Go.Proofs.Qxb6614997a
