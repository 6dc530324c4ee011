import Derived.Test.Qxb6614532aFmtTie
import Derived.Test.Qxb6614532aFmtLaw
import Derived.ProofKit
import Derived.OpenShut
import Derived.ChangeOld
import Derived.LaidMore
import Derived.Stop.LaidTwo
import Derived.Stop.JoinedTold
namespace Go.Proofs.Qxb6614532aFmt
open Go.ChangeShapes Go.WideShapes Go.ChangeAt Go.RowKit
open Go.Extern.Stop Go.Stop Go.Extern
set_option maxRecDepth 100000

theorem Tryf.own : ownKnob Tryf.prog.godebug = none := by kernel_rfl
theorem Tryf.laidOut : laidOutB Tryf.pinned.checked.prog = true := by kernel_rfl
theorem Tryf.stops : Tryf.pinned.checked.prog.stops = ["fmt.errorf"] := by kernel_rfl
theorem Tryf.stopKnobs : Tryf.pinned.checked.prog.stopKnobs = [] := by kernel_rfl
theorem Tryf.quiet (os : Os) : Stop.quiet Tryf.pinned.checked.prog os := by
  intro k hk
  rw [Tryf.stopKnobs] at hk
  cases hk
theorem Tryf.gE : Tryf.prog.globalNamed "io.EOF" = some 0 := by kernel_rfl
theorem Tryf.gU : Tryf.prog.globalNamed "io.ErrUnexpectedEOF" = some 1 := by kernel_rfl
theorem Tryf.gT : Tryf.prog.globalNamed "example.com/shardwarden/shardwarden/pkg/frame.ErrTooLong" = some 2 := by kernel_rfl
theorem Tryf.gEt : (Tryf.prog.globals[0]?).map (·.type) = some 30 := by kernel_rfl
theorem Tryf.gUt : (Tryf.prog.globals[1]?).map (·.type) = some 30 := by kernel_rfl
theorem Tryf.gTt : (Tryf.prog.globals[2]?).map (·.type) = some 30 := by kernel_rfl
theorem Tryf.cells92 : Tryf.prog.cellsOf 92 = 1 := by kernel_rfl
theorem Tryf.cells9 : Tryf.prog.cellsOf 9 = 1 := by kernel_rfl
theorem Tryf.star : "*" ++ "errors.errorString" = "*errors.errorString" := by decide
theorem Tryf.row90 (u : TypeId) (h : Tryf.prog.typeName? 3 u = some "*errors.errorString") : u = 90 :=
  typeName_ptr_named (nm := "errors.errorString") (by rw [Tryf.star]; kernel_rfl) (by kernel_rfl) (by decide) u (by rw [Tryf.star]; exact h)

theorem var?_below {P : Program} {B g : Nat} {W W' : World} {n : String} {cs : Array Value} (h : Below B W W') (hg : P.globalNamed n = some g) (hgB : g < B) (hv : W.var? P n = some cs) : W'.var? P n = some cs := by
  unfold World.var? at hv ⊢
  simp only [hg, Option.bind_some] at hv ⊢
  rw [h.block g hgB]
  exact hv

/-- What the listed variables give the walks. -/
theorem env_of_laid {F : Interp} {W : World} {t0 t1 t6 : List UInt8} {r r6 : List (String × DataW Unit)}
    (h : laidMet Tryf.prog (("io.EOF", .iface "*errors.errorString" (.ptr (.agg [.lit (.string t0)]))) :: ("io.ErrUnexpectedEOF", .iface "*errors.errorString" (.ptr (.agg [.lit (.string t1)]))) :: r) W)
    (h6 : laidMet Tryf.prog (("example.com/shardwarden/shardwarden/pkg/frame.ErrTooLong", .iface "*errors.errorString" (.ptr (.agg [.lit (.string t6)]))) :: r6) W) (hF : F.answers W.tape) :
    ∃ aE aU aT, Env F W.heap.size W aE aU aT ∧ W.var? Tryf.prog "example.com/shardwarden/shardwarden/pkg/frame.ErrTooLong" = some #[.iface 90 (.pointer (some aT))] := by
  obtain ⟨aE, aU, s0, s1, c0, c1, b0, b1, hv0, hv1, _, _, _, _, _, _, hne, hb0, hb1⟩ := laid_sentinels2 h Tryf.gE Tryf.gEt Tryf.gU Tryf.gUt Tryf.underlying30 Tryf.row90 Tryf.underlying90 Tryf.underlying92 rfl rfl Tryf.underlying9 Tryf.cells92 Tryf.cells9
  obtain ⟨aT, s, hv2, hc, _, _⟩ := laid_sentinel h6 Tryf.gT Tryf.gTt Tryf.underlying30 Tryf.row90 Tryf.underlying90 Tryf.underlying92 rfl rfl Tryf.underlying9 Tryf.cells92 Tryf.cells9
  have gE : W.cell? ⟨0, 0, none⟩ = some (.iface 90 (.pointer (some aE))) := by simpa using World.var?_cell Tryf.gE hv0 0
  have gU : W.cell? ⟨1, 0, none⟩ = some (.iface 90 (.pointer (some aU))) := by simpa using World.var?_cell Tryf.gU hv1 0
  have gT : W.cell? ⟨2, 0, none⟩ = some (.iface 90 (.pointer (some aT))) := by simpa using World.var?_cell Tryf.gT hv2 0
  refine ⟨aE, aU, aT, ⟨hF, gE, gU, gT, ⟨c0, b0, hb0⟩, ⟨c1, b1, hb1⟩, ⟨s, hc⟩, hne, World.block_lt_of_cell? _ _ gT, lt_of_block hb0, lt_of_block hb1, World.block_lt_of_cell? _ _ hc⟩, hv2⟩

/-- What a slice of bytes that came in is to the walk. -/
theorem arg_of {H : Type} {enc : TypeId × Value → H} {W : World} {base : Nat} {sp : Nat → Bool} {held : Bool} {ao : Option Addr} {N c : Nat} {x : DataW H × List MemPlace} {fuel : Nat}
    (h : DataW.trod enc Tryf.prog W base sp held fuel 22 [.slice ao N c] = some x) : ∃ f, Arg W ao N c f ∧ ∀ t, f t < 256 := by
  rcases open_ints Tryf.underlying22 Tryf.underlying5 (by kernel_rfl) h with ⟨hcs, _⟩ | ⟨a, l, cc, zs, hcs, _, hl, hm, hz, _, hcell, hwz⟩
  · simp at hcs
    obtain ⟨rfl, rfl, rfl⟩ := hcs
    exact ⟨fun _ => 0, .inl ⟨rfl, rfl, rfl⟩, fun _ => by show (0 : Nat) < 256; omega⟩
  · simp at hcs
    obtain ⟨rfl, rfl, rfl⟩ := hcs
    have hb : ∀ j, 0 ≤ zs.getD j 0 ∧ zs.getD j 0 ≤ 255 := fun j => by
      rw [List.getD_eq_getElem?_getD]
      cases hj : zs[j]? with
      | none => simp
      | some z =>
        have := hwz z (List.mem_of_getElem? hj)
        simp [Lit.wf, IntKind.min, IntKind.max, IntKind.signed, IntKind.bits] at this
        simpa using this
    refine ⟨fun j => (zs.getD j 0).toNat, .inr ⟨a, rfl, hl, fun j hj => ?_⟩, fun t => by have := hb t; show (zs.getD t 0).toNat < 256; omega⟩
    have h1 := hcell j (by split at hz <;> omega)
    have h2 : (((zs.getD j 0).toNat : Nat) : Int) = zs.getD j 0 := Int.toNat_of_nonneg (hb j).1
    show _ = some (Value.int .u8 (((zs.getD j 0).toNat : Nat) : Int))
    rw [h2]; exact h1

end Go.Proofs.Qxb6614532aFmt
