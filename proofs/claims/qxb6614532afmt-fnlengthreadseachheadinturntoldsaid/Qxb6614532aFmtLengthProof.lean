import Derived.Test.Qxb6614532aFmtCards
import Derived.Test.Qxb6614532aFmtLaid
import Derived.Test.Qxb6614532aFmtLaw
namespace Go.Proofs.Qxb6614532aFmt.fnLengthReadsEachHeadInTurn
open Go.ChangeShapes Go.WideShapes Go.ChangeAt Go.RowKit
open Go.Extern.Stop Go.Stop Go.Extern
set_option linter.unusedVariables false
set_option maxRecDepth 100000

/-- The door's own heap meets the condition. -/
theorem door_met (os : Os) (args : Array Value) : laidMetH Tryf.prog Rows.fnLengthReadsEachHeadInTurnRow.laid ((World.doorLaid Tryf.prog 161 os).forCall (fun _ _ => 0) ⟨#[], args, []⟩).memory :=
  laidMetH_of_parts3 (fuel := 8) (laidMet_of_run' 8 (by kernel_rfl) (by kernel_rfl)) (by kernel_rfl) (by kernel_rfl)

set_option maxHeartbeats 1600000 in
theorem lifted (os : Os) (started : os.Started) (H : Type) (enc : TypeId × Value → H) :
    ReturnsInTold none {} Tryf.checked os 3 .any Input.okWide ((OpenSpec.ofChange Rows.fnLengthReadsEachHeadInTurnSpec).preRow enc Tryf.prog Tryf.f3 [] false Rows.fnLengthReadsEachHeadInTurnRow.laid)
      (fun F => ((OpenSpec.ofChange Rows.fnLengthReadsEachHeadInTurnSpec).at F).post enc Tryf.prog Tryf.f3 false true false false) (aloneAtReturn Tryf.prog) nothingAlways := by
  refine returnsInTold_of_row (C := Tryf.checked) (s := OpenSpec.ofChange Rows.fnLengthReadsEachHeadInTurnSpec) (by kernel_rfl) Tryf.own started (by kernel_rfl) Tryf.func3
    (OpenSpec.witness_stopped_at (enc := enc) (C := Tryf.checked) false (World.doorLaid Tryf.prog 161 os) #[.slice none 0 0, .int .i64 0] rfl (by kernel_rfl) (by kernel_rfl) (by kernel_rfl)
      (OpenSpec.preRow_of_B rfl 8 (by kernel_rfl) (by kernel_rfl) (door_met os _))) ?_
  intro F W base0 args ds gs before _ hF hval0 hW _ _ _ hL _
  have hval : ∀ (j : Nat) t v, Tryf.f3.params[j]? = some t → args[j]? = some v → Value.okWide Tryf.prog W .any base0 t v := hval0
  have hW' := hW
  obtain ⟨p, q, hA0, hV0, rfl, hfz, hnd⟩ := hW
  have hA : DataW.TrodAll enc Tryf.prog W 0 (fun _ => true) true Tryf.f3.params.toList args.toList ds p := hA0
  have hV : DataW.TrodVars enc Tryf.prog W (fun _ => true) ["example.com/shardwarden/shardwarden/pkg/frame.ErrTooLong"] gs q := hV0
  rw [Tryf.params3] at hA hval
  obtain ⟨v0, v1, d0, d1, p0, p1, rfl, rfl, rfl, h0, h1⟩ := trodAll_two hA
  obtain ⟨ao, N, c, rfl⟩ := okWide_slice Tryf.underlying22 (hval 0 22 v0 rfl rfl)
  obtain ⟨n, rfl, rfl, rfl, wn⟩ := open_int Tryf.underlying3 (hval 1 3 v1 rfl rfl) h1
  have hL' : laidMet Tryf.prog Rows.fnLengthReadsEachHeadInTurnRow.laid W := hL
  obtain ⟨aE, aU, aT, env, hvT⟩ := env_of_laid (F := F.told) hL' hL'.tail.tail.tail.tail.tail.tail hF
  obtain ⟨rfl, rfl⟩ := hV.unique (vars_read1 enc Tryf.gT Tryf.gTt Tryf.underlying30 hvT trivial _)
  have k0 := h0
  have lt0 : ∀ x ∈ p0, x.block < W.heap.size := by obtain ⟨m, hm⟩ := k0; exact DataW.trod_lt m _ _ _ hm
  obtain ⟨f, hArg, hu⟩ : ∃ f, Arg W ao N c f ∧ ∀ t, f t < 256 := by
    obtain ⟨fuel, hf⟩ := h0
    exact arg_of hf
  clear hA0 hV0 hval0
  have hn : -9223372036854775808 ≤ n ∧ n ≤ 9223372036854775807 := by
    have := wn
    simp [Lit.wf, IntKind.min, IntKind.max, IntKind.signed, IntKind.bits] at this
    omega
  have walk : Calls Tryf.prog 3 #[.slice ao N c, .int .i64 n] W fun e w' => e = .returned (.bool true) ∧ Touch [] W w' := by
    by_cases h1 : 1048576 < N
    · exact law_long n h1
    · by_cases h2 : n < 0
      · exact law_neg n (by omega) h2
      · obtain ⟨l, rfl⟩ : ∃ l : Nat, n = l := ⟨n.toNat, by omega⟩
        exact law_any env hArg (by omega) hu (by omega)
  refine walk.mono fun e W' ⟨he, ht⟩ => ?_
  subst he
  have hB : Below W.heap.size W W' := ht.below (Nat.le_refl _) (by simp)
  exact ⟨_, rfl, _, _, _, [], _, [.cell 2 0], hW', trodAll_mk1 (shut_bool Tryf.underlying4 _), trodAll_mk2 (Below.trod Tryf.laidOut (by kernel_rfl) (of_decide_eq_true (by kernel_rfl)) k0 hB lt0) (shut_int Tryf.underlying3 wn), vars_read1 enc Tryf.gT Tryf.gTt Tryf.underlying30 (var?_below hB Tryf.gT (by have := env.lt; omega) hvT) trivial _, hB.frame _, fun h => by cases h⟩

/-- ████ THE STATEMENT ████ -/
theorem proved : Rows.FnLengthReadsEachHeadInTurnToldSaid :=
  Claim7.holds_of_told_tied_any_at .later 3 Tryf.f3 "fmt.errorf" [] [] _ _ _ _ _ (by kernel_rfl) rfl rfl rfl Tryf.laidOut (by kernel_rfl) rfl ⟨rfl, rfl, rfl, rfl, rfl, rfl, rfl⟩ rfl rfl (by kernel_rfl) (by kernel_rfl) Tryf.func3 (by kernel_rfl)
    (of_decide_eq_true (by kernel_rfl)) (of_decide_eq_true (by kernel_rfl)) Tryf.stops.symm rfl Tryf.stopKnobs.symm (by kernel_rfl)
    (by kernel_rfl) (by kernel_rfl) (by kernel_rfl) (by kernel_rfl) (by kernel_rfl) (by kernel_rfl) (by kernel_rfl) (by kernel_rfl) (by kernel_rfl) rfl (by kernel_rfl) rfl rfl
    rfl rfl
    rfl (by kernel_rfl) (by kernel_rfl) (by kernel_rfl) (by decide) (by kernel_rfl) fnLengthReadsEachHeadInTurn_row_tie
    (OpenClaim.moreEntering_of (by kernel_rfl) (by kernel_rfl) (by kernel_rfl) (by kernel_rfl) (by kernel_rfl) (by kernel_rfl) (by kernel_rfl) (by kernel_rfl) (by kernel_rfl) (by kernel_rfl))
    ⟨_, WideRow.started_initial, Tryf.quiet _⟩
    (fun os started _ H enc _ => lifted os started H enc)
end Go.Proofs.Qxb6614532aFmt.fnLengthReadsEachHeadInTurn
