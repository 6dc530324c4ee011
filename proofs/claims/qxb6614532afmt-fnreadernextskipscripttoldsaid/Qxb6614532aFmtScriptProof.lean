import Derived.Test.Qxb6614532aFmtCards
import Derived.Test.Qxb6614532aFmtLaid
import Derived.Test.Qxb6614532aFmtScript
import Derived.ChangeArms
namespace Go.Proofs.Qxb6614532aFmt.fnReaderNextSkipScript
open Go.ChangeShapes Go.WideShapes Go.ChangeAt Go.RowKit
open Go.Extern.Stop Go.Stop Go.Extern
set_option linter.unusedVariables false
set_option maxRecDepth 100000

/-- What a slice of bools that came in is to the walk. -/
theorem argB_of {H : Type} {enc : TypeId × Value → H} {W : World} {base : Nat} {sp : Nat → Bool} {held : Bool} {bo : Option Addr} {M cb : Nat} {x : DataW H × List MemPlace} {fuel : Nat}
    (h : DataW.trod enc Tryf.prog W base sp held fuel 34 [.slice bo M cb] = some x) : ∃ g, ArgB W bo M g := by
  rcases DataW.trod_slice Tryf.underlying34 h with ⟨h0, _⟩ | ⟨a, len, cap, elems, rest, n, _, hcs, rfl, hb, hl, hm, hlen, hel, hsp, hns⟩
  · simp at h0
    obtain ⟨rfl, rfl, rfl⟩ := h0
    exact ⟨fun _ => false, fun j hj => by omega⟩
  · simp at hcs
    obtain ⟨rfl, rfl, rfl⟩ := hcs
    refine ⟨fun j => match W.cell? (a.add j) with | some (.bool b) => b | _ => false, fun j hj => ⟨a, rfl, ?_⟩⟩
    have hE := hel j hj
    have hc : Tryf.prog.cellsOf 4 = 1 := by kernel_rfl
    rw [hc, Nat.mul_one, List.getElem?_eq_getElem (by omega), Option.bind_eq_some_iff] at hE
    obtain ⟨cs', hcs, hy⟩ := hE
    obtain ⟨b, rfl, _⟩ := DataW.trod_bool Tryf.underlying4 hy
    simp only [cell_of_cells?_one hcs]

/-- The door's own heap meets the condition. -/
theorem door_met (os : Os) (args : Array Value) : laidMetH Tryf.prog Rows.fnReaderNextSkipScriptRow.laid ((World.doorLaid Tryf.prog 161 os).forCall (fun _ _ => 0) ⟨#[], args, []⟩).memory :=
  laidMetH_of_parts3 (fuel := 8) (laidMet_of_run' 8 (by kernel_rfl) (by kernel_rfl)) (by kernel_rfl) (by kernel_rfl)

set_option maxHeartbeats 1600000 in
theorem lifted (os : Os) (started : os.Started) (H : Type) (enc : TypeId × Value → H) :
    ReturnsInTold none {} Tryf.checked os 4 .any Input.okWide ((OpenSpec.ofChange Rows.fnReaderNextSkipScriptSpec).preRow enc Tryf.prog Tryf.f4 [] false Rows.fnReaderNextSkipScriptRow.laid)
      (fun F => ((OpenSpec.ofChange Rows.fnReaderNextSkipScriptSpec).at F).post enc Tryf.prog Tryf.f4 false true false false) (aloneAtReturn Tryf.prog) nothingAlways := by
  refine returnsInTold_of_row (C := Tryf.checked) (s := OpenSpec.ofChange Rows.fnReaderNextSkipScriptSpec) (by kernel_rfl) Tryf.own started (by kernel_rfl) Tryf.func4
    (OpenSpec.witness_stopped_at (enc := enc) (C := Tryf.checked) false (World.doorLaid Tryf.prog 161 os) #[.slice none 0 0, .slice none 0 0, .int .i64 0] rfl (by kernel_rfl) (by kernel_rfl) (by kernel_rfl)
      (OpenSpec.preRow_of_B rfl 8 (by kernel_rfl) (by kernel_rfl) (door_met os _))) ?_
  intro F W base0 args ds gs before _ hF hval0 hW _ _ _ hL _
  have hval : ∀ (j : Nat) t v, Tryf.f4.params[j]? = some t → args[j]? = some v → Value.okWide Tryf.prog W .any base0 t v := hval0
  have hW' := hW
  obtain ⟨p, q, hA0, hV0, rfl, hfz, hnd⟩ := hW
  have hA : DataW.TrodAll enc Tryf.prog W 0 (fun _ => true) true Tryf.f4.params.toList args.toList ds p := hA0
  have hV : DataW.TrodVars enc Tryf.prog W (fun _ => true) ["example.com/shardwarden/shardwarden/pkg/frame.ErrTooLong"] gs q := hV0
  rw [Tryf.params4] at hA hval
  obtain ⟨v0, v1, v2, d0, d1, d2, p0, p1, p2, rfl, rfl, rfl, h0, h1, h2⟩ := trodAll_three hA
  obtain ⟨ao, N, c, rfl⟩ := okWide_slice Tryf.underlying22 (hval 0 22 v0 rfl rfl)
  obtain ⟨bo, M, cb, rfl⟩ := okWide_slice Tryf.underlying34 (hval 1 34 v1 rfl rfl)
  obtain ⟨n, rfl, rfl, rfl, wn⟩ := open_int Tryf.underlying3 (hval 2 3 v2 rfl rfl) h2
  have hL' : laidMet Tryf.prog Rows.fnReaderNextSkipScriptRow.laid W := hL
  obtain ⟨aE, aU, aT, env, hvT⟩ := env_of_laid (F := F.told) hL'.tail hL'.tail.tail.tail.tail.tail.tail.tail hF
  obtain ⟨rfl, rfl⟩ := hV.unique (vars_read1 enc Tryf.gT Tryf.gTt Tryf.underlying30 hvT trivial _)
  have k0 := h0
  have k1 := h1
  have lt0 : ∀ x ∈ p0, x.block < W.heap.size := by obtain ⟨m, hm⟩ := k0; exact DataW.trod_lt m _ _ _ hm
  have lt1 : ∀ x ∈ p1, x.block < W.heap.size := by obtain ⟨m, hm⟩ := k1; exact DataW.trod_lt m _ _ _ hm
  obtain ⟨f, hArg, hu⟩ : ∃ f, Arg W ao N c f ∧ ∀ t, f t < 256 := by
    obtain ⟨fuel, hf⟩ := h0
    exact arg_of hf
  obtain ⟨g, hArgB⟩ : ∃ g, ArgB W bo M g := by
    obtain ⟨fuel, hf⟩ := h1
    exact argB_of hf
  clear hA0 hV0 hval0
  have hn : -9223372036854775808 ≤ n ∧ n ≤ 9223372036854775807 := by
    have := wn
    simp [Lit.wf, IntKind.min, IntKind.max, IntKind.signed, IntKind.bits] at this
    omega
  have walk : Calls Tryf.prog 4 #[.slice ao N c, .slice bo M cb, .int .i64 n] W fun e w' => e = .returned (.bool true) ∧ Touch [] W w' := by
    by_cases h1 : 524288 < N ∨ 65536 < M
    · exact script_long n h1
    · by_cases h2 : n < 0
      · exact script_neg n (by omega) (by omega) h2
      · obtain ⟨l, rfl⟩ : ∃ l : Nat, n = l := ⟨n.toNat, by omega⟩
        exact script_any env hArg hArgB (by omega) (by omega) hu (by omega)
  refine walk.mono fun e W' ⟨he, ht⟩ => ?_
  subst he
  have hB : Below W.heap.size W W' := ht.below (Nat.le_refl _) (by simp)
  exact ⟨_, rfl, _, _, _, [], _, [.cell 2 0], hW', trodAll_mk1 (shut_bool Tryf.underlying4 _), trodAll_mk3 (Below.trod Tryf.laidOut (by kernel_rfl) (of_decide_eq_true (by kernel_rfl)) k0 hB lt0) (Below.trod Tryf.laidOut (by kernel_rfl) (of_decide_eq_true (by kernel_rfl)) k1 hB lt1) (shut_int Tryf.underlying3 wn), vars_read1 enc Tryf.gT Tryf.gTt Tryf.underlying30 (var?_below hB Tryf.gT (by have := env.lt; omega) hvT) trivial _, hB.frame _, fun h => by cases h⟩

/-- ████ THE STATEMENT ████ -/
theorem proved : Rows.FnReaderNextSkipScriptToldSaid :=
  Claim7.holds_of_told_tied_any_at .later 4 Tryf.f4 "fmt.errorf" [] [] _ _ _ _ _ (by kernel_rfl) rfl rfl rfl Tryf.laidOut (by kernel_rfl) rfl ⟨rfl, rfl, rfl, rfl, rfl, rfl, rfl⟩ rfl rfl (by kernel_rfl) (by kernel_rfl) Tryf.func4 (by kernel_rfl)
    (of_decide_eq_true (by kernel_rfl)) (of_decide_eq_true (by kernel_rfl)) Tryf.stops.symm rfl Tryf.stopKnobs.symm (by kernel_rfl)
    (by kernel_rfl) (by kernel_rfl) (by kernel_rfl) (by kernel_rfl) (by kernel_rfl) (by kernel_rfl) (by kernel_rfl) (by kernel_rfl) (by kernel_rfl) rfl (by kernel_rfl) rfl rfl
    rfl rfl
    rfl (by kernel_rfl) (by kernel_rfl) (by kernel_rfl) (by decide) (by kernel_rfl) fnReaderNextSkipScript_row_tie
    (OpenClaim.moreEntering_of (by kernel_rfl) (by kernel_rfl) (by kernel_rfl) (by kernel_rfl) (by kernel_rfl) (by kernel_rfl) (by kernel_rfl) (by kernel_rfl) (by kernel_rfl) (by kernel_rfl))
    ⟨_, WideRow.started_initial, Tryf.quiet _⟩
    (fun os started _ H enc _ => lifted os started H enc)
end Go.Proofs.Qxb6614532aFmt.fnReaderNextSkipScript
