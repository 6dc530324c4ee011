import Derived.Test.Qxb6614532aFmtLength
namespace Go.Proofs.Qxb6614532aFmt
open Go.RowKit Go.Stop
set_option linter.unusedVariables false
theorem Tryf.noBufio (v : Value) (w : World) : (Instr.typeAssert (.iface 45 v) 56 50 true).run Tryf.prog w = .ok (.tuple #[.pointer none, .bool false]) w := by kernel_rfl
section
variable {F : Interp} {B : Nat} {w : World} {R BR BB BY N c bS oS r v i p limit wn wk wc : Nat} {ao : Option Addr} {f : Nat → Nat} {aE aU aT : Addr}

set_option maxRecDepth 100000 in
set_option maxHeartbeats 1000000 in
theorem bytesNew (w : World) (ao : Option Addr) (N c : Nat) :
    Calls Tryf.prog 19 #[.slice ao N c] w fun e w' => e = .returned (.pointer (some ⟨w.heap.size, 0, none⟩)) ∧ w' = w.alloc (.cells #[.slice ao N c, .int .i64 0, .int .i64 (-1)] 59) := by
  go_enter Tryf.func19, Tryf.ntmps19
  go_wp2
  go_ret
  exact ⟨rfl, rfl⟩

set_option maxRecDepth 100000 in
set_option maxHeartbeats 1000000 in
theorem reset_any (w : World) (g h y : Nat) (xs : List Value) (hx : RowAt w g 70 xs) (hl : xs.length = 7) :
    Calls Tryf.prog 38 #[.pointer (some ⟨g, 0, none⟩), .slice (some ⟨h, 0, none⟩) 4096 4096, .iface 45 (.pointer (some ⟨y, 0, none⟩))] w fun e w' => e = .returned (.tuple #[]) ∧ RowAt w' g 70 (bufCells h y 0 0 .nilIface (.int .i64 (-1)) (.int .i64 (-1))) ∧ Touch [g] w w' := by
  obtain ⟨a0, a1, a2, a3, a4, a5, a6, rfl⟩ : ∃ a0 a1 a2 a3 a4 a5 a6, xs = [a0, a1, a2, a3, a4, a5, a6] := by
    match xs, hl with
    | [a0, a1, a2, a3, a4, a5, a6], _ => exact ⟨a0, a1, a2, a3, a4, a5, a6, rfl⟩
  have c0 : w.cell? ⟨g, 0, none⟩ = some a0 := hx.cell 0
  have c1 : w.cell? ⟨g, 1, none⟩ = some a1 := hx.cell 1
  have c2 : w.cell? ⟨g, 2, none⟩ = some a2 := hx.cell 2
  have c3 : w.cell? ⟨g, 3, none⟩ = some a3 := hx.cell 3
  have c4 : w.cell? ⟨g, 4, none⟩ = some a4 := hx.cell 4
  have c5 : w.cell? ⟨g, 5, none⟩ = some a5 := hx.cell 5
  have c6 : w.cell? ⟨g, 6, none⟩ = some a6 := hx.cell 6
  have f0 := hx.free 0
  have f1 := hx.free 1
  have f2 := hx.free 2
  have f3 := hx.free 3
  have f4 := hx.free 4
  have f5 := hx.free 5
  have f6 := hx.free 6
  have HX := hideP hx
  clear hx
  go_enter Tryf.func38, Tryf.ntmps38
  go_wp2
  refine bodyPost_end (results_none rfl _ _ _) rfl ?_
  have hx := HX.out
  refine ⟨rfl, ((((((hx.store 0 _).store 1 _).store 2 _).store 3 _).store 4 _).store 5 _).store 6 _, ?_⟩
  refine Touch.setCell (Touch.setCell (Touch.setCell (Touch.setCell (Touch.setCell (Touch.setCell (Touch.setCell (Touch.refl _ w) ?_ _) ?_ _) ?_ _) ?_ _) ?_ _) ?_ _) ?_ _ <;> exact List.mem_singleton.2 rfl

theorem row_alloc (w : World) (xs : List Value) (e : Nat) : RowAt (w.alloc (.cells xs.toArray e)) w.heap.size e xs := by
  show (w.heap.push _)[w.heap.size]? = _
  rw [Array.getElem?_push_size]

theorem Tryf.info5 : ∃ i, Tryf.prog.info? 5 = some i ∧ i.size = 1 ∧ i.bytes = 1 ∧ i.zero = some (.int .u8 0) := by
  have h : (Tryf.prog.info? 5).map (fun i => (i.size, i.bytes, i.zero)) = some (1, 1, some (.int .u8 0)) := by kernel_rfl
  obtain ⟨i, hi, h2⟩ := Option.map_eq_some_iff.1 h
  simp only [Prod.mk.injEq] at h2
  exact ⟨i, hi, h2.1, h2.2.1, h2.2.2⟩

theorem mkBytes (n : Nat) (hn : n ≤ 1048576) (w : World) : (Instr.makeSlice 22 (.int .i64 n) (.int .i64 n)).run Tryf.prog w = .ok (.slice (some ⟨w.heap.size, 0, none⟩) n n) (w.alloc (.cells (List.replicate n (.int .u8 0)).toArray 5)) := by
  obtain ⟨i, hi, h1, h2, h3⟩ := Tryf.info5
  have h := run_make (P := Tryf.prog) w 22 5 i _ Tryf.underlying22 hi h3 .i64 .i64 n n (by omega) (Int.le_refl _) (by rw [h2]; omega) (by omega)
  have e : madeCells (Value.int .u8 0).cells (n * 1) = (List.replicate n (Value.int .u8 0)).toArray := by
    rw [← toList_madeCells_one, Nat.mul_one]
    rfl
  rw [Int.toNat_natCast, h1, e] at h
  exact h

set_option maxRecDepth 100000 in
set_option maxHeartbeats 1000000 in
/-- bufio.NewReaderSize over a bytes.Reader. -/
theorem newSize (w : World) (y : Nat) (hy : y < w.heap.size) :
    Calls Tryf.prog 35 #[.iface 45 (.pointer (some ⟨y, 0, none⟩)), .int .i64 4096] w fun e w' => e = .returned (.pointer (some ⟨w.heap.size, 0, none⟩)) ∧ RowAt w' w.heap.size 70 (bufCells (w.heap.size + 1) y 0 0 .nilIface (.int .i64 (-1)) (.int .i64 (-1))) ∧
      (∃ ys, RowAt w' (w.heap.size + 1) 5 ys ∧ ys.length = 4096) ∧ Touch [] w w' ∧ w.heap.size + 2 ≤ w'.heap.size := by
  have nB := Tryf.noBufio
  obtain ⟨zs, hzl, mk⟩ : ∃ zs : List Value, zs.length = 4096 ∧ ∀ wx : World, (Instr.makeSlice 22 (.int .i64 4096) (.int .i64 4096)).run Tryf.prog wx = .ok (.slice (some ⟨wx.heap.size, 0, none⟩) 4096 4096) (wx.alloc (.cells zs.toArray 5)) :=
    ⟨List.replicate 4096 (.int .u8 0), List.length_replicate, fun wx => mkBytes 4096 (by omega) wx⟩
  have HZ := hideP hzl
  clear hzl
  go_enter Tryf.func35, Tryf.ntmps35
  go_wp2_with fail
  have hT0 : Touch [] w ((w.alloc (.cells #[.slice none 0 0, .nilIface, .int .i64 0, .int .i64 0, .nilIface, .int .i64 0, .int .i64 0] 70)).alloc (.cells zs.toArray 5)) := ((Touch.refl _ w).alloc _).alloc _
  have hr1 : RowAt ((w.alloc (.cells #[.slice none 0 0, .nilIface, .int .i64 0, .int .i64 0, .nilIface, .int .i64 0, .int .i64 0] 70)).alloc (.cells zs.toArray 5)) w.heap.size 70 [.slice none 0 0, .nilIface, .int .i64 0, .int .i64 0, .nilIface, .int .i64 0, .int .i64 0] := by
    show _ = _
    rw [Below.heap_alloc _ _ _ (by simp)]
    exact row_alloc w _ 70
  have hr2 : RowAt ((w.alloc (.cells #[.slice none 0 0, .nilIface, .int .i64 0, .int .i64 0, .nilIface, .int .i64 0, .int .i64 0] 70)).alloc (.cells zs.toArray 5)) (w.heap.size + 1) 5 zs := by
    have := row_alloc (w.alloc (.cells #[.slice none 0 0, .nilIface, .int .i64 0, .int .i64 0, .nilIface, .int .i64 0, .int .i64 0] 70)) zs 5
    rwa [World.size_alloc] at this
  have hs2 : ((w.alloc (.cells #[.slice none 0 0, .nilIface, .int .i64 0, .int .i64 0, .nilIface, .int .i64 0, .int .i64 0] 70)).alloc (.cells zs.toArray 5)).heap.size = w.heap.size + 2 := by rw [World.size_alloc, World.size_alloc]
  refine (reset_any _ w.heap.size (w.heap.size + 1) y _ hr1 rfl).mono ?_
  rintro e w2 ⟨rfl, h1, ht⟩
  have H1 := hideP h1
  have hr3 := hideP (hr2.touch ht (by simp))
  have HT := hideP ht
  have HT0 := hideP hT0
  have HS := hideP hs2
  clear h1 ht hr1 hr2 hT0 hs2 mk
  go_wp2
  go_ret
  refine ⟨rfl, H1.out, ⟨_, hr3.out, HZ.out⟩, ?_, by have := HT.out.size; have := HS.out; omega⟩
  have t := HT.out
  have t0 := HT0.out
  exact ⟨t.os.trans t0.os, t.tape.trans t0.tape, t.output.trans t0.output, Nat.le_trans t0.size t.size, fun k hk hn => (t.block k (Nat.lt_of_lt_of_le hk t0.size) (by simp; omega)).trans (t0.block k hk hn)⟩
end
end Go.Proofs.Qxb6614532aFmt
