import Derived.Test.Qxb6614532aFmtErrorf
import Derived.Laws.CopyOwn
import Derived.Deep.QuietTactic
import Derived.BigQuiet
import Derived.Deep.RegionHeld3
import Derived.Laws.BitsAllLaws
namespace Go.Proofs.Qxb6614532aFmt
open Go.RowKit

theorem hideP {p : Prop} (h : p) : Hid p := h

/-- Block g is the row xs (of element type e), whole and not frozen. -/
def RowAt (w : World) (g e : Nat) (xs : List Value) : Prop := w.heap[g]? = some (.cells xs.toArray e (0, 0))
theorem RowAt.cell {w : World} {g e : Nat} {xs : List Value} (h : RowAt w g e xs) (j : Nat) : w.cell? ⟨g, j, none⟩ = xs[j]? := by
  rw [cell_of_row w g j _ e (0, 0) h]; simp
theorem RowAt.free {w : World} {g e : Nat} {xs : List Value} (h : RowAt w g e xs) (j : Nat) : w.frozen? ⟨g, j, none⟩ = false := frozen_of_row w g j _ e h
theorem RowAt.lt {w : World} {g e : Nat} {xs : List Value} (h : RowAt w g e xs) : g < w.heap.size := lt_of_block h
theorem RowAt.store {w : World} {g e : Nat} {xs : List Value} (h : RowAt w g e xs) (j : Nat) (v : Value) : RowAt (w.setCell ⟨g, j, none⟩ v) g e (xs.set j v) := by
  have := heap_setCell_same w g j _ e v h
  unfold RowAt
  rw [this]
  simp
theorem RowAt.other {w : World} {g e g' j : Nat} {xs : List Value} (h : RowAt w g e xs) (hne : g ≠ g') (v : Value) : RowAt (w.setCell ⟨g', j, none⟩ v) g e xs := by
  unfold RowAt
  rw [heap_setCell_other w ⟨g', j, none⟩ g v hne]; exact h
theorem RowAt.below {w w' : World} {B g e : Nat} {xs : List Value} (h : RowAt w g e xs) (hb : Below B w w') (hg : g < B) : RowAt w' g e xs := by
  unfold RowAt
  rw [hb.block g hg]; exact h
theorem RowAt.drewN {w : World} {g e k : Nat} {xs : List Value} (h : RowAt w g e xs) : RowAt (w.drewN k) g e xs := h
theorem RowAt.drew {w : World} {g e : Nat} {xs : List Value} (h : RowAt w g e xs) : RowAt w.drew g e xs := h
theorem RowAt.some {w : World} {g e : Nat} {xs : List Value} (_h : RowAt w g e xs) (j : Nat) (hj : j < xs.length) : ∃ u, xs[j]? = Option.some u := ⟨xs[j], List.getElem?_eq_getElem hj⟩
theorem RowAt.same {w : World} {g e e' : Nat} {xs ys : List Value} (h : RowAt w g e xs) (h' : RowAt w g e' ys) : e = e' ∧ xs = ys := by
  unfold RowAt at h h'
  rw [h] at h'
  simp at h'
  exact ⟨h'.2, h'.1⟩
theorem row_block {w : World} {B e n : Nat} {xs : List Value} (h : w.ownsRow B e 1 (.slice (some ⟨B, 0, none⟩) n n) n xs) : RowAt w B e xs := by
  rcases h.2 with ⟨h', _⟩ | ⟨g', cap', cur, h', _, hg, _, _, hcs, htake⟩
  · simp at h'
  · simp only [Value.slice.injEq, Option.some.injEq, Addr.mk.injEq, and_true, true_and] at h'
    obtain ⟨rfl, rfl⟩ := h'
    unfold RowAt
    rw [hg, ← htake, List.take_of_length_le (by simp [hcs])]

/-- w' is w with new blocks, and with writes to the blocks of S alone. -/
structure Touch (S : List Nat) (w w' : World) : Prop where
  os : w'.os = w.os
  tape : w'.tape = w.tape
  output : w'.output = w.output
  size : w.heap.size ≤ w'.heap.size
  block : ∀ k, k < w.heap.size → k ∉ S → w'.heap[k]? = w.heap[k]?
theorem Touch.refl (S : List Nat) (w : World) : Touch S w w := ⟨rfl, rfl, rfl, Nat.le_refl _, fun _ _ _ => rfl⟩
theorem Touch.trans {S : List Nat} {a b c : World} (h : Touch S a b) (k : Touch S b c) : Touch S a c :=
  ⟨k.os.trans h.os, k.tape.trans h.tape, k.output.trans h.output, Nat.le_trans h.size k.size, fun i hi hs => (k.block i (Nat.lt_of_lt_of_le hi h.size) hs).trans (h.block i hi hs)⟩
theorem Touch.mono {S T : List Nat} {a b : World} (h : Touch S a b) (hs : ∀ k ∈ S, k ∈ T) : Touch T a b := ⟨h.os, h.tape, h.output, h.size, fun k hk hn => h.block k hk (fun hm => hn (hs k hm))⟩
theorem Touch.drew {S : List Nat} {a w : World} (h : Touch S a w) : Touch S a w.drew := ⟨h.os, h.tape, h.output, h.size, h.block⟩
theorem Touch.drewN {S : List Nat} {a w : World} (h : Touch S a w) (n : Nat) : Touch S a (w.drewN n) := h.trans ⟨rfl, rfl, rfl, Nat.le_refl _, fun _ _ _ => rfl⟩
theorem Touch.ofDrewN {S : List Nat} {a w : World} {n : Nat} (h : Touch S (a.drewN n) w) : Touch S a w := ⟨h.os, h.tape, h.output, h.size, h.block⟩
theorem Touch.alloc {S : List Nat} {a w : World} (h : Touch S a w) (o : Obj) : Touch S a (w.alloc o) :=
  h.trans ⟨rfl, rfl, rfl, by simp, fun k hk _ => Below.heap_alloc w o k hk⟩
theorem Touch.setCell {S : List Nat} {a w : World} (h : Touch S a w) {g j : Nat} (hg : g ∈ S) (u : Value) : Touch S a (w.setCell ⟨g, j, none⟩ u) :=
  h.trans ⟨rfl, rfl, rfl, by simp, fun k _ hn => Below.heap_setCell w ⟨g, j, none⟩ u k (fun e => hn (by simp at e; rw [e]; exact hg))⟩
/-- A new block may be written: it was not there. -/
theorem Touch.setCellNew {S : List Nat} {a w : World} (h : Touch S a w) {g j : Nat} (hg : a.heap.size ≤ g) (u : Value) : Touch S a (w.setCell ⟨g, j, none⟩ u) :=
  ⟨h.os, h.tape, h.output, by simpa using h.size, fun k hk hn => (Below.heap_setCell w ⟨g, j, none⟩ u k (by simp; omega)).trans (h.block k hk hn)⟩
theorem Touch.below {S : List Nat} {B : Nat} {w w' : World} (h : Touch S w w') (hB : B ≤ w.heap.size) (hS : ∀ k ∈ S, B ≤ k) : Below B w w' :=
  ⟨h.os, h.tape, h.output, h.size, fun k hk => h.block k (by omega) (fun hm => by have := hS k hm; omega)⟩
theorem Touch.ofBelow {S : List Nat} {w w' : World} (h : Below w.heap.size w w') : Touch S w w' := ⟨h.os, h.tape, h.output, h.size, fun k hk _ => h.block k hk⟩
theorem RowAt.touch {S : List Nat} {w w' : World} {g e : Nat} {xs : List Value} (h : RowAt w g e xs) (ht : Touch S w w') (hg : g ∉ S) : RowAt w' g e xs := by
  unfold RowAt
  rw [ht.block g h.lt hg]; exact h
theorem Touch.cell {S : List Nat} {w w' : World} (ht : Touch S w w') {a : Addr} {v : Value} (h : w.cell? a = some v) (ha : a.block ∉ S) : w'.cell? a = some v := by
  rw [World.cell?_of_block (w := w) (ht.block a.block (World.block_lt_of_cell? _ _ h) ha)]; exact h
theorem touch_setRow {S : List Nat} {w : World} {g : Nat} (hg : g ∈ S) (cs : Array Value) : Touch S w (w.setRow g cs) :=
  ⟨rfl, rfl, rfl, by simp, fun k _ hn => setRow_other w g k cs (fun e => hn (by rw [e]; exact hg))⟩

/-- 'copy' as one step of a region that draws, the row and the rest of memory told. -/
theorem step_copy_touch {P : Program} {ops : Array Oper} {o : Oper} {a : Act} {w : World} {K : Act → World → Prop} {Q : Exit → Act → World → Prop} {E : Prop} (hgd : o.guard = none) (d s : Operand) (dT sT : TypeId)
    (ho : o.op = .call { callee := .builtin .copy, args := #[d, s], argTypes := #[dT, sT] }) (elem : TypeId) (hu : P.underlying dT = some (.slice elem)) (hsz : (P.info? elem).map (·.size) = some 1)
    (dp sp : Option Addr) (dLen dCap sLen sCap : Nat) (hd : a.eval d = .slice dp dLen dCap) (hs : a.eval s = .slice sp sLen sCap)
    (g off : Nat) (cur : List Value) (t : TypeId) (hg : RowAt w g t cur) (cs : List Value) (hn : cs.length = Nat.min sLen dLen)
    (hpos : 0 < cs.length → dp = some ⟨g, off, none⟩ ∧ ∃ ad, sp = some ad ∧ ∀ j v, cs[j]? = some v → w.cell? (ad.add j) = some v)
    (hfit : off + cs.length ≤ cur.length) (h1 : ∀ v ∈ cs, v.oneCell' = true)
    (h : ∀ w', Hid (RowAt w' g t (splice cur off cs)) → Touch [g] w w' → K (a.put o.dst (goInt cs.length)) w') :
    if Region.wanted o (yielded ops a.tmps) = true then Oper.wp P o a w K Q else E := by
  have hw : Region.wanted o (yielded ops a.tmps) = true := by simp [Region.wanted, hgd]
  rw [if_pos hw]
  by_cases h0 : cs.length = 0
  · obtain rfl : cs = [] := List.eq_nil_of_length_eq_zero h0
    have hrun := run_copy_none (P := P) w dT sT o.type elem dp sp dLen dCap sLen sCap hu hsz (by simpa using hn.symm)
    unfold Oper.wp
    simp [execOp, ho, resolve, invoke, builtin, hd, hs, hrun, Result.andThen]
    exact h w (show RowAt w g t _ by simpa [splice] using hg) (Touch.refl _ _)
  · obtain ⟨rfl, ad, rfl, hsrc⟩ := hpos (by omega)
    have hrun := run_copy_row (P := P) w dT sT o.type elem g off dLen dCap ad sLen sCap cur.toArray t cs hu hsz hg hn hsrc (by simpa using hfit) h1
    unfold Oper.wp
    simp [execOp, ho, resolve, invoke, builtin, hd, hs, hrun, Result.andThen]
    exact h _ (show _ = _ by simpa [splice] using setRow_heap w g _ _ t _ hg) (touch_setRow (List.mem_singleton.2 rfl) _)

/-- Bytes as cells. -/
def bytesL (f : Nat → Nat) (n : Nat) : List Value := (List.range n).map fun j => Value.int .u8 (f j)
theorem bytesL_len (f : Nat → Nat) (n : Nat) : (bytesL f n).length = n := by simp [bytesL]
theorem bytesL_at (f : Nat → Nat) (n j : Nat) (h : j < n) : (bytesL f n)[j]? = some (.int .u8 (f j)) := by simp [bytesL, h]
theorem bytesL_some {f : Nat → Nat} {n j : Nat} {u : Value} (h : (bytesL f n)[j]? = some u) : j < n ∧ u = .int .u8 (f j) := by
  have hj : j < n := by
    have := (List.getElem?_eq_some_iff.1 h).1
    rwa [bytesL_len] at this
  rw [bytesL_at f n j hj] at h
  exact ⟨hj, (Option.some.inj h).symm⟩
theorem bytesL_one (f : Nat → Nat) (n : Nat) : ∀ v ∈ bytesL f n, v.oneCell' = true := by
  intro v hv
  simp only [bytesL, List.mem_map] at hv
  obtain ⟨j, _, rfl⟩ := hv
  rfl

theorem splice_len {α : Type} (L : List α) (off : Nat) (cs : List α) (h : off + cs.length ≤ L.length) : (splice L off cs).length = L.length := length_splice L off cs h
theorem splice_in {α : Type} (L : List α) (off : Nat) (cs : List α) (h : off + cs.length ≤ L.length) (t : Nat) (ht : t < cs.length) : (splice L off cs)[off + t]? = cs[t]? := by
  unfold splice
  rw [List.getElem?_append_right (by simp; omega), List.getElem?_append_left (by simp; omega)]
  simp
  congr 1
  omega
theorem splice_before {α : Type} (L : List α) (off : Nat) (cs : List α) (h : off + cs.length ≤ L.length) (t : Nat) (ht : t < off) : (splice L off cs)[t]? = L[t]? := by
  unfold splice
  rw [List.getElem?_append_left (by simp; omega)]
  simp [ht]
theorem splice_behind {α : Type} (L : List α) (off : Nat) (cs : List α) (h : off + cs.length ≤ L.length) (t : Nat) (ht : off + cs.length ≤ t) : (splice L off cs)[t]? = L[t]? := by
  unfold splice
  rw [List.getElem?_append_right (by simp; omega), List.getElem?_append_right (by simp; omega)]
  simp
  congr 1
  omega
end Go.Proofs.Qxb6614532aFmt
