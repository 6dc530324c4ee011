import Derived.Test.Qxb6614997aLaw3
namespace Go.Proofs.Qxb6614997a
open Go.RowKit

/-! The blocks with one key put in, as functions of the place. -/
def putL (L : Nat → Nat) (bi : Nat) (i : Nat) : Nat := if i = bi then L bi + 1 else L i
def putC (L C : Nat → Nat) (bi : Nat) (i : Nat) : Nat := if i = bi then L bi + 1 else C i
def putA (A : Nat → Option Addr) (bi CB : Nat) (i : Nat) : Option Addr := if i = bi then some ⟨CB, 0, none⟩ else A i
def putB (bb : Nat → Nat) (bi CB : Nat) (i : Nat) : Nat := if i = bi then CB else bb i
def putO (oo : Nat → Nat) (bi : Nat) (i : Nat) : Nat := if i = bi then 0 else oo i
def putX (X : Nat → Nat → Nat) (bi jj x : Nat) (i j : Nat) : Nat := if i = bi then (if j < jj then X bi j else if j = jj then x else X bi (j - 1)) else X i j

/-- The row of keys that stands in the place of row bi. -/
def rowL (f : Nat → Nat) (n : Nat) : List Value := (List.range n).map fun j => Value.int .u64 (f j)
theorem rowL_len (f : Nat → Nat) (n : Nat) : (rowL f n).length = n := by simp [rowL]
theorem rowL_at (f : Nat → Nat) (n j : Nat) (h : j < n) : (rowL f n)[j]? = some (.int .u64 (f j)) := by simp [rowL, h]
theorem rowL_some {f : Nat → Nat} {n j : Nat} {u : Value} (h : (rowL f n)[j]? = some u) : j < n ∧ u = .int .u64 (f j) := by
  have hj : j < n := by
    have := (List.getElem?_eq_some_iff.1 h).1
    rwa [rowL_len] at this
  rw [rowL_at f n j hj] at h
  exact ⟨hj, (Option.some.inj h).symm⟩
theorem rowL_one (f : Nat → Nat) (n : Nat) : ∀ v ∈ rowL f n, v.oneCell' = true := by
  intro v hv
  simp only [rowL, List.mem_map] at hv
  obtain ⟨j, _, rfl⟩ := hv
  rfl
theorem rowL_join (X : Nat → Nat → Nat) (L : Nat → Nat) (bi jj x : Nat) (h : jj ≤ L bi) :
    rowL (X bi) jj ++ [Value.int .u64 x] ++ rowL (fun t => X bi (jj + t)) (L bi - jj) = rowL (putX X bi jj x bi) (L bi + 1) := by
  apply List.ext_getElem?
  intro j
  by_cases h1 : j < jj
  · rw [List.getElem?_append_left (by simp [rowL_len]; omega), List.getElem?_append_left (by simp [rowL_len]; omega), rowL_at _ _ _ h1, rowL_at _ _ _ (by omega)]
    simp [putX, h1]
  · by_cases h2 : j = jj
    · subst h2
      rw [List.getElem?_append_left (by simp [rowL_len]), List.getElem?_append_right (by simp [rowL_len]), rowL_at _ _ _ (by omega)]
      simp [rowL_len, putX]
    · rw [List.getElem?_append_right (by simp [rowL_len]; omega)]
      simp only [List.length_append, rowL_len, List.length_singleton]
      by_cases h3 : j < L bi + 1
      · rw [rowL_at _ _ _ (by omega), rowL_at _ _ _ h3]
        have e : jj + (j - (jj + 1)) = j - 1 := by omega
        simp [putX, h1, h2, e]
      · rw [List.getElem?_eq_none (by simp [rowL_len]; omega), List.getElem?_eq_none (by simp [rowL_len]; omega)]

variable {b off n c : Nat} {A : Nat → Option Addr} {L C bb oo : Nat → Nat} {X : Nat → Nat → Nat}

/-- Where the cells of a row of the grid lie, whatever address its header bears. -/
theorem grid_cells {w : World} (g : Grid w b off n A L C bb oo X) (k : Nat) (hk : k < n) : ∀ ad, A k = some ad → ∀ t, t < L k → w.cell? (ad.add t) = some (.int .u64 (X k t)) := by
  intro ad ha t ht
  rw [g.adr k hk (by omega)] at ha
  obtain rfl := Option.some.inj ha
  rw [Addr.add_lit]; exact g.cell k hk t ht

theorem row_block' {w : World} {B e m n : Nat} {xs : List Value} (hm : m = n) (h : w.ownsRow B e 1 (.slice (some ⟨B, 0, none⟩) m n) m xs) : RowAt w B e xs := by
  subst hm; exact row_block h
theorem addr_add (a : Addr) (i j : Nat) : (a.add i).add j = a.add (i + j) := by
  unfold Addr.add
  by_cases h1 : i = 0 <;> by_cases h2 : j = 0 <;> simp [h1, h2, Nat.add_assoc]

/-- The cells of 'row[:jj]' and of 'row[jj:]', at whatever address the header bears. -/
theorem cells_head {w w2 : World} {ao : Option Addr} {l jj : Nat} {f : Nat → Nat} (hc : ∀ ad, ao = some ad → ∀ t, t < l → w.cell? (ad.add t) = some (.int .u64 (f t))) (hb : Below w.heap.size w w2) (hj : jj ≤ l) :
    ∀ ad, ao = some ad → ∀ j u, (rowL f jj)[j]? = some u → w2.cell? (ad.add j) = some u := by
  intro ad ha j u hu
  obtain ⟨h1, rfl⟩ := rowL_some hu
  exact cell_later hb (hc ad ha j (by omega))
theorem cells_tail {w w2 : World} {ao : Option Addr} {l cp jj : Nat} {f : Nat → Nat} (hc : ∀ ad, ao = some ad → ∀ t, t < l → w.cell? (ad.add t) = some (.int .u64 (f t))) (hb : Below w.heap.size w w2) (hl : l ≤ cp) :
    ∀ ad, (if cp = jj then ao else Option.map (fun a => a.add jj) ao) = some ad → ∀ j u, (rowL (fun t => f (jj + t)) (l - jj))[j]? = some u → w2.cell? (ad.add j) = some u := by
  intro ad ha j u hu
  obtain ⟨h1, rfl⟩ := rowL_some hu
  rw [if_neg (by omega)] at ha
  cases ao with
  | none => simp at ha
  | some a =>
    simp at ha
    subst ha
    rw [addr_add]
    exact cell_later hb (hc a rfl (jj + j) (by omega))
theorem none_tail {ao : Option Addr} {l cp jj : Nat} (hn : ao = none → cp = 0) (hl : l ≤ cp) : (if cp = jj then ao else Option.map (fun a => a.add jj) ao) = none → l - jj = 0 ∧ cp - jj = 0 := by
  intro h
  by_cases e : cp = jj
  · omega
  · rw [if_neg e] at h
    have := hn (by simpa using h)
    omega
theorem none_head {ao : Option Addr} {l cp jj : Nat} (hn : ao = none → cp = 0) (hl : l ≤ cp) (hj : jj ≤ l) : ao = none → jj = 0 ∧ cp = 0 := by
  intro h
  have := hn h
  omega

/-- What is known of the row of blocks 'put' (block B) after k rounds. -/
structure PutRel (w wr : World) (n : Nat) (A : Nat → Option Addr) (L C : Nat → Nat) (X : Nat → Nat → Nat) (bi jj x k : Nat) : Prop where
  bel : Below w.heap.size w wr
  rows : ∃ CB xs, RowAt wr w.heap.size 33 xs ∧ xs.length = n ∧ (∀ i, i < k → xs[i]? = some (.slice (putA A bi CB i) (putL L bi i) (putC L C bi i))) ∧
    (bi < k → w.heap.size < CB ∧ RowAt wr CB 28 (rowL (putX X bi jj x bi) (L bi + 1)))

theorem put_other {w wr : World} {bi jj x k : Nat} (hk : k < n) (hne : k ≠ bi) (h : PutRel w wr n A L C X bi jj x k) :
    PutRel w (wr.setCell ⟨w.heap.size, k, none⟩ (.slice (A k) (L k) (C k))) n A L C X bi jj x (k + 1) := by
  obtain ⟨hb, CB, xs, hr, hl, hx, hc⟩ := h
  refine ⟨hb.setCell (p := ⟨w.heap.size, k, none⟩) (Nat.le_refl _) _, CB, _, hr.store k _, by simpa using hl, fun i hi => ?_, fun hbi => ?_⟩
  · by_cases e : k = i
    · subst e
      rw [List.getElem?_set_self (by omega)]
      simp [putA, putL, putC, hne]
    · rw [List.getElem?_set_ne e]; exact hx i (by omega)
  · obtain ⟨h1, h2⟩ := hc (by omega)
    exact ⟨h1, h2.other (by omega) _⟩

theorem put_here {w wr wi : World} {bi jj x m : Nat} {ys : List Value} (hk : bi < n) (hm : m = L bi + 1) (h : PutRel w wr n A L C X bi jj x bi) (hi : Below wr.heap.size wr wi)
    (hy : RowAt wi wr.heap.size 28 ys) (hys : ys = rowL (putX X bi jj x bi) (L bi + 1)) :
    PutRel w (wi.setCell ⟨w.heap.size, bi, none⟩ (.slice (some ⟨wr.heap.size, 0, none⟩) m (L bi + 1))) n A L C X bi jj x (bi + 1) := by
  subst hm; subst hys
  obtain ⟨hb, CB, xs, hr, hl, hx, hc⟩ := h
  have hlt := hr.lt
  refine ⟨(hb.trans (hi.mono (by omega))).setCell (p := ⟨w.heap.size, bi, none⟩) (Nat.le_refl _) _, wr.heap.size, _, (hr.below hi hlt).store bi _, by simpa using hl, fun i hi' => ?_, fun _ => ⟨hlt, hy.other (by omega) _⟩⟩
  by_cases e : bi = i
  · subst e
    rw [List.getElem?_set_self (by omega)]
    simp [putA, putL, putC]
  · rw [List.getElem?_set_ne e, hx i (by omega)]
    have e' : i ≠ bi := fun h => e h.symm
    simp [putA, putL, putC, e']

/-- At the end: 'put' is a grid. -/
theorem put_grid {w wr : World} {bi jj x : Nat} (h0 : 0 < n) (hbi : bi < n) (g : Grid w b off n A L C bb oo X) (h : PutRel w wr n A L C X bi jj x n) (hL : L bi < 8192) :
    ∃ A' C' bb' oo', Grid wr w.heap.size 0 n A' (putL L bi) C' bb' oo' (putX X bi jj x) := by
  have gr := grid_below g h0 h.bel
  obtain ⟨hb, CB, xs, hr, hl, hx, hc⟩ := h
  obtain ⟨h1, h2⟩ := hc hbi
  refine ⟨putA A bi CB, putC L C bi, putB bb bi CB, putO oo bi, fun i hi => ?_, fun i hi => ?_, fun i hi hp => ?_, fun i hi ha => ?_, fun i hi j hj => ?_⟩
  · rw [Nat.zero_add, hr.cell, hx i hi]
  · by_cases e : i = bi
    · subst e; simp [putL, putC]; omega
    · simp [putL, putC, e]; exact g.len i hi
  · by_cases e : i = bi
    · subst e; simp [putA, putB, putO]
    · simp [putL, e] at hp
      simp [putA, putB, putO, e]; exact g.adr i hi hp
  · by_cases e : i = bi
    · subst e; simp [putA] at ha
    · simp [putA, e] at ha
      simp [putC, e]; exact g.nul i hi ha
  · by_cases e : i = bi
    · subst e
      simp only [putL, if_true] at hj
      simp only [putB, putO, if_true, Nat.zero_add]
      rw [h2.cell, rowL_at _ _ _ hj]
    · simp only [putL, e, if_false] at hj
      simp only [putB, putO, e, if_false]
      rw [gr.cell i hi j hj]
      simp [putX, e]

theorem put_end {k0 j0 x : Nat} (h : k0 = n - 1) (hj : j0 = L k0) : putX X k0 j0 x (n - 1) (putL L k0 (n - 1) - 1) = x ∧ putL L k0 (n - 1) = L (n - 1) + 1 := by
  subst h; subst hj; simp [putX, putL]
theorem put_mid {k0 j0 x : Nat} (h : k0 = n - 1) (hj : j0 < L k0) : putX X k0 j0 x (n - 1) (putL L k0 (n - 1) - 1) = X (n - 1) (L (n - 1) - 1) ∧ putL L k0 (n - 1) = L (n - 1) + 1 := by
  subst h
  have h1 : ¬ L (n - 1) < j0 := by omega
  have h2 : ¬ L (n - 1) = j0 := by omega
  simp [putX, putL, h1, h2]
theorem put_off {k0 j0 x : Nat} (h : ¬ k0 = n - 1) : putX X k0 j0 x (n - 1) (putL L k0 (n - 1) - 1) = X (n - 1) (L (n - 1) - 1) ∧ putL L k0 (n - 1) = L (n - 1) := by
  have h' : ¬ n - 1 = k0 := fun e => h e.symm
  simp [putX, putL, h']
theorem putL_le {k0 : Nat} (hL : ∀ i, i < n → L i ≤ 8192) (h8 : L k0 < 8192) : ∀ i, i < n → putL L k0 i ≤ 8192 := fun i hi => by
  by_cases e : i = k0
  · subst e; simp [putL]; omega
  · simp [putL, e]; exact hL i hi
theorem putL_pos {k0 : Nat} (h1 : 0 < L (n - 1)) : 0 < putL L k0 (n - 1) := by
  by_cases e : n - 1 = k0
  · simp [putL, e]
  · simp [putL, e]; exact h1
end Go.Proofs.Qxb6614997a
