import Derived.Test.Qxb6614532aFmtBRead4
import Derived.Deep.LoopGhost
namespace Go.Proofs.Qxb6614532aFmt
open Go.RowKit
set_option linter.unusedVariables false
theorem Tryf.nilRead50 (a : Addr) (w : World) : (nilAhead 231 50 (.pointer (some a)) "Read").run Tryf.prog w = .ok (some false) w := by kernel_rfl
theorem Tryf.methodRead50 (a : Addr) (w : World) : (Go.method 231 50 (.pointer (some a)) "Read").run Tryf.prog w = .ok (56, .pointer (some a)) w := by kernel_rfl

theorem splice_more (ys : List Value) (o k k' : Nat) (F : Nat → Nat) (h : o + (k + k') ≤ ys.length) :
    splice (splice ys o (bytesL F k)) (o + k) (bytesL (fun j => F (k + j)) k') = splice ys o (bytesL F (k + k')) := by
  have h1 : (splice ys o (bytesL F k)).length = ys.length := splice_len _ _ _ (by rw [bytesL_len]; omega)
  apply List.ext_getElem?
  intro t
  by_cases a : t < o
  · rw [splice_before _ _ _ (by rw [bytesL_len, h1]; omega) _ (by omega), splice_before _ _ _ (by rw [bytesL_len]; omega) _ a, splice_before _ _ _ (by rw [bytesL_len]; omega) _ a]
  · by_cases b : t < o + k
    · obtain ⟨u, rfl⟩ : ∃ u, t = o + u := ⟨t - o, by omega⟩
      rw [splice_before _ _ _ (by rw [bytesL_len, h1]; omega) _ b, splice_in _ _ _ (by rw [bytesL_len]; omega) _ (by rw [bytesL_len]; omega), splice_in _ _ _ (by rw [bytesL_len]; omega) _ (by rw [bytesL_len]; omega), bytesL_at _ _ _ (by omega), bytesL_at _ _ _ (by omega)]
    · by_cases d : t < o + (k + k')
      · obtain ⟨u, rfl⟩ : ∃ u, t = o + k + u := ⟨t - o - k, by omega⟩
        rw [splice_in _ _ _ (by rw [bytesL_len, h1]; omega) _ (by rw [bytesL_len]; omega), show o + k + u = o + (k + u) by omega, splice_in _ _ _ (by rw [bytesL_len]; omega) _ (by rw [bytesL_len]; omega), bytesL_at _ _ _ (by omega), bytesL_at _ _ _ (by omega)]
      · rw [splice_behind _ _ _ (by rw [bytesL_len, h1]; omega) _ (by rw [bytesL_len]; omega), splice_behind _ _ _ (by rw [bytesL_len]; omega) _ (by rw [bytesL_len]; omega), splice_behind _ _ _ (by rw [bytesL_len]; omega) _ (by rw [bytesL_len]; omega)]

section
variable {w : World} {BR BB BY N c bS oS r v i q g o m cm : Nat} {ao : Option Addr} {f : Nat → Nat} {aE aU : Addr} {er : Value} {ys : List Value}

/-- Read, at every state. -/
theorem bread_any (h : St w BR BB BY ao N c bS oS f r v i .nilIface) (hq : i - (v - r) = q) (hm : 0 < m) (hr : RowAt w g 5 ys) (ho : o + m ≤ ys.length) (hg : g ∉ [BR, BB, BY]) (hgS : 0 < N → bS ≠ g) (hu : ∀ t, f t < 256) (hm63 : m ≤ 9223372036854775807) (gE : w.cell? ⟨0, 0, none⟩ = some (.iface 90 (.pointer (some aE)))) (hz : 0 ∉ [BR, BB, BY]) :
    Calls Tryf.prog 56 #[.pointer (some ⟨BR, 0, none⟩), .slice (some ⟨g, o, none⟩) m cm] w fun e w' => ReadPost w w' BR BB BY ao N c bS oS f q g o m ys aE e := by
  have rv := h.rv
  by_cases h1 : r < v
  · exact bread_in h hq h1 hm hr ho hg hgS
  · obtain rfl : v = r := by omega
    obtain rfl : i = q := by omega
    by_cases h2 : i < N
    · by_cases h3 : m < 4096
      · exact bread_small_some h h2 hm h3 hr ho hg hgS
      · exact bread_big_some h h2 (by omega) hr ho hg hgS hu hm63
    · by_cases h3 : m < 4096
      · exact bread_small_eof h (by omega) hm h3 hr hg gE hz
      · exact bread_big_eof h (by omega) (by omega) hr hg gE hz

/-- What a full read leaves. -/
def FullPost (w w' : World) (BR BB BY : Nat) (ao : Option Addr) (N c bS oS : Nat) (f : Nat → Nat) (q g o m : Nat) (ys : List Value) (aE aU : Addr) (e : Ending) : Prop :=
  ∃ k r v i er, e = .returned (.tuple #[.int .i64 (k : Nat), er]) ∧ St w' BR BB BY ao N c bS oS f r v i .nilIface ∧ i - (v - r) = q + k ∧ RowAt w' g 5 (splice ys o (bytesL (fun j => f (q + j)) k)) ∧ Touch [BR, BB, BY, g] w w' ∧
    ((k = m ∧ er = .nilIface) ∨ (k < m ∧ q + k = N ∧ ((k = 0 ∧ er = .iface 90 (.pointer (some aE))) ∨ (0 < k ∧ er = .iface 90 (.pointer (some aU))))))

/-- The loop's relation. -/
def FullRel (w wr : World) (BR BB BY : Nat) (ao : Option Addr) (N c bS oS : Nat) (f : Nat → Nat) (q g o m : Nat) (ys : List Value) (aE : Addr) (gk k : Nat) (er : Value) : Prop :=
  ∃ r v i, St wr BR BB BY ao N c bS oS f r v i .nilIface ∧ i - (v - r) = q + k ∧ RowAt wr g 5 (splice ys o (bytesL (fun j => f (q + j)) k)) ∧ Touch [BR, BB, BY, g] w wr ∧ k ≤ m ∧
    ((er = .nilIface ∧ gk = m - k + 1) ∨ (er = .iface 90 (.pointer (some aE)) ∧ k < m ∧ q + k = N ∧ gk = 0))

set_option maxRecDepth 100000 in
set_option maxHeartbeats 1000000 in
theorem atLeast_any (h : St w BR BB BY ao N c bS oS f r v i .nilIface) (hq : i - (v - r) = q) (hm : 0 < m) (hmc : m ≤ cm) (hr : RowAt w g 5 ys) (ho : o + m ≤ ys.length) (hg : g ∉ [BR, BB, BY]) (hgS : 0 < N → bS ≠ g) (hu : ∀ t, f t < 256) (hm63 : m ≤ 4194304) (hc63 : cm ≤ 9223372036854775807)
    (gE : w.cell? ⟨0, 0, none⟩ = some (.iface 90 (.pointer (some aE)))) (gU : w.cell? ⟨1, 0, none⟩ = some (.iface 90 (.pointer (some aU)))) (hz : ∀ k ∈ [BR, BB, BY, g], 2 ≤ k) :
    Calls Tryf.prog 31 #[.iface 50 (.pointer (some ⟨BR, 0, none⟩)), .slice (some ⟨g, o, none⟩) m cm, .int .i64 m] w fun e w' => FullPost w w' BR BB BY ao N c bS oS f q g o m ys aE aU e := by
  obtain ⟨ci, hi, hcmp⟩ := Option.map_eq_some_iff.1 Tryf.isComp
  obtain ⟨cj, hj, hjs⟩ := Option.map_eq_some_iff.1 Tryf.isSize
  have heq := fun wx => run_eql_iface_ptr_same (P := Tryf.prog) wx aE Tryf.underlying30 Tryf.underlying90 hi hcmp hj
  have nR := Tryf.nilRead50
  have mR := Tryf.methodRead50
  have HS := hideP h
  have HQ := hideP hq
  have HR := hideP hr
  have HGE := hideP gE
  have HGU := hideP gU
  have hmm : ¬ (m : Int) < (m : Int) := by omega
  have h0 : 0 ∉ [BR, BB, BY, g] := fun hx => by have := hz 0 hx; omega
  have h1 : 1 ∉ [BR, BB, BY, g] := fun hx => by have := hz 1 hx; omega
  have H0 := hideP h0
  have H1 := hideP h1
  have HG := hideP hg
  clear h hq hr gE gU h0 h1 hg hz
  go_enter Tryf.func31, Tryf.ntmps31
  go_wp2
  go_loopg [6, 7] (m + 1) (fun gk n er wr => ∃ k : Nat, n = .int .i64 k ∧ FullRel w wr BR BB BY ao N c bS oS f q g o m ys aE gk k er)
  case atStart =>
    refine ⟨0, rfl, r, v, i, HS.out, HQ.out, ?_, Touch.refl _ _, Nat.zero_le _, .inl ⟨rfl, by omega⟩⟩
    rw [splice_nil]; exact HR.out
  case round =>
    obtain ⟨k, rfl, r, v, i, hs, hq, hrow, ht, hkm, hc⟩ := hrel
    have HS := hideP hs
    have HQ := hideP hq
    have HRW := hideP hrow
    have HT := hideP ht
    have gE := ht.cell HGE.out (by exact H0.out)
    have gU := ht.cell HGU.out (by exact H1.out)
    have hk0 : (0 : Int) ≤ (k : Int) := by omega
    have hkmI : (k : Int) ≤ (m : Int) := by omega
    have hmcI : (m : Int) ≤ (cm : Int) := by omega
    rcases hc with ⟨rfl, hgk⟩ | ⟨rfl, hlt, hN, hgk⟩
    · by_cases hlt : k < m
      · have hltI : (k : Int) < (m : Int) := by omega
        have hck : ¬ cm = k := by omega
        have HRD := hideP (bread_any (w := wr.drew) (cm := cm - k) (o := o + k) (m := m - k) (by exact St.drewN (d := 1) hs) hq (by omega) (by exact hrow) (by rw [splice_len _ _ _ (by rw [bytesL_len]; omega)]; omega) HG.out hgS hu (by omega) (by exact gE) (fun hx => H0.out (by simp at hx ⊢; omega)))
        clear hs hq hrow ht
        go_wp2
        go_region_held3 (fun _ => True) (trivial) ((go_at_call 56; refine HRD.out.mono ?_; rintro e w2 ⟨k2, r2, v2, i2, er2, rfl, hs2, hq2, hr2, ht2, hc2⟩; have HS2 := hideP hs2; have HQ2 := hideP hq2; have HR2 := hideP hr2; have HT2 := hideP ht2; have HC2 := hideP hc2; clear hs2 hq2 hr2 ht2 hc2))
        have hT2 : Touch [BR, BB, BY, g] w w2 := HT.out.trans (show Touch [BR, BB, BY, g] wr w2 from ⟨HT2.out.os, HT2.out.tape, HT2.out.output, HT2.out.size, HT2.out.block⟩)
        have HTT := hideP hT2
        clear hT2 HRD
        rcases HC2.out with ⟨k20, k2m, rfl⟩ | ⟨rfl, hqN, rfl⟩
        · have hkk : (k : Int) + (k2 : Int) ≤ (m : Int) := by omega
          have hRW : RowAt w2 g 5 (splice ys o (bytesL (fun j => f (q + j)) (k + k2))) := by
            have := HR2.out
            rw [show (fun j => f (q + k + j)) = (fun j => (fun j => f (q + j)) (k + j)) by funext j; show f _ = f _; congr 1; omega, splice_more _ _ _ _ (fun j => f (q + j)) (by omega)] at this
            exact this
          have HRW2 := hideP hRW
          clear hRW HC2
          go_wp2
          go_roundg (m - (k + k2) + 1)
          case measure => omega
          case rel => exact ⟨k + k2, by go_num, r2, v2, i2, HS2.out, by have := HQ2.out; omega, HRW2.out, HTT.out, by omega, .inl ⟨rfl, rfl⟩⟩
        · have hRW : RowAt w2 g 5 (splice ys o (bytesL (fun j => f (q + j)) k)) := by
            have := HR2.out
            rw [splice_nil] at this
            exact this
          have HRW2 := hideP hRW
          clear hRW HC2
          go_wp2
          go_roundg 0
          case measure => omega
          case rel => exact ⟨k, by go_num, r2, v2, i2, HS2.out, by have := HQ2.out; omega, HRW2.out, HTT.out, hkm, .inr ⟨rfl, hlt, by omega, rfl⟩⟩
      · obtain rfl : k = m := by omega
        clear hs hq hrow ht
        go_wp2
        go_ret2
        exact ⟨k, r, v, i, _, rfl, HS.out, HQ.out, HRW.out, HT.out, .inl ⟨rfl, rfl⟩⟩
    · clear hs hq hrow ht
      have hltI : (k : Int) < (m : Int) := by omega
      by_cases hk : k = 0
      · subst hk
        go_wp2
        go_ret2
        exact ⟨0, r, v, i, _, rfl, HS.out, HQ.out, HRW.out, HT.out, .inr ⟨hlt, hN, .inl ⟨rfl, rfl⟩⟩⟩
      · have hkp : (0 : Int) < (k : Int) := by omega
        go_wp2
        go_ret2
        exact ⟨k, r, v, i, _, rfl, HS.out, HQ.out, HRW.out, HT.out, .inr ⟨hlt, hN, .inr ⟨by omega, rfl⟩⟩⟩
end
end Go.Proofs.Qxb6614532aFmt
