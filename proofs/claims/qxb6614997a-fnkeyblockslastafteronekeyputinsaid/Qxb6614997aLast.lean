import Derived.Test.Qxb6614997aKeys
namespace Go.Proofs.Qxb6614997a
open Go.RowKit

/-- A keyBlocks at ⟨K, o⟩: n blocks in row B, the last of them lies at G, of l keys, the last key is x. -/
structure KB (w : World) (K o B n G l x : Nat) : Prop where
  hd : w.cell? ⟨K, o, none⟩ = some (.slice (some ⟨B, 0, none⟩) n n)
  row : w.cell? ⟨B, n - 1, none⟩ = some (.slice (some ⟨G, 0, none⟩) l l)
  key : w.cell? ⟨G, l - 1, none⟩ = some (.int .u64 x)
  n1 : 0 < n
  n2 : n ≤ 4096
  l1 : 0 < l
  l2 : l ≤ 8192

theorem ret_int {k : IntKind} {a b : Int} (h : a = b) : Ending.returned (.int k a) = .returned (.int k b) := by rw [h]

set_option maxHeartbeats 400000 in
theorem last_any {w : World} {K o B n G l x : Nat} (h : KB w K o B n G l x) :
    Calls Try.prog 17 #[.pointer (some ⟨K, o, none⟩)] w fun e w' => e = .returned (.int .u64 x) ∧ ∃ d, w' = w.drewN d := by
  obtain ⟨hd, row, key, n1, n2, l1, l2⟩ := h
  have e1 : ((n - 1 : Nat) : Int) = (n : Int) - 1 := by omega
  have e2 : ((l - 1 : Nat) : Int) = (l : Int) - 1 := by omega
  go_enter Try.func17, Try.ntmps17
  go_wp2
  go_quiet (fail)
  go_wp2
  go_ret
  exact ⟨rfl, _, rfl⟩

set_option maxHeartbeats 400000 in
theorem zzlast_any {w : World} {K o B n G l x : Nat} (h : KB w K o B n G l x) :
    Calls Try.prog 9 #[.pointer (some ⟨K, o, none⟩)] w fun e w' => e = .returned (.int .u64 x) ∧ ∃ d, w' = w.drewN d := by
  go_enter Try.func9, Try.ntmps9
  go_wp2_with (go_at_call 17; refine (last_any h).mono ?_; rintro e w' ⟨rfl, d, rfl⟩)
  go_ret
  exact ⟨rfl, _, rfl⟩

theorem or_join (a b : Nat) (ha : a ≤ 4096) (hb : b < 8192) : bits .or .i64 ((a : Int) * 8192) (b : Int) = (a : Int) * 8192 + (b : Int) := by
  have e : (a : Int) * 8192 = ((a * 8192 : Nat) : Int) := by omega
  have hj : a * 8192 ||| b = a * 8192 + b := nat_join 13 (a * 8192) b (by omega) (by omega)
  rw [e]
  show IntKind.i64.wrap ((BitVec.ofInt 64 ((a * 8192 : Nat) : Int) ||| BitVec.ofInt 64 (b : Int)).toNat : Int) = _
  rw [BitVec.toNat_or, ofInt_u64 _ (by omega), ofInt_u64 _ (by omega), hj]
  simp only [IntKind.wrap, IntKind.bits, IntKind.signed]
  simp
  omega

set_option maxHeartbeats 400000 in
theorem lastPos_any {w : World} {K o B n G l x : Nat} (h : KB w K o B n G l x) :
    Calls Try.prog 18 #[.pointer (some ⟨K, o, none⟩)] w fun e w' => e = .returned (.int .i64 (((n : Int) - 1) * 8192 + (l : Int) - 1)) ∧ w = w' := by
  obtain ⟨hd, row, key, n1, n2, l1, l2⟩ := h
  have e1 : ((n - 1 : Nat) : Int) = (n : Int) - 1 := by omega
  have e2 : ((l - 1 : Nat) : Int) = (l : Int) - 1 := by omega
  go_enter Try.func18, Try.ntmps18
  go_wp2
  go_ret
  refine ⟨ret_int ?_, rfl⟩
  have := or_join (n - 1) (l - 1) (by omega) (by omega)
  rw [e1, e2] at this
  rw [this]; omega

set_option maxHeartbeats 400000 in
theorem zzlastPos_any {w : World} {K o B n G l x : Nat} (h : KB w K o B n G l x) :
    Calls Try.prog 10 #[.pointer (some ⟨K, o, none⟩)] w fun e w' => e = .returned (.int .i64 (((n : Int) - 1) * 8192 + (l : Int) - 1)) ∧ w = w' := by
  go_enter Try.func10, Try.ntmps10
  go_wp2_with (go_at_call 18; refine (lastPos_any h).mono ?_; rintro e w' ⟨rfl, rfl⟩)
  go_ret
  exact ⟨rfl, rfl⟩

section
variable {b off n c : Nat} {A : Nat → Option Addr} {L C bb oo : Nat → Nat} {X : Nat → Nat → Nat}

set_option maxHeartbeats 400000 in
theorem posLast_any (w : World) (h0 : 0 < n) (hn : n ≤ 4096) (hl : L (n - 1) ≤ 8192) (g : Grid w b off n A L C bb oo X) :
    Calls Try.prog 11 #[.slice (some ⟨b, off, none⟩) n c] w fun e w' => e = .returned (.int .i64 (((n : Int) - 1) * 8192 + (L (n - 1) : Int) - 1)) ∧ w = w' := by
  have h1 := g.top (n - 1) (by omega)
  have e1 : ((n - 1 : Nat) : Int) = (n : Int) - 1 := by omega
  clear g
  go_enter Try.func11, Try.ntmps11
  go_wp2
  go_ret
  exact ⟨rfl, rfl⟩

set_option maxHeartbeats 1000000 in
theorem lastInOrder_any (w : World) (h0 : 0 < n) (hn : n ≤ 4096) (hL : ∀ i, i < n → L i ≤ 8192) (h1 : 0 < L (n - 1)) (g : Grid w b off n A L C bb oo X) :
    Calls Try.prog 12 #[.slice (some ⟨b, off, none⟩) n c] w fun e w' => e = .returned (.int .u64 (X (n - 1) (L (n - 1) - 1))) ∧ w = w' := by
  go_enter Try.func12, Try.ntmps12
  go_wp2
  go_loop [3, 4] (fun z i => ∃ k q : Nat, k ≤ n ∧ i = .int .i64 k ∧ z = .int .u64 q ∧ (0 < k → 0 < L (k - 1) → q = X (k - 1) (L (k - 1) - 1))) (fun _ i => n - (intOf i).toNat)
  case atStart => exact ⟨0, 0, Nat.zero_le _, rfl, rfl, fun h => absurd h (by omega)⟩
  case round =>
    obtain ⟨k, q, hk, rfl, rfl, hq⟩ := hrel
    by_cases hlt : k < n
    · clear hq
      have hlt' : (k : Int) < (n : Int) := by omega
      have hk0 : (0 : Int) ≤ (k : Int) := by omega
      have h2 := g.top k hlt
      have h3 := hL k hlt
      have HL : Hid _ := hL
      clear hL
      go_wp2
      go_loop [3, 5] (fun z i => ∃ m q : Nat, m ≤ L k ∧ i = .int .i64 m ∧ z = .int .u64 q ∧ (0 < m → q = X k (m - 1))) (fun _ i => L k - (intOf i).toNat)
      case atStart => exact ⟨0, q, Nat.zero_le _, rfl, rfl, fun h => absurd h (by omega)⟩
      case round =>
        obtain ⟨m, q, hm, rfl, rfl, hq⟩ := hrel
        by_cases hml : m < L k
        · have hml' : (m : Int) < (L k : Int) := by omega
          have hm0 : (0 : Int) ≤ (m : Int) := by omega
          have hc1 : w.cell? ⟨b, off + k, none⟩ = some (.slice (some ⟨bb k, oo k, none⟩) (L k) (C k)) := by rw [h2, g.adr k hlt (by omega)]
          have hc2 := g.cell k hlt m hml
          clear hq h2
          go_wp2
          go_round
          case rel => exact ⟨m + 1, X k m, by omega, by go_num, rfl, fun _ => rfl⟩
          case measure => simp [intOf]; omega
        · obtain rfl : m = L k := by omega
          have HQ : Hid _ := hq
          clear hq
          go_wp2
          go_round
          case rel => exact ⟨k + 1, q, by omega, by go_num, rfl, fun _ h => HQ.out h⟩
          case measure => simp [intOf]; omega
    · obtain rfl : k = n := by omega
      have hqq := hq h0 h1
      have HQ : Hid _ := hqq
      clear hq hqq
      go_wp2
      go_ret
      exact ⟨ret_int (congrArg (fun m : Nat => (m : Int)) HQ.out), rfl⟩
end
end Go.Proofs.Qxb6614997a
