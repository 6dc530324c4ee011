import Derived.Test.Qxb6614997aLaw3
namespace Go.Proofs.Qxb6614997a
open Go.RowKit

/-- A pageRead at block R, its place at block S, endsKept true. -/
structure PR (w : World) (R S B n G l x : Nat) (po fi m mo : Int) : Prop where
  pl : w.cell? ⟨R, 0, none⟩ = some (.pointer (some ⟨S, 0, none⟩))
  cm : w.cell? ⟨R, 5, none⟩ = some (.int .i64 m)
  cf : w.cell? ⟨R, 8, none⟩ = some (.int .i64 fi)
  cp : w.cell? ⟨R, 10, none⟩ = some (.int .i64 po)
  ce : w.cell? ⟨R, 11, none⟩ = some (.bool true)
  co : w.cell? ⟨S, 8, none⟩ = some (.int .i64 mo)
  kb : KB w S 2 B n G l x

set_option maxHeartbeats 1000000 in
theorem newPage_any {w : World} {K B n G l x : Nat} {t : Int} (h : KB w K 0 B n G l x) (ht : w.cell? ⟨K, 1, none⟩ = some (.int .i64 t)) (po fi m mo : Int) :
    Calls Try.prog 16 #[.int .i64 po, .int .i64 fi, .bool true, .int .i64 m, .int .i64 mo, .pointer (some ⟨K, 0, none⟩)] w fun e w' => ∃ R S, e = .returned (.pointer (some ⟨R, 0, none⟩)) ∧ Below w.heap.size w w' ∧ PR w' R S B n G l x po fi m mo := by
  have hh := h
  obtain ⟨hd, row, key, n1, n2, l1, l2⟩ := h
  have HH : Hid _ := hh
  clear hh
  go_enter Try.func16, Try.ntmps16
  go_wp2
  go_ret
  refine ⟨w.heap.size + 1, w.heap.size, rfl, ((Below.refl _ _).alloc (Nat.le_refl _) _).alloc (by simp) _, by simp, by simp, by simp, by simp, by simp, by simp, ?_⟩
  have hb := kb_below HH.out (((Below.refl _ _).alloc (Nat.le_refl _) (.cells #[.string { data := #[] }, .int .u64 0, .slice (some ⟨B, 0, none⟩) n n, .int .i64 t, .slice none 0 0, .int .i64 0, .int .u64 0, .int .i64 0, .int .i64 mo, .bool false, .int .i64 0, .int .i64 0, .bool false, .int .i64 0, .int .i64 0, .int .i64 0, .bool false, .bool false] 54)).alloc (by simp) (.cells #[.pointer (some ⟨w.heap.size, 0, none⟩), .int .i64 0, .bool false, .bool false, .nilFunc, .int .i64 m, .int .i64 0, .int .i64 0, .int .i64 fi, .bool false, .int .i64 po, .bool true, .slice none 0 0, .int .i64 0, .int .i64 0] 57))
  exact ⟨by simp, hb.row, hb.key, n1, n2, l1, l2⟩

/-- What showsPlace says of a page that ends with a kept item. -/
def shows (po m mo : Int) : Bool := decide (po = 0) || decide (mo ≤ m)

theorem lastPos_same {w : World} {K o B n G l x : Nat} (h : KB w K o B n G l x) :
    Calls Try.prog 18 #[.pointer (some ⟨K, o, none⟩)] w fun e w' => e = .returned (.int .i64 (((n : Int) - 1) * 8192 + (l : Int) - 1)) ∧ w' = w :=
  (lastPos_any h).mono fun _ _ ⟨h1, h2⟩ => ⟨h1, h2.symm⟩

theorem ret_bool {a b : Bool} (h : a = b) : Ending.returned (.bool a) = .returned (.bool b) := by rw [h]

set_option maxHeartbeats 1000000 in
theorem shows_any {w : World} {R S B n G l x : Nat} {po fi m mo : Int} (h : PR w R S B n G l x po fi m mo) :
    Calls Try.prog 19 #[.pointer (some ⟨R, 0, none⟩)] w fun e w' => e = .returned (.bool (shows po m mo)) ∧ ∃ d, w' = w.drewN d := by
  obtain ⟨pl, cm, cf, cp, ce, co, kb⟩ := h
  by_cases hp : po = 0
  · subst hp
    go_enter Try.func19, Try.ntmps19
    go_wp2
    go_ret
    exact ⟨ret_bool (by simp [shows]), 0, rfl⟩
  have hpb : (po == 0) = false := beq_eq_false_iff_ne.2 hp
  have HP : Hid _ := hp
  clear hp
  by_cases hq : fi = ((n : Int) - 1) * 8192 + (l : Int) - 1
  · have hqb : (fi == ((n : Int) - 1) * 8192 + (l : Int) - 1) = true := beq_iff_eq.2 hq
    clear hq
    go_enter Try.func19, Try.ntmps19
    go_wp2
    go_quiet ((go_at_call 18; exact Calls.quiet_of_same (lastPos_same (by exact kb_drew kb))))
    go_wp2
    go_quiet (fail)
    go_wp2
    go_ret
    exact ⟨ret_bool (by simp [shows]; exact fun h => absurd h HP.out), _, World.drewN_drewN _ _ _⟩
  · have hqb : (fi == ((n : Int) - 1) * 8192 + (l : Int) - 1) = false := beq_eq_false_iff_ne.2 hq
    clear hq
    go_enter Try.func19, Try.ntmps19
    go_wp2
    go_quiet ((go_at_call 18; exact Calls.quiet_of_same (lastPos_same (by exact kb_drew kb))))
    go_wp2
    go_quiet (fail)
    go_wp2
    go_ret
    exact ⟨ret_bool (by simp [shows]; exact fun h => absurd h HP.out), _, World.drewN_drewN _ _ _⟩

set_option maxHeartbeats 400000 in
theorem zzshows_any {w : World} {R S B n G l x : Nat} {po fi m mo : Int} (h : PR w R S B n G l x po fi m mo) :
    Calls Try.prog 15 #[.pointer (some ⟨R, 0, none⟩)] w fun e w' => e = .returned (.bool (shows po m mo)) ∧ ∃ d, w' = w.drewN d := by
  go_enter Try.func15, Try.ntmps15
  go_wp2_with (go_at_call 19; refine (shows_any h).mono ?_; rintro e w' ⟨rfl, d, rfl⟩)
  go_ret
  exact ⟨rfl, _, rfl⟩
end Go.Proofs.Qxb6614997a
