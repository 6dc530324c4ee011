import Derived.Test.Qxb6614532aFmtIs
import Derived.Stop.CallBack
import Derived.Stop.IfaceNil
namespace Go.Proofs.Qxb6614532aFmt
open Go.RowKit Go.Extern.Stop Go.Stop Go.Extern

/-- The two formats' bytes. -/
def fmtFit : ByteArray := { data := #[37, 119, 58, 32, 105, 116, 115, 32, 108, 101, 110, 103, 116, 104, 32, 100, 111, 101, 115, 32, 110, 111, 116, 32, 102, 105, 116, 32, 105, 110, 32, 54, 52, 32, 98, 105, 116, 115] }
def fmtMore : ByteArray := { data := #[37, 119, 58, 32, 37, 100, 32, 98, 121, 116, 101, 115, 44, 32, 109, 111, 114, 101, 32, 116, 104, 97, 110, 32, 37, 100] }

theorem Tryf.call36 (args : Array Value) (w : World) : (callFunc 36 args).run Tryf.prog w = ((FmtStop.errorf #[9, 74] #[30] args).run Tryf.prog w).andThen fun v w' => .ok (.value v) w' :=
  run_callFunc_extern Tryf.func36 (by kernel_rfl) (by kernel_rfl) (by kernel_rfl) (by kernel_rfl) args w
theorem Tryf.guard36 (name : String) (w : World) : (FmtStop.guard name).run Tryf.prog w = .ok () w := by kernel_rfl
theorem Tryf.fmt0 : FmtStop.printed? ⟨#[37, 119, 58, 32, 105, 116, 115, 32, 108, 101, 110, 103, 116, 104, 32, 100, 111, 101, 115, 32, 110, 111, 116, 32, 102, 105, 116, 32, 105, 110, 32, 54, 52, 32, 98, 105, 116, 115]⟩ 1 = some [(0, 119, false)] := by kernel_rfl
theorem Tryf.fmt0r (w : World) : (FmtDoors.printed ⟨#[37, 119, 58, 32, 105, 116, 115, 32, 108, 101, 110, 103, 116, 104, 32, 100, 111, 101, 115, 32, 110, 111, 116, 32, 102, 105, 116, 32, 105, 110, 32, 54, 52, 32, 98, 105, 116, 115]⟩ 1).run Tryf.prog w = .ok [(0, 119, false)] w := by kernel_rfl
theorem Tryf.fmt1 : FmtStop.printed? ⟨#[37, 119, 58, 32, 37, 100, 32, 98, 121, 116, 101, 115, 44, 32, 109, 111, 114, 101, 32, 116, 104, 97, 110, 32, 37, 100]⟩ 3 = some [(0, 119, false), (1, 100, false), (2, 100, false)] := by kernel_rfl
theorem Tryf.fmt1r (w : World) : (FmtDoors.printed ⟨#[37, 119, 58, 32, 37, 100, 32, 98, 121, 116, 101, 115, 44, 32, 109, 111, 114, 101, 32, 116, 104, 97, 110, 32, 37, 100]⟩ 3).run Tryf.prog w = .ok [(0, 119, false), (1, 100, false), (2, 100, false)] w := by kernel_rfl
def shape36 : List UInt8 := FmtStop.intCode .u64 :: FmtStop.pack "uint64".toUTF8.data.toList
def shape3 : List UInt8 := 5 :: FmtStop.pack "int".toUTF8.data.toList
theorem Tryf.op36_100 (name : String) (x : Int) (w : World) : (FmtStop.operand name true 100 false (.iface 36 (.int .u64 x))).run Tryf.prog w = .ok (shape36, Go.Extern.Stop.digits 8 (x % 2 ^ 64).toNat) w := by kernel_rfl
theorem Tryf.op3_100 (name : String) (x : Int) (w : World) : (FmtStop.operand name true 100 false (.iface 3 (.int .i64 x))).run Tryf.prog w = .ok (shape3, Go.Extern.Stop.digits 8 (x % 2 ^ 64).toNat) w := by kernel_rfl
theorem Tryf.ptr76 (w : World) : (FmtStop.ptrTo "fmt.wrapError").run Tryf.prog w = .ok 76 w := by kernel_rfl
theorem Tryf.elem76 (w : World) : (elemOf 76).run Tryf.prog w = .ok 116 w := by kernel_rfl
theorem Tryf.isError90 (w : World) : (FmtDoors.textMethod 90 "Error").run Tryf.prog w = .ok true w := by kernel_rfl
theorem Tryf.isError76 (w : World) : (FmtDoors.textMethod 76 "Error").run Tryf.prog w = .ok true w := by kernel_rfl
theorem Tryf.opPlain90 (name : String) (a : Addr) (s : ByteArray) (w : World) (hc : w.cell? a = some (.string s)) :
    ∃ sh, (FmtStop.operand name true 119 false (.iface 90 (.pointer (some a)))).run Tryf.prog w = .ok (sh, s.data.toList) w := by
  obtain ⟨nm, h1⟩ : ∃ nm, (typeStr 90).run Tryf.prog w = .ok nm w := ⟨(Tryf.prog.typeName? 3 90).getD "", by kernel_rfl⟩
  have d2 : Tryf.t90.desc = .pointer 92 := rfl
  have d3 : Tryf.t92.desc = .named "errors.errorString" 91 := rfl
  refine ⟨14 :: FmtStop.pack nm.toUTF8.data.toList, ?_⟩
  simp [FmtStop.operand, h1, d2, d3, run_load, hc]

set_option maxRecDepth 100000 in
set_option maxHeartbeats 1000000 in
theorem errorf_fit (F : Interp) (vb : Nat) (aT : Addr) (s : ByteArray) (w : World) (hF : F.answers w.tape) (h0 : w.cell? ⟨vb, 0, none⟩ = some (.iface 90 (.pointer (some aT)))) (hs : w.cell? aT = some (.string s)) :
    Calls Tryf.prog 28 #[.string fmtFit, .slice (some ⟨vb, 0, none⟩) 1 1] w fun e w' => e = .returned (.iface 76 (.pointer (some ⟨w.heap.size, 0, none⟩))) ∧
      ∃ t, w' = (w.alloc (.cells #[.string t, .iface 90 (.pointer (some aT))] 116)).drew := by
  have hF' := answers_open hF
  have c36 := Tryf.call36
  have gd := Tryf.guard36
  have f0 := Tryf.fmt0
  have f0r := Tryf.fmt0r
  have p76 := Tryf.ptr76
  have e76 := Tryf.elem76
  have i90 := Tryf.isError90
  have i76 := Tryf.isError76
  obtain ⟨sh, hop⟩ := Tryf.opPlain90 "fmt.errorf" aT s w hs
  unfold fmtFit
  go_enter Tryf.func28, Tryf.ntmps28
  go_wp2
  go_ret
  exact ⟨rfl, _, rfl⟩

set_option maxRecDepth 100000 in
set_option maxHeartbeats 1000000 in
theorem errorf_more (F : Interp) (vb : Nat) (aT : Addr) (s : ByteArray) (x y : Int) (w : World) (hF : F.answers w.tape) (h0 : w.cell? ⟨vb, 0, none⟩ = some (.iface 90 (.pointer (some aT)))) (h1 : w.cell? ⟨vb, 1, none⟩ = some (.iface 36 (.int .u64 x))) (h2 : w.cell? ⟨vb, 2, none⟩ = some (.iface 3 (.int .i64 y))) (hs : w.cell? aT = some (.string s)) :
    Calls Tryf.prog 28 #[.string fmtMore, .slice (some ⟨vb, 0, none⟩) 3 3] w fun e w' => e = .returned (.iface 76 (.pointer (some ⟨w.heap.size, 0, none⟩))) ∧
      ∃ t, w' = (w.alloc (.cells #[.string t, .iface 90 (.pointer (some aT))] 116)).drew := by
  have hF' := answers_open hF
  have c36 := Tryf.call36
  have gd := Tryf.guard36
  have f0 := Tryf.fmt1
  have f0r := Tryf.fmt1r
  have p76 := Tryf.ptr76
  have e76 := Tryf.elem76
  have i90 := Tryf.isError90
  have i76 := Tryf.isError76
  obtain ⟨sh, hop⟩ := Tryf.opPlain90 "fmt.errorf" aT s w hs
  have hu := Tryf.op36_100
  have hi := Tryf.op3_100
  unfold fmtMore
  go_enter Tryf.func28, Tryf.ntmps28
  go_wp2
  go_ret
  exact ⟨rfl, _, rfl⟩
end Go.Proofs.Qxb6614532aFmt
