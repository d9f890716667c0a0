/-
  fmt.Errorf at this program's two formats: a new error that is not nil, whatever fmt's text.
-/
import Derived.Test.Qxb6002384aFmtSet
import Derived.Stop.CallBack
import Derived.Stop.IfaceNil
import GoSem.ClaimData
namespace Go.Proofs.Qxb6002384aFmt
open Go.RowKit Go.Extern.Stop Go.Stop Go.Extern

theorem call22 (args : Array Value) (w : World) : (callFunc 22 args).run Tryf.prog w = ((FmtStop.errorf #[9, 53] #[27] args).run Tryf.prog w).andThen fun v w' => .ok (.value v) w' :=
  run_callFunc_extern Tryf.func22 (by kernel_rfl) (by kernel_rfl) (by kernel_rfl) (by kernel_rfl) args w
theorem fguard (name : String) (w : World) : (FmtStop.guard name).run Tryf.prog w = .ok () w := by kernel_rfl
theorem fmt0 : FmtStop.printed? ⟨#[37, 113, 32, 105, 115, 32, 110, 111, 116, 32, 97, 32, 112, 108, 97, 105, 110, 32, 100, 101, 99, 105, 109, 97, 108]⟩ 1 = some [(0, 113, false)] := by kernel_rfl
theorem fmt0r (w : World) : (FmtDoors.printed ⟨#[37, 113, 32, 105, 115, 32, 110, 111, 116, 32, 97, 32, 112, 108, 97, 105, 110, 32, 100, 101, 99, 105, 109, 97, 108]⟩ 1).run Tryf.prog w = .ok [(0, 113, false)] w := by kernel_rfl
def shape9 : List UInt8 := [12, 6, 0, 0, 0, 0, 0, 0, 0, 115, 116, 114, 105, 110, 103]
theorem op9q (name : String) (x : ByteArray) (w : World) : (FmtStop.operand name true 113 false (.iface 9 (.string x))).run Tryf.prog w = .ok (shape9, FmtStop.pack x.data.toList) w := by kernel_rfl
theorem ptr62 (w : World) : (FmtStop.ptrTo "errors.errorString").run Tryf.prog w = .ok 62 w := by kernel_rfl
theorem elem62 (w : World) : (elemOf 62).run Tryf.prog w = .ok 64 w := by kernel_rfl
theorem isErr62 (w : World) : (FmtDoors.textMethod 62 "Error").run Tryf.prog w = .ok true w := by kernel_rfl

set_option maxHeartbeats 1000000 in
set_option maxRecDepth 100000 in
theorem errorf_q (s : ByteArray) (b : Nat) (w : World) (hc : w.cell? ⟨b, 0, none⟩ = some (.iface 9 (.string s))) :
    Calls Tryf.prog 15 #[.string ⟨#[37, 113, 32, 105, 115, 32, 110, 111, 116, 32, 97, 32, 112, 108, 97, 105, 110, 32, 100, 101, 99, 105, 109, 97, 108]⟩, .slice (some ⟨b, 0, none⟩) 1 1] w fun e w' =>
      (∃ a, e = .returned (.iface 62 (.pointer (some a)))) ∧ Below w.heap.size w w' := by
  have f1 := call22
  have f2 := fguard
  have f3 := fmt0
  have f4 := fmt0r
  have f5 := op9q
  have f6 := ptr62
  have f7 := elem62
  have f8 := isErr62
  go_enter Tryf.func15, Tryf.ntmps15
  go_wp2
  go_ret
  exact ⟨⟨_, rfl⟩, ((Below.refl _ _).alloc (Nat.le_refl _) _).drew⟩

theorem fmt1 : FmtStop.printed? ⟨#[97, 32, 110, 117, 109, 98, 101, 114, 32, 111, 102, 32, 37, 100, 32, 100, 105, 103, 105, 116, 115, 32, 105, 115, 32, 37, 119, 44, 32, 119, 104, 105, 99, 104, 32, 104, 97, 115, 32, 97, 116, 32, 109, 111, 115, 116, 32, 37, 100]⟩ 3 = some [(0, 100, false), (1, 119, false), (2, 100, false)] := by kernel_rfl
theorem fmt1r (w : World) : (FmtDoors.printed ⟨#[97, 32, 110, 117, 109, 98, 101, 114, 32, 111, 102, 32, 37, 100, 32, 100, 105, 103, 105, 116, 115, 32, 105, 115, 32, 37, 119, 44, 32, 119, 104, 105, 99, 104, 32, 104, 97, 115, 32, 97, 116, 32, 109, 111, 115, 116, 32, 37, 100]⟩ 3).run Tryf.prog w = .ok [(0, 100, false), (1, 119, false), (2, 100, false)] w := by kernel_rfl
def shape3 : List UInt8 := [5, 3, 0, 0, 0, 0, 0, 0, 0, 105, 110, 116]
theorem op3d (name : String) (x : Int) (w : World) : (FmtStop.operand name true 100 false (.iface 3 (.int .i64 x))).run Tryf.prog w = .ok (shape3, Go.Extern.Stop.digits 8 (x % 2 ^ 64).toNat) w := by kernel_rfl
theorem str62 : ∃ nm : String, ∀ w, (typeStr 62).run Tryf.prog w = .ok nm w := ⟨(Tryf.prog.typeName? 3 62).getD "", fun w => by kernel_rfl⟩
theorem op62w : ∃ pl : List UInt8, ∀ (name : String) (a : Addr) (s : ByteArray) (w : World), w.cell? a = some (.string s) →
    (FmtStop.operand name true 119 false (.iface 62 (.pointer (some a)))).run Tryf.prog w = .ok (pl, s.data.toList) w := by
  obtain ⟨nm, h1⟩ := str62
  refine ⟨14 :: FmtStop.pack nm.toUTF8.data.toList, fun name a s w hc => ?_⟩
  have d2 : Tryf.t62.desc = .pointer 64 := rfl
  have d3 : Tryf.t64.desc = .named "errors.errorString" 63 := rfl
  simp [FmtStop.operand, h1 w, d2, d3, run_load, hc]
theorem ptr55 (w : World) : (FmtStop.ptrTo "fmt.wrapError").run Tryf.prog w = .ok 55 w := by kernel_rfl
theorem elem55 (w : World) : (elemOf 55).run Tryf.prog w = .ok 127 w := by kernel_rfl
theorem isErr55 (w : World) : (FmtDoors.textMethod 55 "Error").run Tryf.prog w = .ok true w := by kernel_rfl

set_option maxHeartbeats 1000000 in
set_option maxRecDepth 100000 in
theorem errorf_n (n : Int) (aT : Addr) (t : ByteArray) (b : Nat) (w : World) (hc0 : w.cell? ⟨b, 0, none⟩ = some (.iface 3 (.int .i64 n))) (hc1 : w.cell? ⟨b, 1, none⟩ = some (.iface 62 (.pointer (some aT)))) (hc2 : w.cell? ⟨b, 2, none⟩ = some (.iface 3 (.int .i64 40))) (ht : w.cell? aT = some (.string t)) :
    Calls Tryf.prog 15 #[.string ⟨#[97, 32, 110, 117, 109, 98, 101, 114, 32, 111, 102, 32, 37, 100, 32, 100, 105, 103, 105, 116, 115, 32, 105, 115, 32, 37, 119, 44, 32, 119, 104, 105, 99, 104, 32, 104, 97, 115, 32, 97, 116, 32, 109, 111, 115, 116, 32, 37, 100]⟩, .slice (some ⟨b, 0, none⟩) 3 3] w fun e w' =>
      (∃ a, e = .returned (.iface 55 (.pointer (some a)))) ∧ Below w.heap.size w w' := by
  have f1 := call22
  have f2 := fguard
  have f3 := fmt1
  have f4 := fmt1r
  have f5 := op3d
  obtain ⟨pl, hpl⟩ := op62w
  have f9 := fun name => hpl name aT t w ht
  clear hpl
  have f6 := ptr55
  have f7 := elem55
  have f8 := isErr55
  have f10 := isErr62
  go_enter Tryf.func15, Tryf.ntmps15
  go_wp2
  go_ret
  exact ⟨⟨_, rfl⟩, ((Below.refl _ _).alloc (Nat.le_refl _) _).drew⟩
end Go.Proofs.Qxb6002384aFmt
