/-
  CountObjects (function 7): what each question of its type switch answers; an object with nothing below it.
-/
import Derived.Test.YoedwwTree
namespace Go.Proofs.Yoedww
open Go.RowKit Go.Maps

theorem ta26_35 (g : Nat) (w : World) : (Instr.typeAssert (.iface 26 (.pointer (some ⟨g, 0, none⟩))) 44 35 true).run Edwg.prog w = .ok (.tuple #[.pointer none, .bool false]) w := by kernel_rfl
theorem ta26_56 (g : Nat) (w : World) : (Instr.typeAssert (.iface 26 (.pointer (some ⟨g, 0, none⟩))) 44 56 true).run Edwg.prog w = .ok (.tuple #[.pointer none, .bool false]) w := by kernel_rfl
theorem ta26_39 (g : Nat) (w : World) : (Instr.typeAssert (.iface 26 (.pointer (some ⟨g, 0, none⟩))) 44 39 true).run Edwg.prog w = .ok (.tuple #[.pointer none, .bool false]) w := by kernel_rfl
theorem ta26_58 (g : Nat) (w : World) : (Instr.typeAssert (.iface 26 (.pointer (some ⟨g, 0, none⟩))) 44 58 true).run Edwg.prog w = .ok (.tuple #[.pointer none, .bool false]) w := by kernel_rfl
theorem ta26_53 (g : Nat) (w : World) : (Instr.typeAssert (.iface 26 (.pointer (some ⟨g, 0, none⟩))) 44 53 true).run Edwg.prog w = .ok (.tuple #[.pointer none, .bool false]) w := by kernel_rfl
theorem ta31_35 (g : Nat) (w : World) : (Instr.typeAssert (.iface 31 (.pointer (some ⟨g, 0, none⟩))) 44 35 true).run Edwg.prog w = .ok (.tuple #[.pointer none, .bool false]) w := by kernel_rfl
theorem ta31_56 (g : Nat) (w : World) : (Instr.typeAssert (.iface 31 (.pointer (some ⟨g, 0, none⟩))) 44 56 true).run Edwg.prog w = .ok (.tuple #[.pointer none, .bool false]) w := by kernel_rfl
theorem ta31_39 (g : Nat) (w : World) : (Instr.typeAssert (.iface 31 (.pointer (some ⟨g, 0, none⟩))) 44 39 true).run Edwg.prog w = .ok (.tuple #[.pointer none, .bool false]) w := by kernel_rfl
theorem ta31_58 (g : Nat) (w : World) : (Instr.typeAssert (.iface 31 (.pointer (some ⟨g, 0, none⟩))) 44 58 true).run Edwg.prog w = .ok (.tuple #[.pointer none, .bool false]) w := by kernel_rfl
theorem ta31_53 (g : Nat) (w : World) : (Instr.typeAssert (.iface 31 (.pointer (some ⟨g, 0, none⟩))) 44 53 true).run Edwg.prog w = .ok (.tuple #[.pointer none, .bool false]) w := by kernel_rfl
theorem ta35_35 (g : Nat) (w : World) : (Instr.typeAssert (.iface 35 (.pointer (some ⟨g, 0, none⟩))) 44 35 true).run Edwg.prog w = .ok (.tuple #[.pointer (some ⟨g, 0, none⟩), .bool true]) w := by kernel_rfl
theorem ta56_35 (g : Nat) (w : World) : (Instr.typeAssert (.iface 56 (.pointer (some ⟨g, 0, none⟩))) 44 35 true).run Edwg.prog w = .ok (.tuple #[.pointer none, .bool false]) w := by kernel_rfl
theorem ta56_56 (g : Nat) (w : World) : (Instr.typeAssert (.iface 56 (.pointer (some ⟨g, 0, none⟩))) 44 56 true).run Edwg.prog w = .ok (.tuple #[.pointer (some ⟨g, 0, none⟩), .bool true]) w := by kernel_rfl
theorem ta39_35 (g : Nat) (w : World) : (Instr.typeAssert (.iface 39 (.pointer (some ⟨g, 0, none⟩))) 44 35 true).run Edwg.prog w = .ok (.tuple #[.pointer none, .bool false]) w := by kernel_rfl
theorem ta39_56 (g : Nat) (w : World) : (Instr.typeAssert (.iface 39 (.pointer (some ⟨g, 0, none⟩))) 44 56 true).run Edwg.prog w = .ok (.tuple #[.pointer none, .bool false]) w := by kernel_rfl
theorem ta39_39 (g : Nat) (w : World) : (Instr.typeAssert (.iface 39 (.pointer (some ⟨g, 0, none⟩))) 44 39 true).run Edwg.prog w = .ok (.tuple #[.pointer (some ⟨g, 0, none⟩), .bool true]) w := by kernel_rfl
theorem ta58_35 (g : Nat) (w : World) : (Instr.typeAssert (.iface 58 (.pointer (some ⟨g, 0, none⟩))) 44 35 true).run Edwg.prog w = .ok (.tuple #[.pointer none, .bool false]) w := by kernel_rfl
theorem ta58_56 (g : Nat) (w : World) : (Instr.typeAssert (.iface 58 (.pointer (some ⟨g, 0, none⟩))) 44 56 true).run Edwg.prog w = .ok (.tuple #[.pointer none, .bool false]) w := by kernel_rfl
theorem ta58_39 (g : Nat) (w : World) : (Instr.typeAssert (.iface 58 (.pointer (some ⟨g, 0, none⟩))) 44 39 true).run Edwg.prog w = .ok (.tuple #[.pointer none, .bool false]) w := by kernel_rfl
theorem ta58_58 (g : Nat) (w : World) : (Instr.typeAssert (.iface 58 (.pointer (some ⟨g, 0, none⟩))) 44 58 true).run Edwg.prog w = .ok (.tuple #[.pointer (some ⟨g, 0, none⟩), .bool true]) w := by kernel_rfl
theorem ta53_35 (g : Nat) (w : World) : (Instr.typeAssert (.iface 53 (.pointer (some ⟨g, 0, none⟩))) 44 35 true).run Edwg.prog w = .ok (.tuple #[.pointer none, .bool false]) w := by kernel_rfl
theorem ta53_56 (g : Nat) (w : World) : (Instr.typeAssert (.iface 53 (.pointer (some ⟨g, 0, none⟩))) 44 56 true).run Edwg.prog w = .ok (.tuple #[.pointer none, .bool false]) w := by kernel_rfl
theorem ta53_39 (g : Nat) (w : World) : (Instr.typeAssert (.iface 53 (.pointer (some ⟨g, 0, none⟩))) 44 39 true).run Edwg.prog w = .ok (.tuple #[.pointer none, .bool false]) w := by kernel_rfl
theorem ta53_58 (g : Nat) (w : World) : (Instr.typeAssert (.iface 53 (.pointer (some ⟨g, 0, none⟩))) 44 58 true).run Edwg.prog w = .ok (.tuple #[.pointer none, .bool false]) w := by kernel_rfl
theorem ta53_53 (g : Nat) (w : World) : (Instr.typeAssert (.iface 53 (.pointer (some ⟨g, 0, none⟩))) 44 53 true).run Edwg.prog w = .ok (.tuple #[.pointer (some ⟨g, 0, none⟩), .bool true]) w := by kernel_rfl

theorem count26 (g : Nat) (w : World) : Calls Edwg.prog 7 #[.iface 26 (.pointer (some ⟨g, 0, none⟩))] w fun e w' => e = .returned (.int .i64 1) ∧ Below w.heap.size w w' := by
  have h1 := ta26_35 g
  have h2 := ta26_56 g
  have h3 := ta26_39 g
  have h4 := ta26_58 g
  have h5 := ta26_53 g
  go_enter Edwg.func7, Edwg.ntmps7
  go_wp2_with fail
  go_ret
  exact ⟨rfl, Below.refl _ _⟩

theorem count31 (g : Nat) (w : World) : Calls Edwg.prog 7 #[.iface 31 (.pointer (some ⟨g, 0, none⟩))] w fun e w' => e = .returned (.int .i64 1) ∧ Below w.heap.size w w' := by
  have h1 := ta31_35 g
  have h2 := ta31_56 g
  have h3 := ta31_39 g
  have h4 := ta31_58 g
  have h5 := ta31_53 g
  go_enter Edwg.func7, Edwg.ntmps7
  go_wp2_with fail
  go_ret
  exact ⟨rfl, Below.refl _ _⟩

end Go.Proofs.Yoedww
