/-
  CountObjects (function 7) at an Error: one more than what lies below it.
-/
import Derived.Test.YoedwwCount0
namespace Go.Proofs.Yoedww
open Go.RowKit Go.Maps

theorem ret_int {k : IntKind} {a b : Int} (h : a = b) : Ending.returned (.int k a) = .returned (.int k b) := by rw [h]

set_option maxHeartbeats 400000 in
theorem count53 (g t' g' n' : Nat) (w : World) (hc : w.cell? ⟨g, 0, none⟩ = some (.iface t' (.pointer (some ⟨g', 0, none⟩)))) (hn : n' ≤ 1000000000)
    (ih : Hid (Calls Edwg.prog 7 #[.iface t' (.pointer (some ⟨g', 0, none⟩))] w fun e w' => e = .returned (.int .i64 n') ∧ Below w.heap.size w w')) :
    Calls Edwg.prog 7 #[.iface 53 (.pointer (some ⟨g, 0, none⟩))] w fun e w' => e = .returned (.int .i64 ((1 + n' : Nat) : Int)) ∧ Below w.heap.size w w' := by
  have h1 := ta53_35 g
  have h2 := ta53_56 g
  have h3 := ta53_39 g
  have h4 := ta53_58 g
  have h5 := ta53_53 g
  go_enter Edwg.func7, Edwg.ntmps7
  go_wp2_with (go_at_call 7; refine (ih.out).mono ?_; rintro e w' ⟨rfl, hb⟩)
  go_ret
  exact ⟨ret_int (by omega), hb⟩

end Go.Proofs.Yoedww
