/-
  zzItoa (function 11) at 0, 1 and 2.
-/
import Derived.Test.YoedwwTree
namespace Go.Proofs.Yoedww
open Go.RowKit Go.Maps

set_option maxHeartbeats 400000 in
theorem itoa0 (w : World) : Calls Edwg.prog 11 #[.int .i64 0] w fun e w' => e = .returned (.string ⟨#[48]⟩) ∧ Below w.heap.size w w' := by
  go_enter Edwg.func11, Edwg.ntmps11
  go_wp2_with fail
  go_ret
  exact ⟨rfl, (Below.refl _ _).alloc (Nat.le_refl _) _⟩

set_option maxHeartbeats 400000 in
theorem itoa1 (w : World) : Calls Edwg.prog 11 #[.int .i64 1] w fun e w' => e = .returned (.string ⟨#[49]⟩) ∧ Below w.heap.size w w' := by
  have hcv : (convert 22 9 (.slice (some ⟨w.heap.size, 19, none⟩) 1 1)).run Edwg.prog (w.alloc (.cells #[.int .u8 0, .int .u8 0, .int .u8 0, .int .u8 0, .int .u8 0, .int .u8 0, .int .u8 0, .int .u8 0, .int .u8 0, .int .u8 0, .int .u8 0, .int .u8 0, .int .u8 0, .int .u8 0, .int .u8 0, .int .u8 0, .int .u8 0, .int .u8 0, .int .u8 0, .int .u8 49] 61)) = .ok (.string ⟨#[49]⟩) (w.alloc (.cells #[.int .u8 0, .int .u8 0, .int .u8 0, .int .u8 0, .int .u8 0, .int .u8 0, .int .u8 0, .int .u8 0, .int .u8 0, .int .u8 0, .int .u8 0, .int .u8 0, .int .u8 0, .int .u8 0, .int .u8 0, .int .u8 0, .int .u8 0, .int .u8 0, .int .u8 0, .int .u8 49] 61)) :=
    run_convert_bytes_back _ 22 9 5 ⟨w.heap.size, 19, none⟩ 1 [49] Edwg.underlying22 Edwg.underlying5 Edwg.underlying9 (fun j hj => by
      obtain rfl : j = 0 := by simp at hj; omega
      simp [Addr.add])
  go_enter Edwg.func11, Edwg.ntmps11
  go_wp2_with fail
  refine wp_loop_rounds 2 ?_
  rw [rounds_succ]
  go_wp2_with fail
  rw [rounds_succ]
  go_wp2_with fail
  go_ret
  exact ⟨rfl, (Below.refl _ _).alloc (Nat.le_refl _) _⟩

set_option maxHeartbeats 400000 in
theorem itoa2 (w : World) : Calls Edwg.prog 11 #[.int .i64 2] w fun e w' => e = .returned (.string ⟨#[50]⟩) ∧ Below w.heap.size w w' := by
  have hcv : (convert 22 9 (.slice (some ⟨w.heap.size, 19, none⟩) 1 1)).run Edwg.prog (w.alloc (.cells #[.int .u8 0, .int .u8 0, .int .u8 0, .int .u8 0, .int .u8 0, .int .u8 0, .int .u8 0, .int .u8 0, .int .u8 0, .int .u8 0, .int .u8 0, .int .u8 0, .int .u8 0, .int .u8 0, .int .u8 0, .int .u8 0, .int .u8 0, .int .u8 0, .int .u8 0, .int .u8 50] 61)) = .ok (.string ⟨#[50]⟩) (w.alloc (.cells #[.int .u8 0, .int .u8 0, .int .u8 0, .int .u8 0, .int .u8 0, .int .u8 0, .int .u8 0, .int .u8 0, .int .u8 0, .int .u8 0, .int .u8 0, .int .u8 0, .int .u8 0, .int .u8 0, .int .u8 0, .int .u8 0, .int .u8 0, .int .u8 0, .int .u8 0, .int .u8 50] 61)) :=
    run_convert_bytes_back _ 22 9 5 ⟨w.heap.size, 19, none⟩ 1 [50] Edwg.underlying22 Edwg.underlying5 Edwg.underlying9 (fun j hj => by
      obtain rfl : j = 0 := by simp at hj; omega
      simp [Addr.add])
  go_enter Edwg.func11, Edwg.ntmps11
  go_wp2_with fail
  refine wp_loop_rounds 2 ?_
  rw [rounds_succ]
  go_wp2_with fail
  rw [rounds_succ]
  go_wp2_with fail
  go_ret
  exact ⟨rfl, (Below.refl _ _).alloc (Nat.le_refl _) _⟩

/-- The text of a digit. -/
def dig (k : Nat) : ByteArray := ⟨#[UInt8.ofNat (48 + k)]⟩

/-- The three together. -/
theorem itoa_any (k : Nat) (hk : k < 3) (w : World) : Calls Edwg.prog 11 #[.int .i64 (k : Int)] w fun e w' => e = .returned (.string (dig k)) ∧ Below w.heap.size w w' := by
  match k, hk with
  | 0, _ => exact itoa0 w
  | 1, _ => exact itoa1 w
  | 2, _ => exact itoa2 w

theorem key_of (k : Nat) : keyOf Edwg.prog 9 (.string (dig k)) = some (key k) := by
  simp [keyOf, mapKey, Edwg.underlying9, key, dig, ByteArray.size, maxLen]

end Go.Proofs.Yoedww
