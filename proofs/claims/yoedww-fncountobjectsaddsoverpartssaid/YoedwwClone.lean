/-
  zzBytes_.. (functions 5 and 9) and zzCloneShape (function 6).
-/
import Derived.Test.YoedwwBuild
import Derived.Deep.OwnRows
namespace Go.Proofs.Yoedww
open Go.RowKit Go.Maps

theorem bytes5_yes (a : Option Addr) (len cap : Nat) (w : World) (h : len ≤ 1048576) : Calls Edwg.prog 5 #[.slice a len cap] w fun e w' => e = .returned (.bool true) ∧ w' = w := by
  go_enter Edwg.func5, Edwg.ntmps5
  go_wp2_with fail
  go_ret
  exact ⟨rfl, rfl⟩

theorem bytes5_no (a : Option Addr) (len cap : Nat) (w : World) (h : 1048576 < len) : Calls Edwg.prog 5 #[.slice a len cap] w fun e w' => e = .returned (.bool false) ∧ w' = w := by
  go_enter Edwg.func5, Edwg.ntmps5
  go_wp2_with fail
  go_ret
  exact ⟨rfl, rfl⟩

theorem bytes9_yes (a : Option Addr) (len cap : Nat) (w : World) (h : len ≤ 1048576) : Calls Edwg.prog 9 #[.slice a len cap] w fun e w' => e = .returned (.bool true) ∧ w' = w := by
  go_enter Edwg.func9, Edwg.ntmps9
  go_wp2_with fail
  go_ret
  exact ⟨rfl, rfl⟩

theorem bytes9_no (a : Option Addr) (len cap : Nat) (w : World) (h : 1048576 < len) : Calls Edwg.prog 9 #[.slice a len cap] w fun e w' => e = .returned (.bool false) ∧ w' = w := by
  go_enter Edwg.func9, Edwg.ntmps9
  go_wp2_with fail
  go_ret
  exact ⟨rfl, rfl⟩

theorem Edwg.info5 : (Edwg.prog.info? 5).map (fun i => (i.zero, i.size, i.bytes)) = some (some (.int .u8 0), 1, 1) := by kernel_rfl

theorem isNil (w : World) (a : Option Addr) (n c n' c' : Nat) : (binOp .eql 22 (.slice a n c) (.slice none n' c')).run Edwg.prog w = .ok (.bool a.isNone) w := Lib.run_eql_slice_nil w _ _ a n c n' c' Edwg.underlying22

theorem clone_nil (w : World) : Calls Edwg.prog 6 #[.slice none 0 0] w fun e w' => e = .returned (.slice none 0 0) ∧ Below w.heap.size w w' := by
  have q22 := isNil
  go_enter Edwg.func6, Edwg.ntmps6
  go_wp2_with fail
  go_ret
  exact ⟨rfl, Below.refl _ _⟩

theorem clone_zero (x : Addr) (cap : Nat) (w : World) : Calls Edwg.prog 6 #[.slice (some x) 0 cap] w fun e w' => e = .returned (.slice (some ⟨w.heap.size, 0, none⟩) 0 0) ∧ Below w.heap.size w w' := by
  have q22 := isNil
  have hmk : ∀ W, (Instr.makeSlice 22 (.int .i64 0) (.int .i64 0)).run Edwg.prog W = .ok (.slice (some ⟨W.heap.size, 0, none⟩) 0 0) (W.alloc (.cells #[] 5)) := fun _ => by kernel_rfl
  go_enter Edwg.func6, Edwg.ntmps6
  go_wp2_with fail
  refine wp_loop_rounds 1 ?_
  rw [rounds_succ]
  go_wp2_with fail
  go_ret
  exact ⟨rfl, below_alloc _ _⟩

set_option maxHeartbeats 400000 in
theorem clone_row (b off len cap : Nat) (zs : List Int) (w : World) (hz : zs.length = len) (hlen : len ≤ 65536) (hpos : 0 < len) (hcell : ∀ i (hi : i < zs.length), w.cell? ⟨b, off + i, none⟩ = some (.int .u8 zs[i])) (hb : ∀ z ∈ zs, 0 ≤ z ∧ z ≤ 255) :
    Calls Edwg.prog 6 #[.slice (some ⟨b, off, none⟩) len cap] w fun e w' => e = .returned (.slice (some ⟨w.heap.size, 0, none⟩) len len) ∧ Shape w' w.heap.size zs ∧ Below w.heap.size w w' := by
  have q22 := isNil
  have hmk := run_make_row' (P := Edwg.prog) 22 5 (.int .u8 0) 1 Edwg.underlying22 Edwg.info5 rfl .i64 .i64 len (by omega) (by omega)
  have hblt : b < w.heap.size := World.block_lt_of_cell? w _ (hcell 0 (by omega))
  have hr0 : (w.alloc (.cells (madeCells #[.int .u8 0] len) 5)).rowIs w.heap.size 5 len (fun _ => .int .u8 0) := World.rowIs_made w (.int .u8 0) len 5
  have H : Hid (zs.length = len) := hz
  clear hz
  go_enter Edwg.func6, Edwg.ntmps6
  go_wp2_with fail
  go_loopw [4] (fun s4 wr => ∃ (j : Nat) (f : Nat → Value), j ≤ len ∧ s4 = .int .i64 (j : Int) ∧ wr.rowIs w.heap.size 5 len f ∧ (∀ i (hi : i < zs.length), i < j → f i = .int .u8 zs[i]) ∧ Below w.heap.size w wr ∧ w.heap.size < wr.heap.size) (fun s4 _ => len - (intOf s4).toNat)
  case atStart => exact ⟨0, _, Nat.zero_le _, rfl, hr0, fun i _ h => by omega, below_alloc _ _, by simp⟩
  case round =>
    clear hr0
    obtain ⟨j, f, hj, rfl, hrow, hf, hbl, hsz⟩ := hrel
    by_cases hlt : j < len
    · have hjz : j < zs.length := by have := H.out; omega
      have hc1 : wr.cell? ⟨b, off + j, none⟩ = some (.int .u8 zs[j]) := by rw [hbl.cell (p := ⟨b, off + j, none⟩) hblt]; exact hcell j hjz
      have hc2 : wr.cell? ⟨w.heap.size, j, none⟩ = some (f j) := hrow.cell hlt
      have hc3 : wr.frozen? ⟨w.heap.size, j, none⟩ = false := hrow.frozen j
      have HF : Hid (∀ i (hi : i < zs.length), i < j → f i = .int .u8 zs[i]) := hf
      clear hf
      go_wp2_with fail
      refine ⟨⟨j + 1, _, hlt, by go_num, hrow.set j (.int .u8 zs[j]), fun i hi hij => ?_, hbl.setCell (p := ⟨w.heap.size, j, none⟩) (Nat.le_refl _) _, by simpa [World.setCell] using hsz⟩, by simp [intOf]; omega⟩
      by_cases e : i = j
      · subst e; simp
      · simp only [if_neg e]; exact HF.out i hi (by omega)
    · go_wp2_with fail
      go_ret
      refine ⟨rfl, ⟨hsz, fun i hi => ?_, hb⟩, hbl⟩
      have hz := H.out
      rw [hrow.cell (by omega), hf i hi (by omega)]

end Go.Proofs.Yoedww
