/-
  CountObjects (function 7) at an Array and at an ImmutableArray: one more than the sum over the elements.
-/
import Derived.Test.YoedwwCountE
namespace Go.Proofs.Yoedww
open Go.RowKit Go.Maps

theorem total_take_succ (ks : List Kid) (j : Nat) (h : j < ks.length) : total (ks.take (j + 1)) = total (ks.take j) + ks[j].n := by
  rw [List.take_succ_eq_append_getElem h, total_append]
  simp [total]

theorem total_take_le (ks : List Kid) (j : Nat) : total (ks.take j) ≤ total ks := by
  have h := total_append (ks.take j) (ks.drop j)
  rw [List.take_append_drop] at h
  omega

/-- What the callee's contract says of each kid, in every later world. -/
def KidsCount (w : World) (ks : List Kid) : Prop := ∀ k ∈ ks, ∀ wr : World, Below w.heap.size w wr →
    Calls Edwg.prog 7 #[.iface k.t (.pointer (some ⟨k.g, 0, none⟩))] wr fun e w' => e = .returned (.int .i64 k.n) ∧ Below wr.heap.size wr w'

theorem count35_nil (g : Nat) (w : World) (hc : w.cell? ⟨g, 0, none⟩ = some (.slice none 0 0)) :
    Calls Edwg.prog 7 #[.iface 35 (.pointer (some ⟨g, 0, none⟩))] w fun e w' => e = .returned (.int .i64 1) ∧ Below w.heap.size w w' := by
  have h1 := ta35_35 g
  go_enter Edwg.func7, Edwg.ntmps7
  go_wp2_with fail
  refine wp_loop_rounds 1 ?_
  rw [rounds_succ]
  go_wp2_with fail
  go_ret
  exact ⟨rfl, Below.refl _ _⟩

set_option maxHeartbeats 400000 in
theorem count35_row (g h cap : Nat) (ks : List Kid) (w : World) (hc : w.cell? ⟨g, 0, none⟩ = some (.slice (some ⟨h, 0, none⟩) ks.length cap)) (hh : h < w.heap.size)
    (hcell : ∀ j (hj : j < ks.length), w.cell? ⟨h, j, none⟩ = some (.iface ks[j].t (.pointer (some ⟨ks[j].g, 0, none⟩)))) (hn : total ks ≤ 1000000000) (hlen : ks.length ≤ 1000000000)
    (ih : Hid (KidsCount w ks)) :
    Calls Edwg.prog 7 #[.iface 35 (.pointer (some ⟨g, 0, none⟩))] w fun e w' => e = .returned (.int .i64 ((1 + total ks : Nat) : Int)) ∧ Below w.heap.size w w' := by
  have h1 := ta35_35 g
  go_enter Edwg.func7, Edwg.ntmps7
  go_wp2_with fail
  go_loopw [2, 25] (fun c i wr => ∃ j : Nat, j ≤ ks.length ∧ i = .int .i64 j ∧ c = .int .i64 ((1 + total (ks.take j) : Nat) : Int) ∧ Below w.heap.size w wr) (fun _ i _ => ks.length - (intOf i).toNat)
  case atStart => exact ⟨0, Nat.zero_le _, rfl, rfl, Below.refl _ _⟩
  case round =>
    obtain ⟨j, hj, rfl, rfl, hb⟩ := hrel
    have ht := total_take_le ks j
    by_cases hlt : j < ks.length
    · have hcj : wr.cell? ⟨h, j, none⟩ = some (.iface ks[j].t (.pointer (some ⟨ks[j].g, 0, none⟩))) := by rw [hb.cell (p := ⟨h, j, none⟩) hh]; exact hcell j hlt
      have hs : Hid (total (ks.take (j + 1)) = total (ks.take j) + ks[j].n) := total_take_succ ks j hlt
      have hm : ks[j].n ≤ 1000000000 := Nat.le_trans (total_mem (List.getElem_mem hlt)) hn
      go_wp2_with (go_at_call 7; refine (ih.out ks[j] (List.getElem_mem hlt) _ hb).mono ?_; rintro e w' ⟨rfl, hb'⟩)
      go_roundw
      case rel => exact ⟨j + 1, hlt, by go_num, by rw [hs.out]; go_num, hb.trans (hb'.mono hb.size)⟩
      case measure => simp [intOf]; omega
    · go_wp2_with fail
      go_ret
      exact ⟨ret_int (by rw [List.take_of_length_le (by omega)]), hb⟩

theorem count56_nil (g : Nat) (w : World) (hc : w.cell? ⟨g, 0, none⟩ = some (.slice none 0 0)) :
    Calls Edwg.prog 7 #[.iface 56 (.pointer (some ⟨g, 0, none⟩))] w fun e w' => e = .returned (.int .i64 1) ∧ Below w.heap.size w w' := by
  have h1 := ta56_35 g
  have h2 := ta56_56 g
  go_enter Edwg.func7, Edwg.ntmps7
  go_wp2_with fail
  refine wp_loop_rounds 1 ?_
  rw [rounds_succ]
  go_wp2_with fail
  go_ret
  exact ⟨rfl, Below.refl _ _⟩

set_option maxHeartbeats 400000 in
theorem count56_row (g h cap : Nat) (ks : List Kid) (w : World) (hc : w.cell? ⟨g, 0, none⟩ = some (.slice (some ⟨h, 0, none⟩) ks.length cap)) (hh : h < w.heap.size)
    (hcell : ∀ j (hj : j < ks.length), w.cell? ⟨h, j, none⟩ = some (.iface ks[j].t (.pointer (some ⟨ks[j].g, 0, none⟩)))) (hn : total ks ≤ 1000000000) (hlen : ks.length ≤ 1000000000)
    (ih : Hid (KidsCount w ks)) :
    Calls Edwg.prog 7 #[.iface 56 (.pointer (some ⟨g, 0, none⟩))] w fun e w' => e = .returned (.int .i64 ((1 + total ks : Nat) : Int)) ∧ Below w.heap.size w w' := by
  have h1 := ta56_35 g
  have h2 := ta56_56 g
  go_enter Edwg.func7, Edwg.ntmps7
  go_wp2_with fail
  go_loopw [2, 42] (fun c i wr => ∃ j : Nat, j ≤ ks.length ∧ i = .int .i64 j ∧ c = .int .i64 ((1 + total (ks.take j) : Nat) : Int) ∧ Below w.heap.size w wr) (fun _ i _ => ks.length - (intOf i).toNat)
  case atStart => exact ⟨0, Nat.zero_le _, rfl, rfl, Below.refl _ _⟩
  case round =>
    obtain ⟨j, hj, rfl, rfl, hb⟩ := hrel
    have ht := total_take_le ks j
    by_cases hlt : j < ks.length
    · have hcj : wr.cell? ⟨h, j, none⟩ = some (.iface ks[j].t (.pointer (some ⟨ks[j].g, 0, none⟩))) := by rw [hb.cell (p := ⟨h, j, none⟩) hh]; exact hcell j hlt
      have hs : Hid (total (ks.take (j + 1)) = total (ks.take j) + ks[j].n) := total_take_succ ks j hlt
      have hm : ks[j].n ≤ 1000000000 := Nat.le_trans (total_mem (List.getElem_mem hlt)) hn
      go_wp2_with (go_at_call 7; refine (ih.out ks[j] (List.getElem_mem hlt) _ hb).mono ?_; rintro e w' ⟨rfl, hb'⟩)
      go_roundw
      case rel => exact ⟨j + 1, hlt, by go_num, by rw [hs.out]; go_num, hb.trans (hb'.mono hb.size)⟩
      case measure => simp [intOf]; omega
    · go_wp2_with fail
      go_ret
      exact ⟨ret_int (by rw [List.take_of_length_le (by omega)]), hb⟩

end Go.Proofs.Yoedww
