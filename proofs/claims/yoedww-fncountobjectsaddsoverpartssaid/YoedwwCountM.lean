/-
  CountObjects (function 7) at a Map and at an ImmutableMap: one more than the sum over the entries, in whatever order they come.
-/
import Derived.Test.YoedwwCountA
namespace Go.Proofs.Yoedww
open Go.RowKit Go.Maps

theorem law9 : Keyed Edwg.prog 9 := string_keyed Edwg.underlying9

theorem key9_inv (v : Value) (kl : Lit) (h : keyOf Edwg.prog 9 v = some kl) : ∃ s : ByteArray, v = Value.string s := by
  cases v <;> simp [keyOf, Edwg.underlying9, mapKey] at h
  exact ⟨_, rfl⟩

theorem elem_inv (v : Value) (y : DataW (Nat × Nat) × List MemPlace) (h : elemR v = some y) : ∃ c : Nat × Nat, v = Value.iface c.1 (.pointer (some ⟨c.2, 0, none⟩)) := by
  obtain ⟨c, e, _⟩ := elemR_inv h
  exact ⟨c, e⟩

theorem grown_of_below {w w' : World} (h : Below w.heap.size w w') : w.grownBy w' none := ⟨h.os, h.tape, h.output, h.size, fun k hk _ => h.block k hk⟩

set_option maxHeartbeats 400000 in
theorem count39_row (g b : Nat) (ks : List Kid) (w : World) (hc : w.cell? ⟨g, 0, none⟩ = some (.map (some b))) (hown : w.ownsMap Edwg.prog 9 elemR b 9 (dmap ks)) (hks : ks.length ≤ 9)
    (hn : total ks ≤ 1000000000) (ih : Hid (KidsCount w ks)) :
    Calls Edwg.prog 7 #[.iface 39 (.pointer (some ⟨g, 0, none⟩))] w fun e w' => e = .returned (.int .i64 ((1 + total ks : Nat) : Int)) ∧ Below w.heap.size w w' := by
  have h1 := ta39_35 g
  have h2 := ta39_56 g
  have h3 := ta39_39 g
  have hlt := hown.lt
  go_enter Edwg.func7, Edwg.ntmps7
  go_wp2_with (at_range; refine wpList_range_own _ rfl _ 40 rfl 9 44 law9 Edwg.underlying40 _ b 9 _ rfl hown ?_; intro w0 hrg0 hg0 hs0)
  go_frame
  go_loopw [2] (fun c wr => ∃ (left : Lit → Bool) (cnt N : Nat), c = .int .i64 (N : Int) ∧ Hid (N + rest left ks = 1 + total ks) ∧ wr.ranges Edwg.prog 9 elemR b w.heap.size 9 (dmap ks) left cnt ∧ Below w.heap.size w wr) (fun _ wr => wr.rangeLeft b w.heap.size)
  case atStart =>
    refine ⟨_, _, 1, rfl, ?_, hrg0, (Below.refl _ _).grown hg0 (Nat.le_refl _) (fun j hj => by cases hj)⟩
    show 1 + _ = _
    rw [rest_all _ _ (fun i hi => dmap_has ks hks i hi)]
  case round =>
    obtain ⟨left, cnt, N, rfl, hN, hrg, hnx⟩ := hrel
    have hN1 : N ≤ 1000000001 := by have := hN.out; omega
    go_wp2_with (at_next; refine wpList_next_ranges _ rfl _ rfl 9 law9 elemR Value.string (fun c : Nat × Nat => Value.iface c.1 (.pointer (some ⟨c.2, 0, none⟩))) key9_inv elem_inv b w.heap.size 9 _ _ _ rfl hrg ?_ ?_)
    · intro hc0 hl0
      go_wp2_with fail
      go_ret
      refine ⟨ret_int ?_, hnx⟩
      have := hN.out
      rw [rest_none left hl0] at this
      omega
    · intro x t' g' kl d ps w1 cnt1 hkey hlk hv hat hrg1 hlt1 hg1 hs1 hen
      rw [elemR_mk] at hv
      obtain ⟨rfl, rfl⟩ : DataW.held (t', g') = d ∧ [] = ps := by simpa using hv
      obtain ⟨a, k, r, e1, rfl, e3⟩ := dmap_at ks kl (t', g') hat
      obtain ⟨rfl, rfl⟩ : t' = k.t ∧ g' = k.g := by simpa using e3
      have hm : k ∈ ks := by rw [e1]; simp
      have hkn : k.n ≤ 1000000000 := Nat.le_trans (total_mem hm) hn
      have hst : Hid (N + k.n + rest (fun z => left z && !z.sameKey (key r.length)) ks = 1 + total ks) := by
        have h5 := rest_step left k r hlk a (by rw [← e1]; exact hks)
        rw [← e1] at h5
        have h6 := hN.out
        show _ = _
        omega
      have hn1 : Below w.heap.size w w1 := hnx.grown hg1 hnx.size (fun j hj => by cases hj; exact Nat.le_refl _)
      clear hv hat e1 e3 hs1 hlk hkey hg1
      go_wp2_with (go_at_call 7; refine (ih.out k hm _ hn1).mono ?_; rintro e w' ⟨rfl, hb'⟩)
      have hrg2 := hrg1.kept (grown_of_below hb') (by simp) (by simp)
      go_roundw
      case rel => exact ⟨_, cnt1, N + k.n, by go_num, hst, hrg2, hn1.trans (hb'.mono hn1.size)⟩
      case measure => rw [hrg2.left_eq, hrg.left_eq]; exact hlt1

theorem count39_nil (g : Nat) (w : World) (hc : w.cell? ⟨g, 0, none⟩ = some (.map none)) :
    Calls Edwg.prog 7 #[.iface 39 (.pointer (some ⟨g, 0, none⟩))] w fun e w' => e = .returned (.int .i64 1) ∧ Below w.heap.size w w' := by
  have h1 := ta39_35 g
  have h2 := ta39_56 g
  have h3 := ta39_39 g
  have hrg := run_range_nilMap (P := Edwg.prog) w 40 9 44 Edwg.underlying40
  have hnx : ∀ ty, (Instr.next (.pointer (some ⟨w.heap.size, 0, none⟩)) false ty).run Edwg.prog (w.alloc (.mapIter none 0 #[] 0)) = _ := fun ty => run_next_nilMap _ ty 0 0 #[]
  go_enter Edwg.func7, Edwg.ntmps7
  go_wp2_with fail
  refine wp_loop_rounds 1 ?_
  rw [rounds_succ]
  go_wp2_with fail
  go_ret
  exact ⟨rfl, (Below.refl _ _).alloc (Nat.le_refl _) _⟩

set_option maxHeartbeats 400000 in
theorem count58_row (g b : Nat) (ks : List Kid) (w : World) (hc : w.cell? ⟨g, 0, none⟩ = some (.map (some b))) (hown : w.ownsMap Edwg.prog 9 elemR b 9 (dmap ks)) (hks : ks.length ≤ 9)
    (hn : total ks ≤ 1000000000) (ih : Hid (KidsCount w ks)) :
    Calls Edwg.prog 7 #[.iface 58 (.pointer (some ⟨g, 0, none⟩))] w fun e w' => e = .returned (.int .i64 ((1 + total ks : Nat) : Int)) ∧ Below w.heap.size w w' := by
  have h1 := ta58_35 g
  have h2 := ta58_56 g
  have h3 := ta58_39 g
  have h4 := ta58_58 g
  have hlt := hown.lt
  go_enter Edwg.func7, Edwg.ntmps7
  go_wp2_with (at_range; refine wpList_range_own _ rfl _ 40 rfl 9 44 law9 Edwg.underlying40 _ b 9 _ rfl hown ?_; intro w0 hrg0 hg0 hs0)
  go_frame
  go_loopw [2] (fun c wr => ∃ (left : Lit → Bool) (cnt N : Nat), c = .int .i64 (N : Int) ∧ Hid (N + rest left ks = 1 + total ks) ∧ wr.ranges Edwg.prog 9 elemR b w.heap.size 9 (dmap ks) left cnt ∧ Below w.heap.size w wr) (fun _ wr => wr.rangeLeft b w.heap.size)
  case atStart =>
    refine ⟨_, _, 1, rfl, ?_, hrg0, (Below.refl _ _).grown hg0 (Nat.le_refl _) (fun j hj => by cases hj)⟩
    show 1 + _ = _
    rw [rest_all _ _ (fun i hi => dmap_has ks hks i hi)]
  case round =>
    obtain ⟨left, cnt, N, rfl, hN, hrg, hnx⟩ := hrel
    have hN1 : N ≤ 1000000001 := by have := hN.out; omega
    go_wp2_with (at_next; refine wpList_next_ranges _ rfl _ rfl 9 law9 elemR Value.string (fun c : Nat × Nat => Value.iface c.1 (.pointer (some ⟨c.2, 0, none⟩))) key9_inv elem_inv b w.heap.size 9 _ _ _ rfl hrg ?_ ?_)
    · intro hc0 hl0
      go_wp2_with fail
      go_ret
      refine ⟨ret_int ?_, hnx⟩
      have := hN.out
      rw [rest_none left hl0] at this
      omega
    · intro x t' g' kl d ps w1 cnt1 hkey hlk hv hat hrg1 hlt1 hg1 hs1 hen
      rw [elemR_mk] at hv
      obtain ⟨rfl, rfl⟩ : DataW.held (t', g') = d ∧ [] = ps := by simpa using hv
      obtain ⟨a, k, r, e1, rfl, e3⟩ := dmap_at ks kl (t', g') hat
      obtain ⟨rfl, rfl⟩ : t' = k.t ∧ g' = k.g := by simpa using e3
      have hm : k ∈ ks := by rw [e1]; simp
      have hkn : k.n ≤ 1000000000 := Nat.le_trans (total_mem hm) hn
      have hst : Hid (N + k.n + rest (fun z => left z && !z.sameKey (key r.length)) ks = 1 + total ks) := by
        have h5 := rest_step left k r hlk a (by rw [← e1]; exact hks)
        rw [← e1] at h5
        have h6 := hN.out
        show _ = _
        omega
      have hn1 : Below w.heap.size w w1 := hnx.grown hg1 hnx.size (fun j hj => by cases hj; exact Nat.le_refl _)
      clear hv hat e1 e3 hs1 hlk hkey hg1
      go_wp2_with (go_at_call 7; refine (ih.out k hm _ hn1).mono ?_; rintro e w' ⟨rfl, hb'⟩)
      have hrg2 := hrg1.kept (grown_of_below hb') (by simp) (by simp)
      go_roundw
      case rel => exact ⟨_, cnt1, N + k.n, by go_num, hst, hrg2, hn1.trans (hb'.mono hn1.size)⟩
      case measure => rw [hrg2.left_eq, hrg.left_eq]; exact hlt1

theorem count58_nil (g : Nat) (w : World) (hc : w.cell? ⟨g, 0, none⟩ = some (.map none)) :
    Calls Edwg.prog 7 #[.iface 58 (.pointer (some ⟨g, 0, none⟩))] w fun e w' => e = .returned (.int .i64 1) ∧ Below w.heap.size w w' := by
  have h1 := ta58_35 g
  have h2 := ta58_56 g
  have h3 := ta58_39 g
  have h4 := ta58_58 g
  have hrg := run_range_nilMap (P := Edwg.prog) w 40 9 44 Edwg.underlying40
  have hnx : ∀ ty, (Instr.next (.pointer (some ⟨w.heap.size, 0, none⟩)) false ty).run Edwg.prog (w.alloc (.mapIter none 0 #[] 0)) = _ := fun ty => run_next_nilMap _ ty 0 0 #[]
  go_enter Edwg.func7, Edwg.ntmps7
  go_wp2_with fail
  refine wp_loop_rounds 1 ?_
  rw [rounds_succ]
  go_wp2_with fail
  go_ret
  exact ⟨rfl, (Below.refl _ _).alloc (Nat.le_refl _) _⟩

end Go.Proofs.Yoedww
