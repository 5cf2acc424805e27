/-
  FnCountObjectsCountsEveryNode (function 3): the walk.
-/
import Derived.Test.YoedwwCommon
namespace Go.Proofs.Yoedww
open Go.RowKit Go.Maps

theorem lawA_long (a : Option Addr) (len cap : Nat) (w : World) (h : 65536 < len) : Calls Edwg.prog 3 #[.slice a len cap] w fun e w' => e = .returned (.bool true) ∧ Below w.heap.size w w' := by
  by_cases hm : len ≤ 1048576
  · go_enter Edwg.func3, Edwg.ntmps3
    go_wp2_with (go_at_call 5; refine (bytes5_yes a len cap _ hm).mono ?_; rintro e w' ⟨rfl, rfl⟩)
    go_ret
    exact ⟨rfl, Below.refl _ _⟩
  · go_enter Edwg.func3, Edwg.ntmps3
    go_wp2_with (go_at_call 5; refine (bytes5_no a len cap _ (by omega)).mono ?_; rintro e w' ⟨rfl, rfl⟩)
    go_ret
    exact ⟨rfl, Below.refl _ _⟩

set_option maxHeartbeats 400000 in
theorem lawA_empty (a : Option Addr) (cap : Nat) (w : World)
    (hcl : Hid (Calls Edwg.prog 6 #[.slice a 0 cap] w fun e w' => (∃ y, e = .returned (.slice y 0 0)) ∧ Below w.heap.size w w')) :
    Calls Edwg.prog 3 #[.slice a 0 cap] w fun e w' => e = .returned (.bool true) ∧ Below w.heap.size w w' := by
  go_enter Edwg.func3, Edwg.ntmps3
  go_wp2_with fail
  refine (bytes5_yes a 0 cap _ (by omega)).mono ?_
  rintro e w' ⟨rfl, rfl⟩
  go_wp2_with fail
  refine (hcl.out).mono ?_
  rintro e w1 ⟨⟨y, rfl⟩, hb1⟩
  go_wp2_with fail
  refine (count26 _ _).mono ?_
  rintro e w2 ⟨rfl, hb2⟩
  have hb2' := Below.nx (Below.al hb1 _) hb2
  clear hb1 hb2
  go_wp2_with fail
  refine (count31 _ _).mono ?_
  rintro e w3 ⟨rfl, hb3⟩
  have hb3' := Below.nx (Below.al hb2' _) hb3
  clear hb2' hb3
  go_wp2_with fail
  refine (count35_nil _ _ (new_cell _ _ _)).mono ?_
  rintro e w4 ⟨rfl, hb4⟩
  have hb4' := Below.nx (Below.al hb3' _) hb4
  clear hb3' hb4
  go_wp2_with fail
  refine (count39_nil _ _ (new_cell _ _ _)).mono ?_
  rintro e w5 ⟨rfl, hb5⟩
  have hb5' := Below.nx (Below.al hb4' _) hb5
  clear hb4' hb5
  go_wp2_with fail
  go_ret
  exact ⟨rfl, hb5'⟩

set_option maxHeartbeats 400000 in
theorem lawA_full (a : Option Addr) (len cap : Nat) (w : World) (ys : List Int) (hys : ys.length = len) (hpos : 0 < len) (hlen : len ≤ 65536)
    (hcl : Hid (Calls Edwg.prog 6 #[.slice a len cap] w fun e w' => e = .returned (.slice (some ⟨w.heap.size, 0, none⟩) len len) ∧ Shape w' w.heap.size ys ∧ Below w.heap.size w w')) :
    Calls Edwg.prog 3 #[.slice a len cap] w fun e w' => e = .returned (.bool true) ∧ Below w.heap.size w w' := by
  subst hys
  go_enter Edwg.func3, Edwg.ntmps3
  go_wp2_with fail
  refine (bytes5_yes a _ cap _ (by omega)).mono ?_
  rintro e w' ⟨rfl, rfl⟩
  go_wp2_with fail
  refine (hcl.out).mono ?_
  rintro e w1 ⟨rfl, hs, hb1⟩
  go_wp2_with fail
  refine (build_any w'.heap.size ys hlen ys.length 0 w1 hs hpos (by omega)).mono ?_
  rintro e w2 ⟨t, g, m, np, rfl, ht, hq, hn, hm, hb2⟩
  go_wp2_with fail
  refine (count_any _ ⟨t, g, m⟩ _ w2 ht (by simp only; omega)).mono ?_
  rintro e w3 ⟨rfl, hb3⟩
  go_wp2_with fail
  go_ret
  exact ⟨rfl, Below.nx (Below.nx hb1 hb2) hb3⟩

theorem lawA {w : World} {a : Option Addr} {len cap : Nat} {zs : List Int} (h : InRow w a len cap zs) : Calls Edwg.prog 3 #[.slice a len cap] w fun e w' => e = .returned (.bool true) ∧ Below w.heap.size w w' := by
  by_cases hl : 65536 < len
  · exact lawA_long a len cap w hl
  · by_cases hz : len = 0
    · subst hz
      exact lawA_empty a cap w (clone_empty h)
    · obtain ⟨ys, hys, hc⟩ := clone_full h (by omega) (by omega)
      exact lawA_full a len cap w ys hys (by omega) (by omega) hc

end Go.Proofs.Yoedww
