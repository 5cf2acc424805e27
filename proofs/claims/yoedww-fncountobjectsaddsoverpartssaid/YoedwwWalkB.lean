/-
  FnCountObjectsAddsOverParts (function 4): the walk.
-/
import Derived.Test.YoedwwForest
namespace Go.Proofs.Yoedww
open Go.RowKit Go.Maps

theorem lawB_long (a : Option Addr) (len cap : Nat) (w : World) (h : 65536 < len) : Calls Edwg.prog 4 #[.slice a len cap] w fun e w' => e = .returned (.bool true) ∧ Below w.heap.size w w' := by
  by_cases hm : len ≤ 1048576
  · go_enter Edwg.func4, Edwg.ntmps4
    go_wp2_with (go_at_call 9; refine (bytes9_yes a len cap _ hm).mono ?_; rintro e w' ⟨rfl, rfl⟩)
    go_ret
    exact ⟨rfl, Below.refl _ _⟩
  · go_enter Edwg.func4, Edwg.ntmps4
    go_wp2_with (go_at_call 9; refine (bytes9_no a len cap _ (by omega)).mono ?_; rintro e w' ⟨rfl, rfl⟩)
    go_ret
    exact ⟨rfl, Below.refl _ _⟩

set_option maxHeartbeats 400000 in
theorem lawB_empty (a : Option Addr) (cap : Nat) (w : World)
    (hcl : Hid (Calls Edwg.prog 6 #[.slice a 0 cap] w fun e w' => (∃ y, e = .returned (.slice y 0 0)) ∧ Below w.heap.size w w')) :
    Calls Edwg.prog 4 #[.slice a 0 cap] w fun e w' => e = .returned (.bool true) ∧ Below w.heap.size w w' := by
  go_enter Edwg.func4, Edwg.ntmps4
  go_wp2_with fail
  refine (bytes9_yes a 0 cap _ (by omega)).mono ?_
  rintro e w' ⟨rfl, rfl⟩
  go_wp2_with fail
  refine (hcl.out).mono ?_
  rintro e w1 ⟨⟨y, rfl⟩, hb1⟩
  go_wp2_with fail
  refine (bc_nil _ _ (by simp)).mono ?_
  rintro e w2 ⟨rfl, hb2⟩
  go_wp2_with fail
  go_ret
  exact ⟨rfl, Below.nx (Below.al hb1 _) hb2⟩

/-- An ImmutableArray that holds one and the same tree twice. -/
theorem count_pair (d : Nat) (k : Kid) (w : World) (ht : Tree d 0 w k) (hn : k.n ≤ 1000000) :
    Calls Edwg.prog 7 #[.iface 56 (.pointer (some ⟨w.heap.size + 1, 0, none⟩))]
      ((w.alloc (.cells #[.iface k.t (.pointer (some ⟨k.g, 0, none⟩)), .iface k.t (.pointer (some ⟨k.g, 0, none⟩))] 44)).alloc (.cells #[.slice (some ⟨w.heap.size, 0, none⟩) 2 2] 57))
      fun e w' => e = .returned (.int .i64 (1 + 2 * (k.n : Int))) ∧ Below w.heap.size w w' := by
  have hbl : Below w.heap.size w ((w.alloc (.cells #[.iface k.t (.pointer (some ⟨k.g, 0, none⟩)), .iface k.t (.pointer (some ⟨k.g, 0, none⟩))] 44)).alloc (.cells #[.slice (some ⟨w.heap.size, 0, none⟩) 2 2] 57)) := Below.al (below_alloc w _) _
  have htot : total [k, k] = 2 * k.n := by simp [total]; omega
  refine (count56_row (w.heap.size + 1) w.heap.size 2 [k, k] _ (new_cell' _ _ _ (by simp)) (by simp; omega) (fun j hj => ?_) (by omega) (by simp) ?_).mono ?_
  · rw [(below_alloc (w.alloc _) _).cell (p := ⟨w.heap.size, j, none⟩) (by simp)]
    match j, hj with
    | 0, _ => simp
    | 1, _ => simp
  · intro k' hk' wx hwx
    obtain rfl : k' = k := by simpa using hk'
    exact count_any d k' 0 wx (Tree.kept (Upper.of_below hwx) (Tree.kept (Upper.of_below hbl) ht)) (by omega)
  · rintro e w' ⟨rfl, hb⟩
    exact ⟨ret_int (by rw [htot]; omega), Below.nx hbl hb⟩

set_option maxRecDepth 100000 in
set_option maxHeartbeats 1000000 in
theorem lawB_full (a : Option Addr) (len cap : Nat) (w : World) (ys : List Int) (hys : ys.length = len) (hpos : 0 < len) (hlen : len ≤ 65536)
    (hcl : Hid (Calls Edwg.prog 6 #[.slice a len cap] w fun e w' => e = .returned (.slice (some ⟨w.heap.size, 0, none⟩) len len) ∧ Shape w' w.heap.size ys ∧ Below w.heap.size w w')) :
    Calls Edwg.prog 4 #[.slice a len cap] w fun e w' => e = .returned (.bool true) ∧ Below w.heap.size w w' := by
  subst hys
  obtain ⟨i0, hi, hz0, hz1, hz2⟩ := info_parts Edwg.info44
  go_enter Edwg.func4, Edwg.ntmps4
  go_wp2_with fail
  refine (bytes9_yes a _ cap _ (by omega)).mono ?_
  rintro e w' ⟨rfl, rfl⟩
  go_wp2_with fail
  refine (hcl.out).mono ?_
  rintro e w1 ⟨rfl, hs, hb1⟩
  go_wp2_with (at_make; refine wpList_make_own _ rfl _ _ 36 rfl w1.heap.size 44 i0 .nilIface 1 Edwg.underlying36 hi hz0 hz1 _ _ _ 0 rfl rfl rfl (by omega) (by unfold maxLen; omega) (Nat.le_refl _) ?_; intro w2 hown2 hg2)
  have hr0 : Woods (ys.length + 1) ys.length w1 w2 w1.heap.size 0 0 [] :=
    ⟨Int.le_refl _, by omega, fun h => by omega, by simp, by simp [total], by simpa using hown2, by simp, (Below.refl _ _).grown hg2 (Nat.le_refl _) (fun j hj => by cases hj)⟩
  clear hown2 hg2
  go_loopw [3, 4, 5] (fun s3 s4 s5 wr => ∃ (r c q : Nat) (ks : List Kid), s3 = .slice (some ⟨r, 0, none⟩) ks.length c ∧ s4 = .int .i64 (total ks : Int) ∧ s5 = .int .i64 (q : Int) ∧ Woods (ys.length + 1) ys.length w1 wr r c q ks) (fun _ _ s5 _ => ys.length - (intOf s5).toNat)
  case atStart => exact ⟨_, _, 0, [], rfl, rfl, rfl, hr0⟩
  case round =>
    clear hr0
    obtain ⟨r, c, q, ks, rfl, rfl, rfl, hr⟩ := hrel
    have q1 := hr.hi
    have q2 := hr.cnt
    have q3 := hr.tot
    by_cases hql : q < ys.length
    · go_wp2_with fail
      refine (build_any w'.heap.size ys hlen ys.length q wr (hs.later hr.bel) hql (by omega)).mono ?_
      rintro e w3 ⟨t, g, m, np, rfl, ht, hq, hn, hm, hb3⟩
      obtain ⟨np, rfl⟩ := Int.eq_ofNat_of_zero_le (show 0 ≤ np by omega)
      have hown3 : w3.ownsRow w1.heap.size 44 1 (.slice (some ⟨r, 0, none⟩) ks.length c) ks.length (ks.map Kid.val) := hr.own.kept (grown_of_below hb3) (Or.inr (by simp [Value.ownBlock]))
      have hsz3 : w1.heap.size ≤ w3.heap.size := Nat.le_trans hr.bel.size hb3.size
      go_wp2_with (at_builtin; refine wpList_append_row _ rfl _ _ 36 rfl w1.heap.size 44 i0 .nilIface 16 Edwg.underlying36 hi hz0 hz1 hz2 rfl r ks.length c (ks.map Kid.val) rfl (hown3.alloc _) ⟨w3.heap.size, 0, none⟩ (.iface t (.pointer (some ⟨g, 0, none⟩))) rfl (cell_one_new _ _ _) rfl (by unfold maxLen; omega) (by omega) (by simp; omega) ?_; intro r' c' w4 hown4 hg4 hloc)
      go_roundw
      case rel => exact ⟨r', c', np, ks ++ [⟨t, g, m⟩], by simp, by rw [total_append]; simp [total], rfl, hr.step ht hq hn hm hb3 hg4 hloc hown4⟩
      case measure => simp [intOf]; omega
    · have hkp : 0 < ks.length := hr.some_ (by omega)
      have hkt := hr.len_le
      have hrl := (hr.own.lt r rfl).2
      have HT : Hid (∀ k ∈ ks, Tree (ys.length + 1) 0 wr k) := fun k hk => (hr.kids k hk).tree
      have HC : Hid (∀ j (hj : j < ks.length), wr.cell? ⟨r, j, none⟩ = some (.iface ks[j].t (.pointer (some ⟨ks[j].g, 0, none⟩)))) := row_cells hr.own
      have HB : Below w'.heap.size w' wr := Below.nx hb1 hr.bel
      obtain ⟨k0, hk0, hm0⟩ : ∃ k0, Hid (k0 = ks[0]) ∧ k0 ∈ ks := ⟨ks[0], Eq.refl ks[0], List.getElem_mem hkp⟩
      have hn0 : k0.n ≤ total ks := total_mem hm0
      clear hr hs hb1
      go_wp2_with fail
      refine (bc_row _ r c ks _ (by simp) (by simp; omega) (fun j hj => ?_) (by omega) (by omega) ?_).mono ?_
      · rw [(below_alloc wr _).cell (p := ⟨r, j, none⟩) hrl]
        exact HC.out j hj
      · intro k hk wx hwx
        exact count_any _ k 0 wx (Tree.kept (Upper.of_below hwx) (Tree.kept (Upper.of_below (below_alloc wr _)) (HT.out k hk))) (Nat.le_trans (total_mem hk) (by omega))
      rintro e w5 ⟨rfl, hb5⟩
      have hb5' : Below wr.heap.size wr w5 := Below.nx (below_alloc wr _) hb5
      have hc0 : w5.cell? ⟨r, 0, none⟩ = some (.iface k0.t (.pointer (some ⟨k0.g, 0, none⟩))) := by
        rw [hb5'.cell (p := ⟨r, 0, none⟩) hrl, hk0.out]
        exact HC.out 0 hkp
      have ht5 : Hid (Tree (ys.length + 1) 0 w5 k0) := Tree.kept (Upper.of_below hb5') (HT.out k0 hm0)
      have HB5 : Below w'.heap.size w' w5 := Below.nx HB hb5'
      clear hb5 hb5' HT HC HB hk0
      go_wp2_with fail
      refine (count_any _ k0 0 w5 ht5.out (by omega)).mono ?_
      rintro e w6 ⟨rfl, hb6⟩
      have ht6 : Hid (Tree (ys.length + 1) 0 w6 k0) := Tree.kept (Upper.of_below hb6) ht5.out
      have HB6 : Below w'.heap.size w' w6 := Below.nx HB5 hb6
      clear hb6 ht5 HB5 hc0
      go_wp2_with fail
      refine (count53 _ k0.t k0.g k0.n _ (new_cell _ _ _) (by omega) (count_any _ k0 0 _ (Tree.kept (Upper.of_below (below_alloc w6 _)) ht6.out) (by omega))).mono ?_
      rintro e w7 ⟨rfl, hb7⟩
      have hb7' : Below w6.heap.size w6 w7 := Below.nx (below_alloc w6 _) hb7
      have ht7 : Hid (Tree (ys.length + 1) 0 w7 k0) := Tree.kept (Upper.of_below hb7') ht6.out
      have HB7 : Below w'.heap.size w' w7 := Below.nx HB6 hb7'
      clear hb7 hb7' ht6 HB6
      go_wp2_with fail
      refine (count_pair _ k0 w7 ht7.out (by omega)).mono ?_
      rintro e w8 ⟨rfl, hb8⟩
      have HB8 : Below w'.heap.size w' w8 := Below.nx HB7 hb8
      clear hb8 ht7 HB7
      go_wp2_with fail
      go_ret
      exact ⟨rfl, HB8⟩

theorem lawB {w : World} {a : Option Addr} {len cap : Nat} {zs : List Int} (h : InRow w a len cap zs) : Calls Edwg.prog 4 #[.slice a len cap] w fun e w' => e = .returned (.bool true) ∧ Below w.heap.size w w' := by
  by_cases hl : 65536 < len
  · exact lawB_long a len cap w hl
  · by_cases hz : len = 0
    · subst hz
      exact lawB_empty a cap w (clone_empty h)
    · obtain ⟨ys, hys, hc⟩ := clone_full h (by omega) (by omega)
      exact lawB_full a len cap w ys hys (by omega) (by omega) hc

end Go.Proofs.Yoedww
