/-
  zzBuild (function 8) at an Array and at an ImmutableArray.
-/
import Derived.Test.YoedwwBuildL
import Derived.Test.YoedwwCountM
namespace Go.Proofs.Yoedww
open Go.RowKit Go.Maps

theorem Edwg.info44 : (Edwg.prog.info? 44).map (fun i => (i.zero, i.size, i.bytes)) = some (some .nilIface, 1, 16) := by kernel_rfl

/-- The callee's contract, at every later place and in every later world. -/
def Builds (d x len p : Nat) (w : World) : Prop := ∀ (q : Int) (wr : World), (p : Int) < q → q < len → Below w.heap.size w wr →
    Calls Edwg.prog 8 #[.slice (some ⟨x, 0, none⟩) len len, .int .i64 q] wr fun e w' => Built d len q wr e w'

/-- What the loop over the elements has made so far. -/
structure Rowed (d len p a : Nat) (w wr : World) (j : Nat) (q : Int) (ks : List Kid) : Prop where
  ja : j ≤ a
  kl : ks.length = j
  lo : (p : Int) + 1 ≤ q
  hi : q ≤ len
  tot : (total ks : Int) ≤ 2 * (q - (p + 1))
  own : wr.ownsRow w.heap.size 44 1 (.slice (some ⟨w.heap.size, 0, none⟩) j a) j (ks.map Kid.val)
  kids : ∀ k ∈ ks, Tree d (w.heap.size + 1) wr k
  bel : Below w.heap.size w wr
  sz : w.heap.size + 1 ≤ wr.heap.size

theorem Rowed.built {d len p a : Nat} {w wr : World} {j : Nat} {q : Int} {ks : List Kid} (h : Rowed d len p a w wr j q ks) {t T : Nat} (ht : t = 35 ∨ t = 56) {e : Ending}
    (he : e = .returned (.tuple #[.iface t (.pointer (some ⟨wr.heap.size, 0, none⟩)), .int .i64 q, .int .i64 ((1 + total ks : Nat) : Int)])) :
    Built (d + 1) len p w e (wr.alloc (.cells #[.slice (some ⟨w.heap.size, 0, none⟩) j a] T)) := by
  have hu : Upper (w.heap.size + 1) wr (wr.alloc (.cells #[.slice (some ⟨w.heap.size, 0, none⟩) j a] T)) := Upper.of_below (below_alloc wr _)
  have htot := h.tot
  have hlo := h.lo
  refine ⟨t, wr.heap.size, 1 + total ks, q, he, ⟨h.bel.size, .inr (.inl ⟨ht, _, ks, new_cell _ _ _, ?_, fun k hk => Tree.base (Nat.le_succ _) (Tree.kept hu (h.kids k hk)), rfl⟩)⟩, by omega, h.hi, by omega, h.bel.alloc h.bel.size _⟩
  rw [h.kl]
  exact h.own.alloc _

theorem Rowed.step {d len p a : Nat} {w wr w' w2 : World} {j : Nat} {q np : Int} {ks : List Kid} (h : Rowed d len p a w wr j q ks) {t g m : Nat} (ht : Tree d wr.heap.size w' ⟨t, g, m⟩) (hq : q < np) (hn : np ≤ len) (hm : (m : Int) ≤ 2 * (np - q))
    (hb : Below wr.heap.size wr w') (hja : j < a) {o : Obj} (hg : (w'.alloc o).grownBy w2 (some w.heap.size)) (ho : w2.ownsRow w.heap.size 44 1 (.slice (some ⟨w.heap.size, 0, none⟩) (j + 1) a) (j + 1) (ks.map Kid.val ++ [.iface t (.pointer (some ⟨g, 0, none⟩))])) :
    Rowed d len p a w w2 (j + 1) np (ks ++ [⟨t, g, m⟩]) := by
  have hsz := h.sz
  have hlo := h.lo
  have htot := h.tot
  have hs1 := hb.size
  have hs2 := hg.size
  have e1 : (w'.alloc o).heap.size = w'.heap.size + 1 := by simp
  rw [e1] at hs2
  have u1 : Upper (w.heap.size + 1) (w'.alloc o) w2 := Upper.of_grown hg (fun i hi => by cases hi; omega)
  have u2 : Upper (w.heap.size + 1) w' (w'.alloc o) := Upper.of_below (below_alloc w' o)
  have u3 : Upper (w.heap.size + 1) wr w' := Upper.of_below hb
  refine ⟨hja, by simp [h.kl], by omega, hn, ?_, by simpa [Kid.val] using ho, fun k hk => ?_, ?_, by omega⟩
  · rw [total_append]; simp [total]; omega
  · rcases List.mem_append.1 hk with hk | hk
    · exact Tree.kept u1 (Tree.kept u2 (Tree.kept u3 (h.kids k hk)))
    · obtain rfl := List.mem_singleton.1 hk
      exact Tree.kept u1 (Tree.kept u2 (Tree.base hsz ht))
  · have b1 : Below w.heap.size w w' := h.bel.trans (hb.mono h.bel.size)
    exact (b1.alloc b1.size o).grown hg (by rw [e1]; have := b1.size; omega) (fun k hk => by cases hk; exact Nat.le_refl _)

set_option maxRecDepth 100000 in
set_option maxHeartbeats 1000000 in
theorem build_arr (d x len p a : Nat) (b : Int) (w : World) (hc : w.cell? ⟨x, p, none⟩ = some (.int .u8 b)) (hp : p < len) (hlen : len ≤ 65536) (hb0 : 0 ≤ b) (hb1 : b ≤ 255) (ha : b / 6 % 4 = (a : Int))
    (h0 : (b % 6 == 0) = true) (ih : Hid (Builds d x len p w)) :
    Calls Edwg.prog 8 #[.slice (some ⟨x, 0, none⟩) len len, .int .i64 (p : Int)] w fun e w' => Built (d + 1) len p w e w' := by
  obtain ⟨i0, hi, hz0, hz1, hz2⟩ := info_parts Edwg.info44
  go_enter Edwg.func8, Edwg.ntmps8
  go_wp2_with (at_make; refine wpList_make_own _ rfl _ _ 36 rfl w.heap.size 44 i0 .nilIface 1 Edwg.underlying36 hi hz0 hz1 _ _ _ a rfl rfl ha (by rw [hz2]; omega) (by unfold maxLen; omega) (Nat.le_refl _) ?_; intro w0 hown0 hg0)
  have hr0 : Rowed d len p a w w0 0 ((p : Int) + 1) [] :=
    ⟨Nat.zero_le _, rfl, Int.le_refl _, by omega, by simp [total], by simpa using hown0, by simp, (Below.refl _ _).grown hg0 (Nat.le_refl _) (fun j hj => by cases hj), (hown0.lt _ rfl).2⟩
  clear hown0 hg0
  go_loopw [1, 10, 11, 12] (fun s1 s10 s11 s12 wr => ∃ (j : Nat) (q : Int) (ks : List Kid), s1 = .int .i64 q ∧ s10 = .slice (some ⟨w.heap.size, 0, none⟩) j a ∧ s11 = .int .i64 ((1 + total ks : Nat) : Int) ∧ s12 = .int .i64 (j : Int) ∧ Rowed d len p a w wr j q ks) (fun _ _ _ s12 _ => a - (intOf s12).toNat)
  case atStart => exact ⟨0, _, [], rfl, rfl, rfl, rfl, hr0⟩
  case round =>
    clear hr0
    obtain ⟨j, q, ks, rfl, rfl, rfl, rfl, hr⟩ := hrel
    have q1 := hr.lo
    have q2 := hr.hi
    have q3 := hr.tot
    have q4 := hr.ja
    by_cases hja : j < a
    · by_cases hql : q < len
      · go_wp2_with fail
        refine (ih.out q wr (by omega) hql hr.bel).mono ?_
        rintro e w' ⟨t, g, m, np, rfl, ht, hq, hn, hm, hbl⟩
        have hown1 : w'.ownsRow w.heap.size 44 1 (.slice (some ⟨w.heap.size, 0, none⟩) j a) j (ks.map Kid.val) := hr.own.kept (grown_of_below hbl) (Or.inr (by simp [Value.ownBlock]))
        go_wp2_with (at_builtin; refine wpList_append_fits _ rfl _ _ 36 rfl w.heap.size 44 i0 1 Edwg.underlying36 hi hz1 w.heap.size j a (ks.map Kid.val) rfl (hown1.alloc _) ⟨w'.heap.size, 0, none⟩ 1 1 [.iface t (.pointer (some ⟨g, 0, none⟩))] rfl rfl (cell_one_new _ _ _) (by simp [Value.oneCell']) (by omega) ?_; intro w2 hown2 hg2)
        go_roundw
        case rel => exact ⟨j + 1, np, ks ++ [⟨t, g, m⟩], rfl, rfl, by rw [total_append]; simp [total]; go_num, by go_num, hr.step ht hq hn hm hbl hja hg2 hown2⟩
        case measure => simp [intOf]; omega
      · go_wp2_with fail
        go_ret3
        exact hr.built (.inl rfl) rfl
    · go_wp2_with fail
      go_ret3
      exact hr.built (.inl rfl) rfl

set_option maxRecDepth 100000 in
set_option maxHeartbeats 1000000 in
theorem build_iarr (d x len p a : Nat) (b : Int) (w : World) (hc : w.cell? ⟨x, p, none⟩ = some (.int .u8 b)) (hp : p < len) (hlen : len ≤ 65536) (hb0 : 0 ≤ b) (hb1 : b ≤ 255) (ha : b / 6 % 4 = (a : Int))
    (h0 : (b % 6 == 0) = false) (h1 : (b % 6 == 1) = true) (ih : Hid (Builds d x len p w)) :
    Calls Edwg.prog 8 #[.slice (some ⟨x, 0, none⟩) len len, .int .i64 (p : Int)] w fun e w' => Built (d + 1) len p w e w' := by
  obtain ⟨i0, hi, hz0, hz1, hz2⟩ := info_parts Edwg.info44
  go_enter Edwg.func8, Edwg.ntmps8
  go_wp2_with (at_make; refine wpList_make_own _ rfl _ _ 36 rfl w.heap.size 44 i0 .nilIface 1 Edwg.underlying36 hi hz0 hz1 _ _ _ a rfl rfl ha (by rw [hz2]; omega) (by unfold maxLen; omega) (Nat.le_refl _) ?_; intro w0 hown0 hg0)
  have hr0 : Rowed d len p a w w0 0 ((p : Int) + 1) [] :=
    ⟨Nat.zero_le _, rfl, Int.le_refl _, by omega, by simp [total], by simpa using hown0, by simp, (Below.refl _ _).grown hg0 (Nat.le_refl _) (fun j hj => by cases hj), (hown0.lt _ rfl).2⟩
  clear hown0 hg0
  go_loopw [1, 10, 11, 12] (fun s1 s10 s11 s12 wr => ∃ (j : Nat) (q : Int) (ks : List Kid), s1 = .int .i64 q ∧ s10 = .slice (some ⟨w.heap.size, 0, none⟩) j a ∧ s11 = .int .i64 ((1 + total ks : Nat) : Int) ∧ s12 = .int .i64 (j : Int) ∧ Rowed d len p a w wr j q ks) (fun _ _ _ s12 _ => a - (intOf s12).toNat)
  case atStart => exact ⟨0, _, [], rfl, rfl, rfl, rfl, hr0⟩
  case round =>
    clear hr0
    obtain ⟨j, q, ks, rfl, rfl, rfl, rfl, hr⟩ := hrel
    have q1 := hr.lo
    have q2 := hr.hi
    have q3 := hr.tot
    have q4 := hr.ja
    by_cases hja : j < a
    · by_cases hql : q < len
      · go_wp2_with fail
        refine (ih.out q wr (by omega) hql hr.bel).mono ?_
        rintro e w' ⟨t, g, m, np, rfl, ht, hq, hn, hm, hbl⟩
        have hown1 : w'.ownsRow w.heap.size 44 1 (.slice (some ⟨w.heap.size, 0, none⟩) j a) j (ks.map Kid.val) := hr.own.kept (grown_of_below hbl) (Or.inr (by simp [Value.ownBlock]))
        go_wp2_with (at_builtin; refine wpList_append_fits _ rfl _ _ 36 rfl w.heap.size 44 i0 1 Edwg.underlying36 hi hz1 w.heap.size j a (ks.map Kid.val) rfl (hown1.alloc _) ⟨w'.heap.size, 0, none⟩ 1 1 [.iface t (.pointer (some ⟨g, 0, none⟩))] rfl rfl (cell_one_new _ _ _) (by simp [Value.oneCell']) (by omega) ?_; intro w2 hown2 hg2)
        go_roundw
        case rel => exact ⟨j + 1, np, ks ++ [⟨t, g, m⟩], rfl, rfl, by rw [total_append]; simp [total]; go_num, by go_num, hr.step ht hq hn hm hbl hja hg2 hown2⟩
        case measure => simp [intOf]; omega
      · go_wp2_with fail
        go_ret3
        exact hr.built (.inr rfl) rfl
    · go_wp2_with fail
      go_ret3
      exact hr.built (.inr rfl) rfl

end Go.Proofs.Yoedww
