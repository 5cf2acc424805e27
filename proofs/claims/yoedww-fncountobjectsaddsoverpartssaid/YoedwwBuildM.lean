/-
  zzBuild (function 8) at a Map and at an ImmutableMap.
-/
import Derived.Test.YoedwwBuildA
namespace Go.Proofs.Yoedww
open Go.RowKit Go.Maps

/-- What the loop over the entries has made so far. -/
structure Mapped (d len p a : Nat) (w wr : World) (j : Nat) (q : Int) (ks : List Kid) : Prop where
  ja : j ≤ a
  a3 : a ≤ 3
  kl : ks.length = j
  lo : (p : Int) + 1 ≤ q
  hi : q ≤ len
  tot : (total ks : Int) ≤ 2 * (q - (p + 1))
  own : wr.ownsMap Edwg.prog 9 elemR w.heap.size j (dmap ks)
  kids : ∀ k ∈ ks, Tree d (w.heap.size + 1) wr k
  bel : Below w.heap.size w wr
  sz : w.heap.size + 1 ≤ wr.heap.size

theorem Mapped.built {d len p a : Nat} {w wr : World} {j : Nat} {q : Int} {ks : List Kid} (h : Mapped d len p a w wr j q ks) {t T : Nat} (ht : t = 39 ∨ t = 58) {e : Ending}
    (he : e = .returned (.tuple #[.iface t (.pointer (some ⟨wr.heap.size, 0, none⟩)), .int .i64 q, .int .i64 ((1 + total ks : Nat) : Int)])) :
    Built (d + 1) len p w e (wr.alloc (.cells #[.map (some w.heap.size)] T)) := by
  have hu : Upper (w.heap.size + 1) wr (wr.alloc (.cells #[.map (some w.heap.size)] T)) := Upper.of_below (below_alloc wr _)
  have htot := h.tot
  have hlo := h.lo
  have hj := h.ja
  have ha := h.a3
  have hk := h.kl
  exact ⟨t, wr.heap.size, 1 + total ks, q, he, ⟨h.bel.size, .inr (.inr (.inl ⟨ht, .inr ⟨w.heap.size, ks, new_cell _ _ _, Nat.le_refl _, (h.own.alloc _).mono (by omega), by omega, fun k hk => Tree.base (Nat.le_succ _) (Tree.kept hu (h.kids k hk)), rfl⟩⟩))⟩, by omega, h.hi, by omega, h.bel.alloc h.bel.size _⟩

theorem Mapped.step {d len p a : Nat} {w wr w' w1 w2 : World} {j : Nat} {q np : Int} {ks : List Kid} (h : Mapped d len p a w wr j q ks) {t g m : Nat} (ht : Tree d wr.heap.size w' ⟨t, g, m⟩) (hq : q < np) (hn : np ≤ len) (hm : (m : Int) ≤ 2 * (np - q))
    (hb : Below wr.heap.size wr w') (hb1 : Below w'.heap.size w' w1) (hja : j < a) (hg : w1.grownBy w2 (some w.heap.size)) (ho : w2.ownsMap Edwg.prog 9 elemR w.heap.size (j + 1) ((dmap ks).put (key j) (.held (t, g)))) :
    Mapped d len p a w w2 (j + 1) np (⟨t, g, m⟩ :: ks) := by
  have hsz := h.sz
  have hlo := h.lo
  have htot := h.tot
  have hs1 := hb.size
  have hs2 := hb1.size
  have hs3 := hg.size
  have u1 : Upper (w.heap.size + 1) w1 w2 := Upper.of_grown hg (fun i hi => by cases hi; omega)
  have u2 : Upper (w.heap.size + 1) w' w1 := Upper.of_below hb1
  have u3 : Upper (w.heap.size + 1) wr w' := Upper.of_below hb
  refine ⟨hja, h.a3, by simp [h.kl], by omega, hn, ?_, ?_, fun k hk => ?_, ?_, by omega⟩
  · simp [total]; omega
  · rw [dmap, h.kl]; exact ho
  · rcases List.mem_cons.1 hk with rfl | hk
    · exact Tree.kept u1 (Tree.kept u2 (Tree.base hsz ht))
    · exact Tree.kept u1 (Tree.kept u2 (Tree.kept u3 (h.kids k hk)))
  · have b1 : Below w.heap.size w w' := h.bel.trans (hb.mono h.bel.size)
    have b2 : Below w.heap.size w w1 := b1.trans (hb1.mono b1.size)
    exact b2.grown hg b2.size (fun k hk => by cases hk; exact Nat.le_refl _)

set_option maxRecDepth 100000 in
set_option maxHeartbeats 1000000 in
theorem build_map (d x len p a : Nat) (b : Int) (w : World) (hc : w.cell? ⟨x, p, none⟩ = some (.int .u8 b)) (hp : p < len) (hlen : len ≤ 65536) (hb0 : 0 ≤ b) (hb1 : b ≤ 255) (ha : b / 6 % 4 = (a : Int))
    (h0 : (b % 6 == 0) = false) (h1 : (b % 6 == 1) = false) (h2 : (b % 6 == 2) = true) (ih : Hid (Builds d x len p w)) :
    Calls Edwg.prog 8 #[.slice (some ⟨x, 0, none⟩) len len, .int .i64 (p : Int)] w fun e w' => Built (d + 1) len p w e w' := by
  have hmm := @run_makeMap Edwg.prog
  have hr0 : Mapped d len p a w (w.alloc (.map #[] 0)) 0 ((p : Int) + 1) [] :=
    ⟨Nat.zero_le _, by omega, rfl, Int.le_refl _, by omega, by simp [total], World.ownsMap_made _ _ _ _, by simp, below_alloc w _, by simp⟩
  go_enter Edwg.func8, Edwg.ntmps8
  go_wp2_with fail
  simp only [ha]
  go_loopw [1, 17, 18] (fun s1 s17 s18 wr => ∃ (j : Nat) (q : Int) (ks : List Kid), s1 = .int .i64 q ∧ s17 = .int .i64 ((1 + total ks : Nat) : Int) ∧ s18 = .int .i64 (j : Int) ∧ Mapped d len p a w wr j q ks) (fun _ _ s18 _ => a - (intOf s18).toNat)
  case atStart => exact ⟨0, _, [], rfl, rfl, rfl, hr0⟩
  case round =>
    clear hr0
    obtain ⟨j, q, ks, rfl, rfl, rfl, hr⟩ := hrel
    have q1 := hr.lo
    have q2 := hr.hi
    have q3 := hr.tot
    have q4 := hr.ja
    have q5 := hr.a3
    by_cases hja : j < a
    · by_cases hql : q < len
      · go_wp2_with fail
        refine (ih.out q wr (by omega) hql hr.bel).mono ?_
        rintro e w' ⟨t, g, m, np, rfl, ht, hq, hn, hm, hbl⟩
        go_wp2_with fail
        refine (itoa_any j (by omega) _).mono ?_
        rintro e w1 ⟨rfl, hbl1⟩
        have hown1 : w1.ownsMap Edwg.prog 9 elemR w.heap.size j (dmap ks) := (hr.own.kept (grown_of_below hbl) (by simp)).kept (grown_of_below hbl1) (by simp)
        go_wp2_with (at_mapUpdate; refine wpList_mapUpdate_own _ rfl _ _ _ 40 rfl 9 44 law9 Edwg.underlying40 elemR w.heap.size j _ rfl hown1 (by unfold maxLen; omega) _ _ (key j) rfl rfl (key_of j) _ [] (elemR_mk t g) ?_; intro w2 hown2 hg2)
        go_roundw
        case rel => exact ⟨j + 1, np, ⟨t, g, m⟩ :: ks, rfl, by simp [total]; go_num, by go_num, hr.step ht hq hn hm hbl hbl1 hja hg2 hown2⟩
        case measure => simp [intOf]; omega
      · go_wp2_with fail
        go_ret3
        exact hr.built (.inl rfl) rfl
    · go_wp2_with fail
      go_ret3
      exact hr.built (.inl rfl) rfl

set_option maxRecDepth 100000 in
set_option maxHeartbeats 1000000 in
theorem build_imap (d x len p a : Nat) (b : Int) (w : World) (hc : w.cell? ⟨x, p, none⟩ = some (.int .u8 b)) (hp : p < len) (hlen : len ≤ 65536) (hb0 : 0 ≤ b) (hb1 : b ≤ 255) (ha : b / 6 % 4 = (a : Int))
    (h0 : (b % 6 == 0) = false) (h1 : (b % 6 == 1) = false) (h2 : (b % 6 == 2) = false) (h3 : (b % 6 == 3) = true) (ih : Hid (Builds d x len p w)) :
    Calls Edwg.prog 8 #[.slice (some ⟨x, 0, none⟩) len len, .int .i64 (p : Int)] w fun e w' => Built (d + 1) len p w e w' := by
  have hmm := @run_makeMap Edwg.prog
  have hr0 : Mapped d len p a w (w.alloc (.map #[] 0)) 0 ((p : Int) + 1) [] :=
    ⟨Nat.zero_le _, by omega, rfl, Int.le_refl _, by omega, by simp [total], World.ownsMap_made _ _ _ _, by simp, below_alloc w _, by simp⟩
  go_enter Edwg.func8, Edwg.ntmps8
  go_wp2_with fail
  simp only [ha]
  go_loopw [1, 17, 18] (fun s1 s17 s18 wr => ∃ (j : Nat) (q : Int) (ks : List Kid), s1 = .int .i64 q ∧ s17 = .int .i64 ((1 + total ks : Nat) : Int) ∧ s18 = .int .i64 (j : Int) ∧ Mapped d len p a w wr j q ks) (fun _ _ s18 _ => a - (intOf s18).toNat)
  case atStart => exact ⟨0, _, [], rfl, rfl, rfl, hr0⟩
  case round =>
    clear hr0
    obtain ⟨j, q, ks, rfl, rfl, rfl, hr⟩ := hrel
    have q1 := hr.lo
    have q2 := hr.hi
    have q3 := hr.tot
    have q4 := hr.ja
    have q5 := hr.a3
    by_cases hja : j < a
    · by_cases hql : q < len
      · go_wp2_with fail
        refine (ih.out q wr (by omega) hql hr.bel).mono ?_
        rintro e w' ⟨t, g, m, np, rfl, ht, hq, hn, hm, hbl⟩
        go_wp2_with fail
        refine (itoa_any j (by omega) _).mono ?_
        rintro e w1 ⟨rfl, hbl1⟩
        have hown1 : w1.ownsMap Edwg.prog 9 elemR w.heap.size j (dmap ks) := (hr.own.kept (grown_of_below hbl) (by simp)).kept (grown_of_below hbl1) (by simp)
        go_wp2_with (at_mapUpdate; refine wpList_mapUpdate_own _ rfl _ _ _ 40 rfl 9 44 law9 Edwg.underlying40 elemR w.heap.size j _ rfl hown1 (by unfold maxLen; omega) _ _ (key j) rfl rfl (key_of j) _ [] (elemR_mk t g) ?_; intro w2 hown2 hg2)
        go_roundw
        case rel => exact ⟨j + 1, np, ⟨t, g, m⟩ :: ks, rfl, by simp [total]; go_num, by go_num, hr.step ht hq hn hm hbl hbl1 hja hg2 hown2⟩
        case measure => simp [intOf]; omega
      · go_wp2_with fail
        go_ret3
        exact hr.built (.inr rfl) rfl
    · go_wp2_with fail
      go_ret3
      exact hr.built (.inr rfl) rfl

end Go.Proofs.Yoedww
