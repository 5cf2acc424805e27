/-
  CountObjects (function 7) at every tree: it returns the number of the tree's objects, and writes nothing that was there.
-/
import Derived.Test.YoedwwCountM
namespace Go.Proofs.Yoedww
open Go.RowKit Go.Maps

theorem row_cells {w : World} {lo h cap : Nat} {ks : List Kid} (ho : w.ownsRow lo 44 1 (.slice (some ⟨h, 0, none⟩) ks.length cap) ks.length (ks.map Kid.val)) :
    ∀ j (hj : j < ks.length), w.cell? ⟨h, j, none⟩ = some (.iface ks[j].t (.pointer (some ⟨ks[j].g, 0, none⟩))) := by
  intro j hj
  have := ho.cells (g := h) rfl j ks[j].val (by simp [hj])
  rw [Addr.add_lit, Nat.zero_add] at this
  exact this

theorem count_any : ∀ (d : Nat) (c : Kid) (lo : Nat) (w : World), Tree d lo w c → c.n ≤ 1000000000 →
    Calls Edwg.prog 7 #[.iface c.t (.pointer (some ⟨c.g, 0, none⟩))] w fun e w' => e = .returned (.int .i64 (c.n : Int)) ∧ Below w.heap.size w w'
  | 0, _, _, _, ht, _ => ht.elim
  | d + 1, ⟨t, g, n⟩, lo, w, ht, hn => by
    obtain ⟨hl, ht⟩ := ht
    have kids : ∀ ks : List Kid, (∀ k ∈ ks, Tree d lo w k) → total ks ≤ 1000000000 → KidsCount w ks := fun ks hk hb k hm wr hw =>
      count_any d k lo wr (Tree.kept (Upper.of_below hw) (hk k hm)) (Nat.le_trans (total_mem hm) hb)
    simp only at hl ht hn ⊢
    rcases ht with ⟨ht, rfl⟩ | ⟨ht, v, ks, hc, ho, hk, rfl⟩ | ⟨ht, ⟨hc, rfl⟩ | ⟨b, ks, hc, hlb, ho, hks, hk, rfl⟩⟩ | ⟨rfl, ⟨t', g', n'⟩, hc, hk, rfl⟩
    · rcases ht with rfl | rfl
      · exact count26 g w
      · exact count31 g w
    · rcases ho.2 with ⟨rfl, h0⟩ | ⟨h, cap, cur, rfl, hbg, hgg, hcap, _⟩
      · obtain rfl : ks = [] := List.eq_nil_of_length_eq_zero h0
        rcases ht with rfl | rfl
        · exact count35_nil g w hc
        · exact count56_nil g w hc
      · have hh : h < w.heap.size := (Array.getElem?_eq_some_iff.1 hgg).1
        have hlen : ks.length ≤ total ks := by
          have : ∀ l : List Kid, (∀ k ∈ l, Tree d lo w k) → l.length ≤ total l := by
            intro l
            induction l with
            | nil => intro _; simp
            | cons x r ih =>
              intro h
              have h1 := (h x (by simp)).pos
              have h2 := ih (fun k hk => h k (by simp [hk]))
              simp [total]; omega
          exact this ks hk
        rcases ht with rfl | rfl
        · exact count35_row g h cap ks w hc hh (row_cells ho) (by omega) (by omega) (kids ks hk (by omega))
        · exact count56_row g h cap ks w hc hh (row_cells ho) (by omega) (by omega) (kids ks hk (by omega))
    · rcases ht with rfl | rfl
      · exact count39_nil g w hc
      · exact count58_nil g w hc
    · rcases ht with rfl | rfl
      · exact count39_row g b ks w hc ho hks (by omega) (kids ks hk (by omega))
      · exact count58_row g b ks w hc ho hks (by omega) (kids ks hk (by omega))
    · exact count53 g t' g' n' w hc (by simp only at hn; omega) (count_any d ⟨t', g', n'⟩ lo w hk (by simp only at hn ⊢; omega))

end Go.Proofs.Yoedww
