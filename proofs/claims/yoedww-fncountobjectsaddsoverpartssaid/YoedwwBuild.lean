/-
  zzBuild (function 8) at every place of every shape: it returns a tree in new memory, the next place and the number of the tree's objects.
-/
import Derived.Test.YoedwwBuildM
namespace Go.Proofs.Yoedww
open Go.RowKit Go.Maps

/-- Block x is a row of the bytes zs. -/
structure Shape (w : World) (x : Nat) (zs : List Int) : Prop where
  lt : x < w.heap.size
  cell : ∀ i (hi : i < zs.length), w.cell? ⟨x, i, none⟩ = some (.int .u8 zs[i])
  lo : ∀ z ∈ zs, 0 ≤ z ∧ z ≤ 255

theorem Shape.later {w w' : World} {x : Nat} {zs : List Int} (h : Shape w x zs) (hb : Below w.heap.size w w') : Shape w' x zs :=
  ⟨Nat.lt_of_lt_of_le h.lt hb.size, fun i hi => by rw [hb.cell (p := ⟨x, i, none⟩) h.lt]; exact h.cell i hi, h.lo⟩

theorem build_any (x : Nat) (zs : List Int) (hlen : zs.length ≤ 65536) : ∀ (k : Nat) (p : Nat) (w : World), Shape w x zs → p < zs.length → zs.length - p ≤ k →
    Calls Edwg.prog 8 #[.slice (some ⟨x, 0, none⟩) zs.length zs.length, .int .i64 (p : Int)] w fun e w' => Built (k + 1) zs.length p w e w' := by
  intro k
  induction k with
  | zero => intro p w _ hp hk; omega
  | succ k ih =>
    intro p w hs hp hk
    have hc := hs.cell p hp
    obtain ⟨hb0, hb1⟩ := hs.lo zs[p] (List.getElem_mem hp)
    have hih : Builds (k + 1) x zs.length p w := fun q wr hq hql hbl => by
      obtain ⟨r, rfl⟩ := Int.eq_ofNat_of_zero_le (show 0 ≤ q by omega)
      exact ih r wr (hs.later hbl) (by omega) (by omega)
    generalize zs[p] = b at *
    obtain ⟨a, ha⟩ := Int.eq_ofNat_of_zero_le (show 0 ≤ b / 6 % 4 by omega)
    by_cases c0 : b % 6 = 0
    · exact build_arr (k + 1) x zs.length p a b w hc hp hlen hb0 hb1 ha (by simp [c0]) hih
    · by_cases c1 : b % 6 = 1
      · exact build_iarr (k + 1) x zs.length p a b w hc hp hlen hb0 hb1 ha (by simp [c0]) (by simp [c1]) hih
      · by_cases c2 : b % 6 = 2
        · exact build_map (k + 1) x zs.length p a b w hc hp hlen hb0 hb1 ha (by simp [c0]) (by simp [c1]) (by simp [c2]) hih
        · by_cases c3 : b % 6 = 3
          · exact build_imap (k + 1) x zs.length p a b w hc hp hlen hb0 hb1 ha (by simp [c0]) (by simp [c1]) (by simp [c2]) (by simp [c3]) hih
          · by_cases c4 : b % 6 = 4
            · by_cases hend : p + 1 < zs.length
              · exact build_err (k + 1) x zs.length p b w hc hp hlen hb0 hb1 (by simp [c0]) (by simp [c1]) (by simp [c2]) (by simp [c3]) (by simp [c4]) hend (hih _ w (by omega) (by omega) (Below.refl _ _))
              · exact build_err_end k x zs.length p b w hc hp hlen hb0 hb1 (by simp [c0]) (by simp [c1]) (by simp [c2]) (by simp [c3]) (by simp [c4]) (by omega)
            · exact build_leaf (k + 1) x zs.length p b w hc hp hlen hb0 hb1 (by simp [c0]) (by simp [c1]) (by simp [c2]) (by simp [c3]) (by simp [c4])

end Go.Proofs.Yoedww
