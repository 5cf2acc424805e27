/-
  zzBuild (function 8) at a leaf and at an Error.
-/
import Derived.Test.YoedwwItoa
import Derived.Test.YoedwwCountE
namespace Go.Proofs.Yoedww
open Go.RowKit Go.Maps

theorem new_cell (w : World) (v : Value) (t : TypeId) : (w.alloc (.cells #[v] t)).cell? ⟨w.heap.size, 0, none⟩ = some v := by simp

theorem new_cell' (w : World) (v : Value) (t : TypeId) {s : Nat} (hs : w.heap.size = s) : (w.alloc (.cells #[v] t)).cell? ⟨s, 0, none⟩ = some v := by subst hs; simp

theorem ret3 {v : Value} {a b c d : Int} (h1 : a = b) (h2 : c = d) : Ending.returned (.tuple #[v, .int .i64 a, .int .i64 c]) = .returned (.tuple #[v, .int .i64 b, .int .i64 d]) := by rw [h1, h2]

theorem below_alloc (w : World) (o : Obj) : Below w.heap.size w (w.alloc o) := (Below.refl _ _).alloc (Nat.le_refl _) _

/-- What a call of zzBuild at place p leaves: a tree of at most d storeys in new memory, the next place, the number of its objects. -/
def Built (d len : Nat) (p : Int) (w : World) (e : Ending) (w' : World) : Prop :=
  ∃ (t g m : Nat) (np : Int), e = .returned (.tuple #[.iface t (.pointer (some ⟨g, 0, none⟩)), .int .i64 np, .int .i64 (m : Int)]) ∧ Tree d w.heap.size w' ⟨t, g, m⟩ ∧ p < np ∧ np ≤ len ∧ (m : Int) ≤ 2 * (np - p) ∧ Below w.heap.size w w'

set_option maxRecDepth 100000 in
set_option maxHeartbeats 400000 in
theorem build_leaf (d x len p : Nat) (b : Int) (w : World) (hc : w.cell? ⟨x, p, none⟩ = some (.int .u8 b)) (hp : p < len) (hlen : len ≤ 65536) (hb0 : 0 ≤ b) (hb1 : b ≤ 255)
    (h0 : (b % 6 == 0) = false) (h1 : (b % 6 == 1) = false) (h2 : (b % 6 == 2) = false) (h3 : (b % 6 == 3) = false) (h4 : (b % 6 == 4) = false) :
    Calls Edwg.prog 8 #[.slice (some ⟨x, 0, none⟩) len len, .int .i64 (p : Int)] w fun e w' => Built (d + 1) len p w e w' := by
  go_enter Edwg.func8, Edwg.ntmps8
  go_wp2_with fail
  go_ret3
  exact ⟨26, w.heap.size, 1, (p : Int) + 1, rfl, ⟨Nat.le_refl _, .inl ⟨.inl rfl, rfl⟩⟩, by omega, by omega, by omega, (Below.refl _ _).alloc (Nat.le_refl _) _⟩

set_option maxRecDepth 100000 in
set_option maxHeartbeats 400000 in
theorem build_err_end (d x len p : Nat) (b : Int) (w : World) (hc : w.cell? ⟨x, p, none⟩ = some (.int .u8 b)) (hp : p < len) (hlen : len ≤ 65536) (hb0 : 0 ≤ b) (hb1 : b ≤ 255)
    (h0 : (b % 6 == 0) = false) (h1 : (b % 6 == 1) = false) (h2 : (b % 6 == 2) = false) (h3 : (b % 6 == 3) = false) (h4 : (b % 6 == 4) = true) (hend : len ≤ p + 1) :
    Calls Edwg.prog 8 #[.slice (some ⟨x, 0, none⟩) len len, .int .i64 (p : Int)] w fun e w' => Built (d + 2) len p w e w' := by
  go_enter Edwg.func8, Edwg.ntmps8
  go_wp2_with fail
  go_ret3
  refine ⟨53, w.heap.size + 1, 2, (p : Int) + 1, rfl, ⟨Nat.le_succ _, .inr (.inr (.inr ⟨rfl, ⟨26, w.heap.size, 1⟩, ?_, ⟨Nat.le_refl _, .inl ⟨.inl rfl, rfl⟩⟩, rfl⟩))⟩, by omega, by omega, by omega, ((Below.refl _ _).alloc (Nat.le_refl _) _).alloc (by simp) _⟩
  exact new_cell' _ _ _ (by simp)

set_option maxRecDepth 100000 in
set_option maxHeartbeats 400000 in
theorem build_err (d x len p : Nat) (b : Int) (w : World) (hc : w.cell? ⟨x, p, none⟩ = some (.int .u8 b)) (hp : p < len) (hlen : len ≤ 65536) (hb0 : 0 ≤ b) (hb1 : b ≤ 255)
    (h0 : (b % 6 == 0) = false) (h1 : (b % 6 == 1) = false) (h2 : (b % 6 == 2) = false) (h3 : (b % 6 == 3) = false) (h4 : (b % 6 == 4) = true) (hend : p + 1 < len)
    (ih : Hid (Calls Edwg.prog 8 #[.slice (some ⟨x, 0, none⟩) len len, .int .i64 ((p : Int) + 1)] w fun e w' => Built d len ((p : Int) + 1) w e w')) :
    Calls Edwg.prog 8 #[.slice (some ⟨x, 0, none⟩) len len, .int .i64 (p : Int)] w fun e w' => Built (d + 1) len p w e w' := by
  go_enter Edwg.func8, Edwg.ntmps8
  go_wp2_with (go_at_call 8; refine (ih.out).mono ?_; rintro e w' ⟨t, g, m, np, rfl, ht, hnp, hnl, hm, hbl⟩)
  go_ret3
  refine ⟨53, w'.heap.size, 1 + m, np, ret3 rfl (by omega), ⟨hbl.size, .inr (.inr (.inr ⟨rfl, ⟨t, g, m⟩, new_cell _ _ _, Tree.kept (Upper.of_below (below_alloc w' _)) ht, rfl⟩))⟩, by omega, hnl, by omega, hbl.alloc hbl.size _⟩

end Go.Proofs.Yoedww
