/-
  What both laws share: the copy of the shape, at every slice that comes in.
-/
import Derived.Test.YoedwwClone
import Derived.Test.YoedwwCount
import Derived.OpenShut
namespace Go.Proofs.Yoedww
open Go.RowKit Go.Maps

theorem Below.nx {w a b : World} (h : Below w.heap.size w a) (k : Below a.heap.size a b) : Below w.heap.size w b := h.trans (k.mono h.size)

theorem Below.al {w a : World} (h : Below w.heap.size w a) (o : Obj) : Below w.heap.size w (a.alloc o) := h.alloc h.size o

/-- A slice of bytes that came in. -/
def InRow (w : World) (a : Option Addr) (len cap : Nat) (zs : List Int) : Prop :=
  (a = none ∧ len = 0 ∧ cap = 0 ∧ zs = []) ∨
  ∃ x, a = some x ∧ len ≤ cap ∧ cap ≤ maxLen ∧ zs.length = cap ∧ (∀ i, i < zs.length → w.cell? (x.add i) = some (.int .u8 (zs.getD i 0))) ∧ ∀ n ∈ zs, (Lit.int .u8 n).wf = true

theorem clone_empty {w : World} {a : Option Addr} {cap : Nat} {zs : List Int} (h : InRow w a 0 cap zs) :
    Calls Edwg.prog 6 #[.slice a 0 cap] w fun e w' => (∃ y, e = .returned (.slice y 0 0)) ∧ Below w.heap.size w w' := by
  rcases h with ⟨rfl, _, rfl, _⟩ | ⟨x, rfl, _⟩
  · exact (clone_nil w).mono fun e w' ⟨he, hb⟩ => ⟨⟨none, he⟩, hb⟩
  · exact (clone_zero x cap w).mono fun e w' ⟨he, hb⟩ => ⟨⟨_, he⟩, hb⟩

theorem clone_full {w : World} {a : Option Addr} {len cap : Nat} {zs : List Int} (h : InRow w a len cap zs) (hpos : 0 < len) (hlen : len ≤ 65536) :
    ∃ ys : List Int, ys.length = len ∧ Calls Edwg.prog 6 #[.slice a len cap] w fun e w' => e = .returned (.slice (some ⟨w.heap.size, 0, none⟩) len len) ∧ Shape w' w.heap.size ys ∧ Below w.heap.size w w' := by
  rcases h with ⟨_, h0, _⟩ | ⟨x, rfl, hlc, _, hz, hc, hwf⟩
  · omega
  · obtain ⟨b, off, rfl, hcell⟩ := ints_at hc (by omega)
    have hl : (zs.take len).length = len := by simp; omega
    refine ⟨zs.take len, hl, clone_row b off len cap (zs.take len) w hl hlen hpos (fun i hi => ?_) (fun z hz => ?_)⟩
    · have hi' : i < zs.length := by omega
      rw [hcell i hi']
      simp [List.getD, hi']
    · exact bounds_u8 (hwf z (List.mem_of_mem_take hz))

end Go.Proofs.Yoedww
