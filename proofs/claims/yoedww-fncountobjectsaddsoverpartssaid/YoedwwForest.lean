/-
  (*Bytecode).CountObjects (function 10); and what the loop of the second law has made: a row of trees that grows by append.
-/
import Derived.Test.YoedwwCommon
import Derived.Maps.AppendAt
namespace Go.Proofs.Yoedww
open Go.RowKit Go.Maps

theorem bc_nil (g : Nat) (w : World) (hc : w.cell? ⟨g, 2, none⟩ = some (.slice none 0 0)) :
    Calls Edwg.prog 10 #[.pointer (some ⟨g, 0, none⟩)] w fun e w' => e = .returned (.int .i64 0) ∧ Below w.heap.size w w' := by
  go_enter Edwg.func10, Edwg.ntmps10
  go_wp2_with fail
  refine wp_loop_rounds 1 ?_
  rw [rounds_succ]
  go_wp2_with fail
  go_ret
  exact ⟨rfl, Below.refl _ _⟩

set_option maxHeartbeats 400000 in
theorem bc_row (g h cap : Nat) (ks : List Kid) (w : World) (hc : w.cell? ⟨g, 2, none⟩ = some (.slice (some ⟨h, 0, none⟩) ks.length cap)) (hh : h < w.heap.size)
    (hcell : ∀ j (hj : j < ks.length), w.cell? ⟨h, j, none⟩ = some (.iface ks[j].t (.pointer (some ⟨ks[j].g, 0, none⟩)))) (hn : total ks ≤ 1000000000) (hlen : ks.length ≤ 1000000000)
    (ih : Hid (KidsCount w ks)) :
    Calls Edwg.prog 10 #[.pointer (some ⟨g, 0, none⟩)] w fun e w' => e = .returned (.int .i64 (total ks : Int)) ∧ Below w.heap.size w w' := by
  go_enter Edwg.func10, Edwg.ntmps10
  go_wp2_with fail
  go_loopw [3, 11] (fun c i wr => ∃ j : Nat, j ≤ ks.length ∧ i = .int .i64 j ∧ c = .int .i64 (total (ks.take j) : Int) ∧ Below w.heap.size w wr) (fun _ i _ => ks.length - (intOf i).toNat)
  case atStart => exact ⟨0, Nat.zero_le _, rfl, rfl, Below.refl _ _⟩
  case round =>
    obtain ⟨j, hj, rfl, rfl, hb⟩ := hrel
    have ht := total_take_le ks j
    by_cases hlt : j < ks.length
    · have hcj : wr.cell? ⟨h, j, none⟩ = some (.iface ks[j].t (.pointer (some ⟨ks[j].g, 0, none⟩))) := by rw [hb.cell (p := ⟨h, j, none⟩) hh]; exact hcell j hlt
      have hs : Hid (total (ks.take (j + 1)) = total (ks.take j) + ks[j].n) := total_take_succ ks j hlt
      have hm : ks[j].n ≤ 1000000000 := Nat.le_trans (total_mem (List.getElem_mem hlt)) hn
      go_wp2_with (go_at_call 7; refine (ih.out ks[j] (List.getElem_mem hlt) _ hb).mono ?_; rintro e w' ⟨rfl, hb'⟩)
      go_roundw
      case rel => exact ⟨j + 1, hlt, by go_num, by rw [hs.out]; go_num, hb.trans (hb'.mono hb.size)⟩
      case measure => simp [intOf]; omega
    · go_wp2_with fail
      go_ret
      exact ⟨ret_int (by rw [List.take_of_length_le (by omega)]), hb⟩

/-- append of one value onto a row of the call's own that is not nil, the shape of what comes back written out. -/
theorem wpList_append_row {P : Program} (w : World) {ops : Array Oper} {rest : List Oper} {o : Oper} {a : Act} {Q : Exit → Act → World → Prop} (hgd : o.guard = none) (s x : Operand) (t : TypeId)
    (ho : o.op = .call { callee := .builtin .append, args := #[s, x], argTypes := #[t, t] })
    (base : Nat) (e : TypeId) (i : TypeInfo) (z : Value) (bytes : Nat) (ht : P.underlying t = some (.slice e)) (hi : P.info? e = some i) (hz : i.zero = some z)
    (hsize : i.size = 1) (hby : i.bytes = bytes) (hzs : z.cells.size = 1)
    (r n cap : Nat) (xs : List Value) (hs : a.eval s = .slice (some ⟨r, 0, none⟩) n cap) (hown : w.ownsRow base e 1 (.slice (some ⟨r, 0, none⟩) n cap) n xs)
    (ad : Addr) (v : Value) (hx : a.eval x = .slice (some ad) 1 1) (hnews : ∀ j u, [v][j]? = some u → w.cell? (ad.add j) = some u) (h1 : v.oneCell' = true)
    (h63 : n + 1 ≤ maxLen) (hbytes : (n + 1) * bytes ≤ 140737488355328) (hbase : base ≤ w.heap.size)
    (h : ∀ (r' cap' : Nat) (w' : World), w'.ownsRow base e 1 (.slice (some ⟨r', 0, none⟩) (n + 1) cap') (n + 1) (xs ++ [v]) → w.grownBy w' (some r) → (r' = r ∨ r' = w.heap.size) → wpList P ops Q rest (a.put o.dst (.slice (some ⟨r', 0, none⟩) (n + 1) cap')) w') :
    wpList P ops Q (o :: rest) a w := by
  refine wpList_append_own_at w hgd s x t ho base e i z 1 bytes ht hi hz hsize hby hzs (by decide) _ n xs hs hown ad 1 1 [v] hx rfl hnews (by simp [h1]) h63 hbytes hbase ?_
  intro v' w' hown' hg hnil hloc
  rcases hown'.2 with ⟨rfl, h0⟩ | ⟨r', cap', cur, rfl, _⟩
  · omega
  · exact h r' cap' w' hown' hg (by simpa [Value.ownBlock] using hloc)

/-- A tree that was made in a world W and has not been touched since; the growing row r is none of its blocks. -/
def Grove (d : Nat) (wr : World) (r : Nat) (k : Kid) : Prop :=
  ∃ (lo : Nat) (W : World), Tree d lo W k ∧ Upper lo W wr ∧ W.heap.size ≤ wr.heap.size ∧ (r < lo ∨ W.heap.size ≤ r)

theorem Grove.tree {d : Nat} {wr : World} {r : Nat} {k : Kid} (h : Grove d wr r k) : Tree d 0 wr k := by
  obtain ⟨lo, W, ht, hu, _⟩ := h
  exact Tree.base (Nat.zero_le _) (Tree.kept hu ht)

theorem Grove.step {d : Nat} {wr w2 : World} {r r' : Nat} {k : Kid} (h : Grove d wr r k) (hg : wr.grownBy w2 (some r)) (hr : r' = r ∨ wr.heap.size ≤ r') : Grove d w2 r' k := by
  obtain ⟨lo, W, ht, hu, hs, ho⟩ := h
  refine ⟨lo, W, ht, fun i hl hi => ?_, Nat.le_trans hs hg.size, by omega⟩
  rw [hg.block i (by omega) (fun e => by have := Option.some.inj e; omega)]
  exact hu i hl hi

/-- What the loop over the shape has made so far. -/
structure Woods (d len : Nat) (w wr : World) (r cap : Nat) (q : Int) (ks : List Kid) : Prop where
  q0 : 0 ≤ q
  hi : q ≤ len
  some_ : 0 < q → 0 < ks.length
  cnt : (ks.length : Int) ≤ q
  tot : (total ks : Int) ≤ 2 * q
  own : wr.ownsRow w.heap.size 44 1 (.slice (some ⟨r, 0, none⟩) ks.length cap) ks.length (ks.map Kid.val)
  kids : ∀ k ∈ ks, Grove d wr r k
  bel : Below w.heap.size w wr

theorem Woods.step {d len : Nat} {w wr w' w2 : World} {r cap r' cap' : Nat} {q np : Int} {ks : List Kid} (h : Woods d len w wr r cap q ks) {t g m : Nat} (ht : Tree d wr.heap.size w' ⟨t, g, m⟩) (hq : q < np) (hn : np ≤ len) (hm : (m : Int) ≤ 2 * (np - q))
    (hb : Below wr.heap.size wr w') {o : Obj} (hg : (w'.alloc o).grownBy w2 (some r)) (hr : r' = r ∨ r' = (w'.alloc o).heap.size)
    (ho : w2.ownsRow w.heap.size 44 1 (.slice (some ⟨r', 0, none⟩) (ks.length + 1) cap') (ks.length + 1) (ks.map Kid.val ++ [.iface t (.pointer (some ⟨g, 0, none⟩))])) :
    Woods d len w w2 r' cap' np (ks ++ [⟨t, g, m⟩]) := by
  have h1 := h.q0
  have h2 := h.cnt
  have h3 := h.tot
  have hs1 := hb.size
  obtain ⟨hrl, hrs⟩ := h.own.lt r rfl
  have e1 : (w'.alloc o).heap.size = w'.heap.size + 1 := by simp
  have g1 : wr.grownBy w2 (some r) := (((grown_of_below hb).but (some r)).trans (World.grownBy_alloc w' o (some r))).trans hg
  have g2 : w'.grownBy w2 (some r) := (World.grownBy_alloc w' o (some r)).trans hg
  refine ⟨by omega, hn, fun _ => by simp, ?_, ?_, by simpa [Kid.val] using ho, fun k hk => ?_, ?_⟩
  · simp; omega
  · rw [total_append]; simp [total]; omega
  · rcases List.mem_append.1 hk with hk | hk
    · exact (h.kids k hk).step g1 (by omega)
    · obtain rfl := List.mem_singleton.1 hk
      exact ⟨wr.heap.size, w', ht, fun i hl hi => g2.block i hi (fun e => by have := Option.some.inj e; omega), g2.size, by omega⟩
  · exact h.bel.grown g1 h.bel.size (fun k hk => by cases hk; exact hrl)

theorem Woods.len_le {d len : Nat} {w wr : World} {r cap : Nat} {q : Int} {ks : List Kid} (h : Woods d len w wr r cap q ks) : ks.length ≤ total ks := by
  have : ∀ l : List Kid, (∀ k ∈ l, Tree d 0 wr k) → l.length ≤ total l := by
    intro l
    induction l with
    | nil => intro _; simp
    | cons x r ih =>
      intro h
      have h1 := (h x (by simp)).pos
      have h2 := ih (fun k hk => h k (by simp [hk]))
      simp [total]; omega
  exact this ks (fun k hk => (h.kids k hk).tree)

end Go.Proofs.Yoedww
