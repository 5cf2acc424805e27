/-
  An object tree of package tengo in memory: what zzBuild makes and what CountObjects counts. Plain facts; no walk.
-/
import Derived.Test.YoedwwRows
import Derived.WalkKit
import Derived.WalkSpells
import Derived.ProofKit
import Derived.Maps.Own
import Derived.Maps.OwnSet
import Derived.Maps.Range
import Derived.Maps.RangeWalk
namespace Go.Proofs.Yoedww
open Go.RowKit Go.Maps

/-- One object: its dynamic type, the block that the pointer leads to, and how many objects the tree below it holds. -/
structure Kid where
  t : Nat
  g : Nat
  n : Nat

/-- The interface value of an object. -/
def Kid.val (c : Kid) : Value := .iface c.t (.pointer (some ⟨c.g, 0, none⟩))

def total : List Kid → Nat
  | [] => 0
  | k :: r => k.n + total r

theorem total_append (a b : List Kid) : total (a ++ b) = total a + total b := by
  induction a with
  | nil => simp [total]
  | cons x r ih => simp [total, ih]; omega

theorem total_mem {ks : List Kid} {k : Kid} (h : k ∈ ks) : k.n ≤ total ks := by
  induction ks with
  | nil => cases h
  | cons x r ih =>
    rcases List.mem_cons.1 h with rfl | h
    · simp [total]
    · have := ih h; simp [total]; omega

/-- The key of the i-th entry of a map that zzBuild makes. -/
def key (i : Nat) : Lit := .string [UInt8.ofNat (48 + i)]

theorem key_inj {i j : Nat} (hi : i < 10) (hj : j < 10) (h : key i = key j) : i = j := by
  simp only [key, Lit.string.injEq, List.cons.injEq, and_true] at h
  have := congrArg UInt8.toNat h
  simp at this
  omega

theorem key_lit (i : Nat) : WideAt.IsKeyLit (key i) := trivial

/-- How an element of a map of objects reads: as a token. -/
def elemR (v : Value) : Option (DataW (Nat × Nat) × List MemPlace) :=
  match v with
  | .iface t (.pointer (some ⟨g, 0, none⟩)) => some (.held (t, g), [])
  | _ => none

def mkV (c : Nat × Nat) : Value := .iface c.1 (.pointer (some ⟨c.2, 0, none⟩))

theorem elemR_mk (t g : Nat) : elemR (.iface t (.pointer (some ⟨g, 0, none⟩))) = some (.held (t, g), []) := rfl

theorem elemR_inv {v : Value} {y : DataW (Nat × Nat) × List MemPlace} (h : elemR v = some y) : ∃ c : Nat × Nat, v = mkV c ∧ y = (.held c, []) := by
  unfold elemR at h
  split at h
  · rename_i t g
    exact ⟨(t, g), rfl, (Option.some.inj h).symm⟩
  · cases h

/-- What a map of objects reads as: the last laid entry first. -/
def dmap : List Kid → DataW (Nat × Nat)
  | [] => .map []
  | k :: r => (dmap r).put (key r.length) (.held (k.t, k.g))

theorem dmap_isMap : ∀ ks, IsMap (dmap ks)
  | [] => isMap_empty
  | _ :: r => (dmap_isMap r).put _ _

/-- Every entry that was laid is there. -/
theorem dmap_has : ∀ (ks : List Kid), ks.length ≤ 9 → ∀ i, i < ks.length → Maps.has (dmap ks) (key i) = true
  | [], _, i, hi => by simp at hi
  | k :: r, hl, i, hi => by
    simp only [List.length_cons] at hi hl
    by_cases e : i = r.length
    · subst e; exact has_put_same (dmap_isMap r) (key_lit _) _
    · rw [dmap, has_put_other (fun h => e (key_inj (by omega) (by omega) h))]
      exact dmap_has r (by omega) i (by omega)

/-- Whatever stands at a key is one of the entries. -/
theorem dmap_at : ∀ (ks : List Kid) (kl : Lit) (c : Nat × Nat), (∀ zd, (dmap ks).atKey kl zd = .held c) → ∃ a k r, ks = a ++ k :: r ∧ kl = key r.length ∧ c = (k.t, k.g)
  | [], kl, c, h => by
    have := h .nil
    cases this
  | k :: r, kl, c, h => by
    by_cases e : kl = key r.length
    · subst e
      have h1 := h .nil
      rw [dmap, atKey_put_same (dmap_isMap r) (key_lit _)] at h1
      exact ⟨[], k, r, rfl, rfl, by cases h1; rfl⟩
    · obtain ⟨a, k', r', e1, e2, e3⟩ := dmap_at r kl c (fun zd => by have h1 := h zd; rw [dmap, atKey_put_other e] at h1; exact h1)
      exact ⟨k :: a, k', r', by rw [e1]; rfl, e2, e3⟩

/-- What is still to be counted. -/
def rest (left : Lit → Bool) : List Kid → Nat
  | [] => 0
  | k :: r => (if left (key r.length) then k.n else 0) + rest left r

theorem rest_all (left : Lit → Bool) : ∀ ks : List Kid, (∀ i, i < ks.length → left (key i) = true) → rest left ks = total ks
  | [], _ => rfl
  | k :: r, h => by
    rw [rest, total, if_pos (h r.length (by simp)), rest_all left r (fun i hi => h i (by simp; omega))]

theorem rest_none (left : Lit → Bool) (h : ∀ kl, left kl = false) : ∀ ks : List Kid, rest left ks = 0
  | [] => rfl
  | k :: r => by
    rw [rest, h, rest_none left h r]; simp

theorem rest_same (left left' : Lit → Bool) : ∀ ks : List Kid, (∀ i, i < ks.length → left' (key i) = left (key i)) → rest left' ks = rest left ks
  | [], _ => rfl
  | k :: r, h => by
    rw [rest, rest, h r.length (by simp), rest_same left left' r (fun i hi => h i (by simp; omega))]

/-- One entry has come. -/
theorem rest_step (left : Lit → Bool) (k : Kid) (r : List Kid) (hl : left (key r.length) = true) : ∀ a : List Kid, (a ++ k :: r).length ≤ 9 →
    rest (fun z => left z && !z.sameKey (key r.length)) (a ++ k :: r) + k.n = rest left (a ++ k :: r)
  | [], h => by
    simp only [List.nil_append, List.length_cons] at h ⊢
    rw [rest, rest, hl, WideAt.sameKey_self (key_lit _), rest_same left (fun z => left z && !z.sameKey (key r.length)) r (fun i hi => ?_)]
    · simp; omega
    · rw [sameKey_ne (fun e => by have := key_inj (by omega) (by omega) e; omega)]; simp
  | x :: a, h => by
    simp only [List.cons_append, List.length_cons] at h ⊢
    have ih := rest_step left k r hl a (by omega)
    have hne : (key (a ++ k :: r).length).sameKey (key r.length) = false := by
      refine sameKey_ne (fun e => ?_)
      have := key_inj (by omega) (by simp at h; omega) e
      simp at this
      omega
    rw [rest, rest, hne]
    simp only [Bool.not_false, Bool.and_true]
    omega

/-! ### the tree -/

/-- 'c' IS A TREE OF AT MOST d STOREYS; all its blocks are numbered from lo on; it holds c.n objects. -/
def Tree : Nat → Nat → World → Kid → Prop
  | 0, _, _, _ => False
  | d + 1, lo, w, c => lo ≤ c.g ∧
      (((c.t = 26 ∨ c.t = 31) ∧ c.n = 1)
      ∨ ((c.t = 35 ∨ c.t = 56) ∧ ∃ (v : Value) (ks : List Kid), w.cell? ⟨c.g, 0, none⟩ = some v ∧ w.ownsRow lo 44 1 v ks.length (ks.map Kid.val) ∧ (∀ k ∈ ks, Tree d lo w k) ∧ c.n = 1 + total ks)
      ∨ ((c.t = 39 ∨ c.t = 58) ∧ ((w.cell? ⟨c.g, 0, none⟩ = some (.map none) ∧ c.n = 1) ∨
          ∃ (b : Nat) (ks : List Kid), w.cell? ⟨c.g, 0, none⟩ = some (.map (some b)) ∧ lo ≤ b ∧ w.ownsMap Edwg.prog 9 elemR b 9 (dmap ks) ∧ ks.length ≤ 9 ∧ (∀ k ∈ ks, Tree d lo w k) ∧ c.n = 1 + total ks))
      ∨ (c.t = 53 ∧ ∃ k : Kid, w.cell? ⟨c.g, 0, none⟩ = some k.val ∧ Tree d lo w k ∧ c.n = 1 + k.n))

/-- The blocks from lo on that were there are as they were. -/
def Upper (lo : Nat) (w w' : World) : Prop := ∀ i, lo ≤ i → i < w.heap.size → w'.heap[i]? = w.heap[i]?

theorem Upper.of_below {lo : Nat} {w w' : World} (h : Below w.heap.size w w') : Upper lo w w' := fun i _ hi => h.block i hi

theorem Upper.of_grown {lo : Nat} {w w' : World} {row : Option Nat} (h : w.grownBy w' row) (hr : ∀ j, row = some j → j < lo) : Upper lo w w' :=
  fun i hl hi => h.block i hi (fun e => by have := hr i e.symm; omega)

theorem Upper.cell {lo : Nat} {w w' : World} (h : Upper lo w w') {a : Addr} (hl : lo ≤ a.block) {v : Value} (hc : w.cell? a = some v) : w'.cell? a = some v :=
  (World.cell?_of_block (h a.block hl (World.block_lt_of_cell? w a hc))).trans hc

theorem Upper.row {lo : Nat} {w w' : World} (h : Upper lo w w') {e : TypeId} {size : Nat} {v : Value} {n : Nat} {xs : List Value} (ho : w.ownsRow lo e size v n xs) : w'.ownsRow lo e size v n xs := by
  refine ⟨ho.1, ?_⟩
  rcases ho.2 with hn | ⟨g, cap, cur, rfl, hb, hgg, r⟩
  · exact .inl hn
  · exact .inr ⟨g, cap, cur, rfl, hb, by rw [h g hb (Array.getElem?_eq_some_iff.1 hgg).1]; exact hgg, r⟩

theorem Upper.map {lo : Nat} {w w' : World} (h : Upper lo w w') {b n : Nat} {D : DataW (Nat × Nat)} (hl : lo ≤ b) (ho : w.ownsMap Edwg.prog 9 elemR b n D) : w'.ownsMap Edwg.prog 9 elemR b n D := by
  have hlt := ho.lt
  obtain ⟨es, clock, hb, r⟩ := ho
  exact ⟨es, clock, by rw [h b hl hlt]; exact hb, r⟩

theorem Tree.kept {lo : Nat} {w w' : World} (h : Upper lo w w') : ∀ {d : Nat} {c : Kid}, Tree d lo w c → Tree d lo w' c
  | 0, _, ht => ht.elim
  | d + 1, c, ht => by
    obtain ⟨hl, ht⟩ := ht
    refine ⟨hl, ?_⟩
    rcases ht with h1 | ⟨ht, v, ks, hc, ho, hk, hn⟩ | ⟨ht, h2 | ⟨b, ks, hc, hlb, ho, hks, hk, hn⟩⟩ | ⟨ht, k, hc, hk, hn⟩
    · exact .inl h1
    · exact .inr (.inl ⟨ht, v, ks, h.cell hl hc, h.row ho, fun k hm => Tree.kept h (hk k hm), hn⟩)
    · exact .inr (.inr (.inl ⟨ht, .inl ⟨h.cell hl h2.1, h2.2⟩⟩))
    · exact .inr (.inr (.inl ⟨ht, .inr ⟨b, ks, h.cell hl hc, hlb, h.map hlb ho, hks, fun k hm => Tree.kept h (hk k hm), hn⟩⟩))
    · exact .inr (.inr (.inr ⟨ht, k, h.cell hl hc, Tree.kept h hk, hn⟩))

theorem ownsRow_base {lo lo' : Nat} (hle : lo' ≤ lo) {w : World} {e : TypeId} {size : Nat} {v : Value} {n : Nat} {xs : List Value} (ho : w.ownsRow lo e size v n xs) : w.ownsRow lo' e size v n xs := by
  refine ⟨ho.1, ?_⟩
  rcases ho.2 with hn | ⟨g, cap, cur, rfl, hb, r⟩
  · exact .inl hn
  · exact .inr ⟨g, cap, cur, rfl, Nat.le_trans hle hb, r⟩

theorem Tree.base {lo lo' : Nat} (hle : lo' ≤ lo) {w : World} : ∀ {d : Nat} {c : Kid}, Tree d lo w c → Tree d lo' w c
  | 0, _, ht => ht.elim
  | d + 1, c, ht => by
    obtain ⟨hl, ht⟩ := ht
    refine ⟨Nat.le_trans hle hl, ?_⟩
    rcases ht with h1 | ⟨ht, v, ks, hc, ho, hk, hn⟩ | ⟨ht, h2 | ⟨b, ks, hc, hlb, ho, hks, hk, hn⟩⟩ | ⟨ht, k, hc, hk, hn⟩
    · exact .inl h1
    · exact .inr (.inl ⟨ht, v, ks, hc, ownsRow_base hle ho, fun k hm => Tree.base hle (hk k hm), hn⟩)
    · exact .inr (.inr (.inl ⟨ht, .inl h2⟩))
    · exact .inr (.inr (.inl ⟨ht, .inr ⟨b, ks, hc, Nat.le_trans hle hlb, ho, hks, fun k hm => Tree.base hle (hk k hm), hn⟩⟩))
    · exact .inr (.inr (.inr ⟨ht, k, hc, Tree.base hle hk, hn⟩))

/-- Every tree holds at least one object. -/
theorem Tree.pos {lo : Nat} {w : World} : ∀ {d : Nat} {c : Kid}, Tree d lo w c → 1 ≤ c.n
  | 0, _, ht => ht.elim
  | d + 1, c, ht => by
    obtain ⟨_, ht⟩ := ht
    rcases ht with h1 | ⟨_, _, _, _, _, _, hn⟩ | ⟨_, h2 | ⟨_, _, _, _, _, _, _, hn⟩⟩ | ⟨_, _, _, _, hn⟩ <;> omega

end Go.Proofs.Yoedww
