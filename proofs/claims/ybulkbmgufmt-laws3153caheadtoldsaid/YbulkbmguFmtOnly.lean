/-
  What a call leaves of memory: 'Only X w w'': of the blocks that were there, none has turned but those that X names.
-/
import Derived.Below
import Derived.WalkSmall
namespace Go.Proofs.YbulkbmguFmt
open Go.RowKit

structure Only (X : Nat → Prop) (w w' : World) : Prop where
  os : w'.os = w.os
  tape : w'.tape = w.tape
  output : w'.output = w.output
  size : w.heap.size ≤ w'.heap.size
  block : ∀ b, b < w.heap.size → ¬ X b → w'.heap[b]? = w.heap[b]?

theorem Only.refl (X : Nat → Prop) (w : World) : Only X w w := ⟨rfl, rfl, rfl, Nat.le_refl _, fun _ _ _ => rfl⟩
theorem Only.trans {X : Nat → Prop} {a b c : World} (h : Only X a b) (k : Only X b c) : Only X a c :=
  ⟨k.os.trans h.os, k.tape.trans h.tape, k.output.trans h.output, Nat.le_trans h.size k.size, fun i hi hx => (k.block i (Nat.lt_of_lt_of_le hi h.size) hx).trans (h.block i hi hx)⟩
theorem Only.mono {X Y : Nat → Prop} {a b : World} (h : Only X a b) (hxy : ∀ i, i < a.heap.size → X i → Y i) : Only Y a b :=
  ⟨h.os, h.tape, h.output, h.size, fun i hi hy => h.block i hi fun hx => hy (hxy i hi hx)⟩
theorem Only.drew {X : Nat → Prop} {a w : World} (h : Only X a w) : Only X a w.drew := ⟨h.os, h.tape, h.output, h.size, h.block⟩
theorem Only.drewN {X : Nat → Prop} {a w : World} (h : Only X a w) (n : Nat) : Only X a (w.drewN n) := ⟨h.os, h.tape, h.output, h.size, h.block⟩
theorem Only.alloc {X : Nat → Prop} {a w : World} (h : Only X a w) (o : Obj) : Only X a (w.alloc o) :=
  h.trans ⟨rfl, rfl, rfl, by simp, fun k hk _ => Below.heap_alloc _ _ _ hk⟩
theorem Only.setCell {X : Nat → Prop} {a w : World} (h : Only X a w) {p : Addr} (hp : X p.block ∨ a.heap.size ≤ p.block) (u : Value) : Only X a (w.setCell p u) :=
  ⟨h.os, h.tape, h.output, by simpa [World.setCell] using h.size, fun k hk hx => by
    rw [Below.heap_setCell _ _ _ _ (fun e => by subst e; rcases hp with hp | hp; exact hx hp; omega)]
    exact h.block k hk hx⟩
theorem Only.below {X : Nat → Prop} {a w : World} (h : Only X a w) {B : Nat} (hB : B ≤ a.heap.size) (hX : ∀ i, X i → B ≤ i) : Below B a w :=
  ⟨h.os, h.tape, h.output, h.size, fun k hk => h.block k (by omega) fun hx => by have := hX k hx; omega⟩
theorem Only.of_below {X : Nat → Prop} {a w : World} (h : Below a.heap.size a w) : Only X a w := ⟨h.os, h.tape, h.output, h.size, fun k hk _ => h.block k hk⟩
theorem Only.cell {X : Nat → Prop} {a w : World} (h : Only X a w) {p : Addr} (hp : p.block < a.heap.size) (hx : ¬ X p.block) : w.cell? p = a.cell? p := World.cell?_of_block (w := a) (h.block p.block hp hx)

/-- Seven stores into one block, and eight. -/
theorem Only.stores7 {X : Nat → Prop} {a w : World} (h : Only X a w) (b : Nat) (hb : X b ∨ a.heap.size ≤ b) (x0 x1 x2 x3 x4 x5 x6 : Value) :
    Only X a (((((((w.setCell ⟨b, 0, none⟩ x0).setCell ⟨b, 1, none⟩ x1).setCell ⟨b, 2, none⟩ x2).setCell ⟨b, 3, none⟩ x3).setCell ⟨b, 4, none⟩ x4).setCell ⟨b, 5, none⟩ x5).setCell ⟨b, 6, none⟩ x6) :=
  ((((((h.setCell (p := ⟨b, 0, none⟩) hb x0).setCell (p := ⟨b, 1, none⟩) hb x1).setCell (p := ⟨b, 2, none⟩) hb x2).setCell (p := ⟨b, 3, none⟩) hb x3).setCell (p := ⟨b, 4, none⟩) hb x4).setCell (p := ⟨b, 5, none⟩) hb x5).setCell (p := ⟨b, 6, none⟩) hb x6
theorem Only.stores8 {X : Nat → Prop} {a w : World} (h : Only X a w) (b : Nat) (hb : X b ∨ a.heap.size ≤ b) (x0 x1 x2 x3 x4 x5 x6 x7 : Value) :
    Only X a ((((((((w.setCell ⟨b, 0, none⟩ x0).setCell ⟨b, 1, none⟩ x1).setCell ⟨b, 2, none⟩ x2).setCell ⟨b, 3, none⟩ x3).setCell ⟨b, 4, none⟩ x4).setCell ⟨b, 5, none⟩ x5).setCell ⟨b, 6, none⟩ x6).setCell ⟨b, 7, none⟩ x7) :=
  (h.stores7 b hb x0 x1 x2 x3 x4 x5 x6).setCell (p := ⟨b, 7, none⟩) hb x7

/-- A block of cells, none of them a constant's. -/
theorem cell_at {w : World} {b : Nat} {cs : Array Value} {t : TypeId} (h : w.heap[b]? = some (.cells cs t (0, 0))) (j : Nat) : w.cell? ⟨b, j, none⟩ = cs[j]? := by
  simp [World.cell?, h]
theorem free_at {w : World} {b : Nat} {cs : Array Value} {t : TypeId} (h : w.heap[b]? = some (.cells cs t (0, 0))) (j : Nat) : w.frozen? ⟨b, j, none⟩ = false := by
  simp [World.frozen?, h]
theorem lt_of_at {w : World} {b : Nat} {o : Obj} (h : w.heap[b]? = some o) : b < w.heap.size := by
  rcases Nat.lt_or_ge b w.heap.size with g | g
  · exact g
  · rw [Array.getElem?_eq_none g] at h; cases h
theorem set_at {w : World} {b : Nat} {cs : Array Value} {t : TypeId} (h : w.heap[b]? = some (.cells cs t (0, 0))) (j : Nat) (v : Value) : (w.setCell ⟨b, j, none⟩ v).heap[b]? = some (.cells (cs.setIfInBounds j v) t (0, 0)) := by
  simp [World.setCell, Array.getElem?_modify, h]
theorem alloc_at (w : World) (cs : Array Value) (t : TypeId) : (w.alloc (.cells cs t)).heap[w.heap.size]? = some (.cells cs t (0, 0)) := by
  show (w.heap.push _)[w.heap.size]? = _
  simp
theorem alloc_past {w : World} {b : Nat} {x : Obj} (o : Obj) (h : w.heap[b]? = some x) : (w.alloc o).heap[b]? = some x := by
  rw [Below.heap_alloc _ _ _ (lt_of_at h)]; exact h

/-- Blocks laid one behind the other. -/
def allocs (w : World) : List Obj → World
  | [] => w
  | o :: os => allocs (w.alloc o) os
theorem allocs_below : ∀ (os : List Obj) (w : World), Below w.heap.size w (allocs w os)
  | [], w => Below.refl _ _
  | o :: os, w => ((Below.refl _ w).alloc (Nat.le_refl _) o).trans ((allocs_below os (w.alloc o)).mono (by simp))
theorem allocs_at : ∀ (os : List Obj) (w : World) (i : Nat) (o : Obj), os[i]? = some o → (allocs w os).heap[w.heap.size + i]? = some o
  | [], _, _, _, h => by simp at h
  | o :: os, w, 0, x, h => by
    have e : o = x := by simpa using h
    subst e
    show (allocs (w.alloc o) os).heap[w.heap.size]? = _
    rw [(allocs_below os (w.alloc o)).block _ (by simp)]
    show (w.heap.push o)[w.heap.size]? = _
    simp
  | o :: os, w, i + 1, x, h => by
    have h' : os[i]? = some x := by simpa using h
    have := allocs_at os (w.alloc o) i x h'
    rw [show (w.alloc o).heap.size + i = w.heap.size + (i + 1) from by simp; omega] at this
    exact this
end Go.Proofs.YbulkbmguFmt
