/-
  The law LawS3157CFirstNamed: small laws on blocks, the row of properties, what 'the first of that name' is.
-/
import Derived.Test.YbulkbmiyRows
import Derived.WalkKit
import Derived.Below
import Derived.Deep.OwnRows
import Derived.LaidEqlPtr
namespace Go.Proofs.Ybulkbmiy
open Go.RowKit
set_option maxRecDepth 100000

theorem cell_at {w : World} {b : Nat} {cs : Array Value} {t : TypeId} (h : w.heap[b]? = some (.cells cs t (0, 0))) (j : Nat) : w.cell? ⟨b, j, none⟩ = cs[j]? := by
  simp [World.cell?, h]
theorem free_at {w : World} {b : Nat} {cs : Array Value} {t : TypeId} (h : w.heap[b]? = some (.cells cs t (0, 0))) (j : Nat) : w.frozen? ⟨b, j, none⟩ = false := by
  simp [World.frozen?, h]
theorem lt_of_at {w : World} {b : Nat} {o : Obj} (h : w.heap[b]? = some o) : b < w.heap.size := by
  rcases Nat.lt_or_ge b w.heap.size with g | g
  · exact g
  · rw [Array.getElem?_eq_none g] at h; cases h
theorem set_at {w : World} {b : Nat} {cs : Array Value} {t : TypeId} (h : w.heap[b]? = some (.cells cs t (0, 0))) (j : Nat) (v : Value) : (w.setCell ⟨b, j, none⟩ v).heap[b]? = some (.cells (cs.setIfInBounds j v) t (0, 0)) := by
  simp [World.setCell, Array.getElem?_modify, h]
theorem alloc_at (w : World) (cs : Array Value) (t : TypeId) : (w.alloc (.cells cs t)).heap[w.heap.size]? = some (.cells cs t (0, 0)) := by
  show (w.heap.push _)[w.heap.size]? = _
  simp

theorem info24 : (Yba.prog.info? 24).map (fun i => (i.zero, i.size, i.bytes)) = some (some (.pointer none), 1, 8) := by kernel_rfl
theorem make_row (n : Nat) (h : n ≤ 2000) (w : World) : (Instr.makeSlice 23 (.int .i64 (n : Int)) (.int .i64 (n : Int))).run Yba.prog w = .ok (.slice (some ⟨w.heap.size, 0, none⟩) n n) (w.alloc (.cells (madeCells #[.pointer none] n) 24)) :=
  run_make_row' 23 24 _ 8 Yba.underlying23 info24 rfl .i64 .i64 n (by omega) (by omega) w

theorem info30 : (Yba.prog.info? 30).isSome = true := by kernel_rfl
theorem neq24 (p : Option Addr) (w : World) : (binOp .neq 24 (.pointer p) (.pointer p)).run Yba.prog w = .ok (.bool false) w := by
  obtain ⟨j, hj⟩ := Option.isSome_iff_exists.1 info30
  have h : ∀ d : Nat, (Op.equalIn (d + 1) 24 (.pointer p) (.pointer p)).run Yba.prog w = .ok true w := fun d => by
    cases p with
    | none => simp [Op.equalIn, run_underlying Yba.underlying24]
    | some a => simp [Op.equalIn, run_underlying Yba.underlying24, sizeOf, typeInfo, hj, run_sameAddr_same]
  simp only [binOp]
  simp [Op.equal, Op.maxDepth, h 9999]

/-- A slice of strings that came in. -/
def Strs (w : World) (B : Nat) (a : Option Addr) (len : Nat) (nm : Nat → ByteArray) : Prop :=
  ∀ i, i < len → ∃ lb off, a = some ⟨lb, off, none⟩ ∧ lb < B ∧ w.cell? ⟨lb, off + i, none⟩ = some (.string (nm i))
theorem Strs.kept {w w' : World} {B : Nat} {a : Option Addr} {len : Nat} {nm : Nat → ByteArray} (h : Strs w B a len nm) (b : Below B w w') : Strs w' B a len nm := by
  intro i hi
  obtain ⟨lb, off, e, hlb, hc⟩ := h i hi
  exact ⟨lb, off, e, hlb, by rw [b.cell (p := ⟨lb, off + i, none⟩) hlb]; exact hc⟩

/-- A row of n pointers in block G. -/
def Row (w : World) (G n : Nat) : Prop := ∃ cs : Array Value, w.heap[G]? = some (.cells cs 24 (0, 0)) ∧ cs.size = n ∧ ∀ j, j < n → ∃ u, cs[j]? = some (.pointer u)
theorem Row.start (w : World) (n : Nat) : Row (w.alloc (.cells (madeCells #[.pointer none] n) 24)) w.heap.size n :=
  ⟨_, alloc_at w _ _, size_madeCells _ _, fun j hj => ⟨none, by simp [madeCells, hj, Nat.mod_one]⟩⟩
theorem Row.set {w : World} {G n : Nat} (h : Row w G n) (j : Nat) (u : Option Addr) : Row (w.setCell ⟨G, j, none⟩ (.pointer u)) G n := by
  obtain ⟨cs, h1, h2, h3⟩ := h
  refine ⟨_, set_at h1 j _, by simpa using h2, fun k hk => ?_⟩
  by_cases e : j = k
  · subst e; exact ⟨u, by simp [h2, hk]⟩
  · rw [Array.getElem?_setIfInBounds_ne e]; exact h3 k hk
theorem Row.kept {w w' : World} {G n B : Nat} (h : Row w G n) (b : Below B w w') (hB : G < B) : Row w' G n := by
  obtain ⟨cs, h1, h2⟩ := h
  exact ⟨cs, by rw [b.block _ hB]; exact h1, h2⟩

/-- The properties: k of n lie, each in its own block behind the row's. -/
structure PS (w : World) (G n : Nat) (nm : Nat → ByteArray) (k : Nat) : Prop where
  row : ∃ cs : Array Value, w.heap[G]? = some (.cells cs 24 (0, 0)) ∧ cs.size = n ∧ (∀ j, j < k → cs[j]? = some (.pointer (some ⟨G + 1 + j, 0, none⟩))) ∧ ∀ j, j < n → ∃ u, cs[j]? = some (.pointer u)
  prop : ∀ j, j < k → w.heap[G + 1 + j]? = some (.cells #[.string (nm j), .int .i64 ((j : Int) + 1), .int .i64 1, .nilIface] 30 (0, 0))

theorem PS.start (w : World) (n : Nat) (nm : Nat → ByteArray) : PS (w.alloc (.cells (madeCells #[.pointer none] n) 24)) w.heap.size n nm 0 := by
  obtain ⟨cs, h1, h2, h3⟩ := Row.start w n
  exact ⟨⟨cs, h1, h2, fun j hj => absurd hj (Nat.not_lt_zero j), h3⟩, fun j hj => absurd hj (Nat.not_lt_zero j)⟩
theorem PS.kept {w w' : World} {G n B k : Nat} {nm : Nat → ByteArray} (h : PS w G n nm k) (b : Below B w w') (hB : G + 1 + k ≤ B) : PS w' G n nm k := by
  obtain ⟨⟨cs, h1, h2⟩, h3⟩ := h
  exact ⟨⟨cs, by rw [b.block _ (by omega)]; exact h1, h2⟩, fun j hj => by rw [b.block _ (by omega)]; exact h3 j hj⟩
theorem PS.step {w : World} {G n k : Nat} {nm : Nat → ByteArray} (h : PS w G n nm k) (hs : w.heap.size = G + 1 + k) (hk : k < n) :
    PS ((w.setCell ⟨G, k, none⟩ (.pointer (some ⟨w.heap.size, 0, none⟩))).alloc (.cells #[.string (nm k), .int .i64 ((k : Int) + 1), .int .i64 1, .nilIface] 30)) G n nm (k + 1) := by
  obtain ⟨⟨cs, h1, h2, h3, h4⟩, h5⟩ := h
  have hz : (w.setCell ⟨G, k, none⟩ (.pointer (some ⟨w.heap.size, 0, none⟩))).heap.size = G + 1 + k := by simpa [World.setCell] using hs
  refine ⟨⟨cs.setIfInBounds k (.pointer (some ⟨w.heap.size, 0, none⟩)), ?_, by simpa using h2, fun j hj => ?_, fun j hj => ?_⟩, fun j hj => ?_⟩
  · rw [Below.heap_alloc _ _ _ (by omega)]; exact set_at h1 k _
  · by_cases e : k = j
    · subst e; simp [h2, hk, hs]
    · rw [Array.getElem?_setIfInBounds_ne e]; exact h3 j (by omega)
  · by_cases e : k = j
    · subst e; exact ⟨some ⟨w.heap.size, 0, none⟩, by simp [h2, hk]⟩
    · rw [Array.getElem?_setIfInBounds_ne e]; exact h4 j hj
  · by_cases e : k = j
    · subst e
      rw [← hz]
      exact alloc_at _ _ _
    · rw [Below.heap_alloc _ _ _ (by omega), Below.heap_setCell _ _ _ _ (by simp; omega)]; exact h5 j (by omega)

/-- The cells that a walk reads of property j. -/
theorem PS.at {w : World} {G n k : Nat} {nm : Nat → ByteArray} (h : PS w G n nm k) (j : Nat) (hj : j < k) :
    w.cell? ⟨G, j, none⟩ = some (.pointer (some ⟨G + 1 + j, 0, none⟩)) ∧ w.cell? ⟨G + 1 + j, 0, none⟩ = some (.string (nm j)) ∧ w.cell? ⟨G + 1 + j, 1, none⟩ = some (.int .i64 ((j : Int) + 1)) := by
  obtain ⟨⟨cs, h1, h2, h3, h4⟩, h5⟩ := h
  exact ⟨(cell_at h1 j).trans (h3 j hj), (cell_at (h5 j hj) 0).trans (by simp), (cell_at (h5 j hj) 1).trans (by simp)⟩

/-- v points at the first of the n properties that bears the name q, or is nil where none does. -/
def First (G n : Nat) (nm : Nat → ByteArray) (q : ByteArray) (v : Option Addr) : Prop :=
  (∃ j, j < n ∧ ((nm j).toList == q.toList) = true ∧ (∀ t, t < j → ((nm t).toList == q.toList) = false) ∧ v = some ⟨G + 1 + j, 0, none⟩) ∨ ((∀ t, t < n → ((nm t).toList == q.toList) = false) ∧ v = none)
theorem First.unique {G n : Nat} {nm : Nat → ByteArray} {q : ByteArray} {u v : Option Addr} (hu : First G n nm q u) (hv : First G n nm q v) : u = v := by
  rcases hu with ⟨i, i1, i2, i3, rfl⟩ | ⟨i1, rfl⟩ <;> rcases hv with ⟨j, j1, j2, j3, rfl⟩ | ⟨j1, rfl⟩
  · have : i = j := by
      rcases Nat.lt_trichotomy i j with h | h | h
      · exact absurd (i2.symm.trans (j3 i h)) (by decide)
      · exact h
      · exact absurd (j2.symm.trans (i3 j h)) (by decide)
    rw [this]
  · exact absurd (i2.symm.trans (j1 i i1)) (by decide)
  · exact absurd (j2.symm.trans (i1 j j1)) (by decide)
  · rfl

set_option maxHeartbeats 400000 in
theorem get_any (w : World) (M G n : Nat) (us : Value) (nm : Nat → ByteArray) (q : ByteArray) (hP : PS w G n nm n) (hM : w.heap[M]? = some (.cells #[.int .i64 1, .int .i64 1, .slice (some ⟨G, 0, none⟩) n n, us] 33 (0, 0))) (hn : n ≤ 1024) :
    Calls Yba.prog 4 #[.pointer (some ⟨M, 0, none⟩), .string q] w fun e w' => w' = w ∧ ∃ v, e = .returned (.pointer v) ∧ First G n nm q v := by
  have c2 := cell_at hM 2
  simp at c2
  go_enter Yba.func4, Yba.ntmps4
  go_wp2_with fail
  go_loopw [6, 12] (fun _ i wr => ∃ k : Nat, k ≤ n ∧ i = .int .i64 k ∧ w = wr ∧ ∀ t, t < k → ((nm t).toList == q.toList) = false) (fun _ i _ => n - (intOf i).toNat)
  case atStart => exact ⟨0, Nat.zero_le _, rfl, rfl, fun t ht => absurd ht (Nat.not_lt_zero t)⟩
  case round =>
    obtain ⟨k, hk, rfl, rfl, hno⟩ := hrel
    by_cases hlt : k < n
    · obtain ⟨p1, p2, p3⟩ := hP.at k hlt
      cases hq : ((nm k).toList == q.toList)
      · go_wp2_with fail
        go_roundw
        case rel => exact ⟨k + 1, hlt, by go_num, trivial, fun t ht => by
          by_cases e : t = k
          · rw [e]; exact hq
          · exact hno t (by omega)⟩
        case measure => simp [intOf]; omega
      · go_wp2_with fail
        go_ret
        exact ⟨rfl, _, rfl, .inl ⟨k, hlt, hq, hno, rfl⟩⟩
    · go_wp2_with fail
      go_ret
      exact ⟨rfl, _, rfl, .inr ⟨fun t ht => hno t (by omega), rfl⟩⟩
end Go.Proofs.Ybulkbmiy
