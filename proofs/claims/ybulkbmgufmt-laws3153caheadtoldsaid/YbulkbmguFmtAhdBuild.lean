/-
  The law LawS3153CAhead: the packets that it lays in the Reader's store ahead.
-/
import Derived.Test.YbulkbmguFmtAhdState
import Derived.OwnWalk
namespace Go.Proofs.YbulkbmguFmt.ahd
open Go.RowKit
set_option maxRecDepth 100000

/-- zzs3153cdata once more: the block by name. -/
def FilledH (w : World) (D n k : Nat) (v : Int) : Prop := ∃ cs : Array Value, w.heap[D]? = some (.cells cs 5 (0, 0)) ∧ cs.size = n ∧ (∀ j, j < n → ∃ u, cs[j]? = some (.int .u8 u)) ∧ ∀ j, j < k → cs[j]? = some (.int .u8 v)

theorem filledH_start (w : World) (n : Nat) (v : Int) : FilledH (w.alloc (.cells (madeCells #[.int .u8 0] n) 5)) w.heap.size n 0 v :=
  ⟨_, alloc_at w _ _, size_madeCells _ _, fun j hj => ⟨0, by simp [madeCells, hj, Nat.mod_one]⟩, fun j hj => absurd hj (Nat.not_lt_zero j)⟩

theorem FilledH.step {w : World} {D n k : Nat} {v : Int} (h : FilledH w D n k v) (hk : k < n) : FilledH (w.setCell ⟨D, k, none⟩ (.int .u8 v)) D n (k + 1) v := by
  obtain ⟨cs, h1, h2, h3, h4⟩ := h
  refine ⟨_, set_at h1 k _, by simpa using h2, fun j hj => ?_, fun j hj => ?_⟩
  · obtain ⟨u, hu⟩ := h3 j hj
    by_cases e : k = j
    · subst e; exact ⟨v, by simp [h2, hj]⟩
    · exact ⟨u, by rw [Array.getElem?_setIfInBounds_ne e]; exact hu⟩
  · by_cases e : k = j
    · subst e; simp [h2, hk]
    · rw [Array.getElem?_setIfInBounds_ne e]; exact h4 j (by omega)

set_option maxHeartbeats 400000 in
theorem data_block (k l : Nat) (w : World) (_hk : k ≤ 1024) (_hl : l < 256) :
    Calls Ybaf.prog 13 #[.int .i64 k, .int .u8 l] w fun e w' => e = .returned (.slice (some ⟨w.heap.size, 0, none⟩) (l % 8) (l % 8)) ∧
      (∃ cs : Array Value, w'.heap[w.heap.size]? = some (.cells cs 5 (0, 0)) ∧ ∀ j, j < l % 8 → cs[j]? = some (.int .u8 ((k % 256 : Nat) : Int))) ∧ Below w.heap.size w w' := by
  have hr : (l : Int) % 8 = ((l % 8 : Nat) : Int) := by omega
  have hmk := make_bytes (l % 8) (by omega)
  have hn : l % 8 < 8 := by omega
  have hk8 : IntKind.u8.wrap (k : Int) = ((k % 256 : Nat) : Int) := by rw [IntKind.wrap_u8]; omega
  generalize l % 8 = n at *
  generalize k % 256 = v at *
  go_enter Ybaf.func13, Ybaf.ntmps13
  go_wp2
  go_loopw [6, 13] (fun _ i wr => ∃ k : Nat, k ≤ n ∧ i = .int .i64 k ∧ FilledH wr w.heap.size n k v ∧ Below w.heap.size w wr) (fun _ i _ => n - (intOf i).toNat)
  case atStart => exact ⟨0, Nat.zero_le _, rfl, filledH_start w n v, (Below.refl _ _).alloc (Nat.le_refl _) _⟩
  case round =>
    obtain ⟨i, hi, rfl, hf, hb⟩ := hrel
    by_cases hlt : i < n
    · have hf' := hf
      obtain ⟨cs, g1, g2, g3, g4⟩ := hf'
      obtain ⟨u, hu⟩ := g3 i hlt
      have hc := (cell_at g1 i).trans hu
      have hz := free_at g1 i
      clear g1 g2 g3 g4 hu
      go_wp2
      go_roundw
      case rel => exact ⟨i + 1, hlt, by go_num, hf.step hlt, hb.setCell (Nat.le_refl _) _⟩
      case measure => simp [intOf]; omega
    · go_wp2
      go_ret
      obtain ⟨cs, g1, g2, g3, g4⟩ := hf
      exact ⟨rfl, ⟨cs, g1, fun j hj => g4 j (by omega)⟩, hb⟩

/-- One packet read ahead, xs cells; and a row of them, from number i on. -/
def elem (ln : Nat → Nat) (i : Nat) (a : Option Addr) : List Value := [.int .u64 0, .int .i64 0, .pointer none, .int .u16 0, .slice a (ln i % 8) (ln i % 8), .int .i64 (i : Nat), .bool false, .pointer none]
def rowCells (ln : Nat → Nat) : Nat → List (Option Addr) → List Value
  | _, [] => []
  | i, a :: xs => elem ln i a ++ rowCells ln (i + 1) xs

theorem rowCells_length (ln : Nat → Nat) : ∀ xs i, (rowCells ln i xs).length = xs.length * 8
  | [], _ => rfl
  | a :: xs, i => by simp [rowCells, elem, rowCells_length ln xs (i + 1)]; omega
theorem rowCells_snoc (ln : Nat → Nat) (a : Option Addr) : ∀ xs i, rowCells ln i (xs ++ [a]) = rowCells ln i xs ++ elem ln (i + xs.length) a
  | [], i => by simp [rowCells]
  | b :: xs, i => by
    have := rowCells_snoc ln a xs (i + 1)
    simp only [List.cons_append, rowCells, this, List.length_cons, List.append_assoc]
    rw [show i + 1 + xs.length = i + (xs.length + 1) from by omega]
theorem rowCells_get (ln : Nat → Nat) : ∀ (xs : List (Option Addr)) (i t c : Nat) (a : Option Addr), xs[t]? = some a → c < 8 → (rowCells ln i xs)[8 * t + c]? = (elem ln (i + t) a)[c]?
  | [], _, _, _, _, h, _ => by simp at h
  | b :: xs, i, 0, c, a, h, hc => by
    have e : b = a := by simpa using h
    subst e
    have hl : (elem ln i b).length = 8 := rfl
    rw [rowCells, List.getElem?_append_left (by omega)]
    simp
  | b :: xs, i, t + 1, c, a, h, hc => by
    have h' : xs[t]? = some a := by simpa using h
    have hl : (elem ln i b).length = 8 := rfl
    rw [rowCells, List.getElem?_append_right (by omega), hl, show 8 * (t + 1) + c - 8 = 8 * t + c from by omega, rowCells_get ln xs (i + 1) t c a h' hc, show i + 1 + t = i + (t + 1) from by omega]

/-- The law's own blocks while it lays packets ahead: i of them lie in the slice v. -/
structure BS (w : World) (B : Nat) (a0 : Option Addr) (len cap : Nat) (ln : Nat → Nat) (pre : Nat) (aE : Addr) (i : Nat) (v : Value) (As : List (Option Addr)) : Prop where
  h0 : w.heap[B]? = some (.cells #[.slice a0 len cap] 25 (0, 0))
  h1 : w.heap[B + 1]? = some (.cells #[.int .i64 len] 3 (0, 0))
  h2 : w.heap[B + 2]? = some (.cells #[.int .i64 pre] 3 (0, 0))
  h3 : w.heap[B + 3]? = some (.cells #[.string ⟨#[115, 116, 111, 112, 112, 101, 100]⟩] 77 (0, 0))
  h4 : w.heap[B + 4]? = some (.cells #[.pointer none, .nilFunc, .nilIface, .int .u16 0, .int .i64 0, .pointer none, .slice none 0 0, v, .int .i64 (tot ln 0 i : Nat), .nilIface] 62 (0, 0))
  e0 : w.cell? ⟨0, 0, none⟩ = some (.iface 75 (.pointer (some aE)))
  e1 : ∃ cE tE, w.heap[aE.block]? = some (.cells cE tE (0, 0))
  pos : 0 < B
  eB : aE.block < B
  ls : ∀ i, i < len → ∃ lb off, a0 = some ⟨lb, off, none⟩ ∧ lb < B ∧ w.cell? ⟨lb, off + i, none⟩ = some (.int .u8 (ln i : Nat))
  own : w.ownsRow (B + 5) 69 8 v i (rowCells ln 0 As)
  lenA : As.length = i
  data : ∀ t, t < i → ∃ b cs, As[t]? = some (some ⟨b, 0, none⟩) ∧ B + 5 ≤ b ∧ w.heap[b]? = some (.cells cs 5 (0, 0)) ∧ ∀ s, s < ln t % 8 → cs[s]? = some (.int .u8 ((t % 256 : Nat) : Int))

theorem own_at {w : World} {base n : Nat} {v : Value} {xs : List Value} (h : w.ownsRow base 69 8 v n xs) {g : Nat} (hg : v.ownBlock = some g) : base ≤ g ∧ ∃ cur, w.heap[g]? = some (.cells cur 69 (0, 0)) := by
  obtain ⟨_, h | ⟨g', cap, cur, hv, hb, hh, _⟩⟩ := h
  · rw [h.1] at hg; cases hg
  · subst hv
    simp only [Value.ownBlock, Option.some.injEq] at hg
    subst hg
    exact ⟨hb, cur, hh⟩

/-- What a round leaves. -/
theorem BS.step {wr w1 w2 : World} {B : Nat} {a0 : Option Addr} {len cap : Nat} {ln : Nat → Nat} {pre : Nat} {aE : Addr} {i : Nat} {v : Value} {As : List (Option Addr)} (h : BS wr B a0 len cap ln pre aE i v As) {cs : Array Value} {o : Obj} {v' : Value} (b1 : Below wr.heap.size wr w1)
    (hD : w1.heap[wr.heap.size]? = some (.cells cs 5 (0, 0))) (hcs : ∀ s, s < ln i % 8 → cs[s]? = some (.int .u8 ((i % 256 : Nat) : Int)))
    (own' : w2.ownsRow (B + 5) 69 8 v' (i + 1) (rowCells ln 0 As ++ elem ln i (some ⟨wr.heap.size, 0, none⟩))) (gr : (w1.alloc o).grownBy w2 v.ownBlock) (t' : Int) (ht : t' = ((tot ln 0 (i + 1) : Nat) : Int)) :
    BS ((w2.setCell ⟨B + 4, 7, none⟩ v').setCell ⟨B + 4, 8, none⟩ (.int .i64 t')) B a0 len cap ln pre aE (i + 1) v' (As ++ [some ⟨wr.heap.size, 0, none⟩]) ∧
      Below B wr ((w2.setCell ⟨B + 4, 7, none⟩ v').setCell ⟨B + 4, 8, none⟩ (.int .i64 t')) ∧ w2.heap[B + 4]? = some (.cells #[.pointer none, .nilFunc, .nilIface, .int .u16 0, .int .i64 0, .pointer none, .slice none 0 0, v, .int .i64 (tot ln 0 i : Nat), .nilIface] 62 (0, 0)) := by
  subst ht
  have hs4 := lt_of_at h.h4
  have hs1 := b1.size
  have hsz : (w1.alloc o).heap.size = w1.heap.size + 1 := by simp
  have hne : ∀ b, b < B + 5 → some b ≠ v.ownBlock := fun b hb e => by
    have := (own_at h.own e.symm).1
    omega
  have old : ∀ b, b < wr.heap.size → some b ≠ v.ownBlock → w2.heap[b]? = wr.heap[b]? := fun b hb hn => by
    rw [gr.block b (by omega) hn, Below.heap_alloc _ _ _ (by omega), b1.block b hb]
  have low : ∀ b, b < B + 5 → w2.heap[b]? = wr.heap[b]? := fun b hb => old b (by omega) (hne b hb)
  have fin : ∀ b, b ≠ B + 4 → ((w2.setCell ⟨B + 4, 7, none⟩ v').setCell ⟨B + 4, 8, none⟩ (.int .i64 ((tot ln 0 (i + 1) : Nat) : Int))).heap[b]? = w2.heap[b]? := fun b hb => by
    rw [Below.heap_setCell _ _ _ _ (by simpa using hb), Below.heap_setCell _ _ _ _ (by simpa using hb)]
  have h42 : w2.heap[B + 4]? = some (.cells #[.pointer none, .nilFunc, .nilIface, .int .u16 0, .int .i64 0, .pointer none, .slice none 0 0, v, .int .i64 (tot ln 0 i : Nat), .nilIface] 62 (0, 0)) := by rw [low _ (by omega)]; exact h.h4
  have hp := h.pos
  refine ⟨⟨?_, ?_, ?_, ?_, ?_, ?_, ?_, h.pos, h.eB, ?_, ?_, by simp [h.lenA], ?_⟩, ?_, h42⟩
  · rw [fin _ (by omega), low _ (by omega)]; exact h.h0
  · rw [fin _ (by omega), low _ (by omega)]; exact h.h1
  · rw [fin _ (by omega), low _ (by omega)]; exact h.h2
  · rw [fin _ (by omega), low _ (by omega)]; exact h.h3
  · exact set_at (set_at h42 7 v') 8 _
  · rw [World.cell?_of_block (w := wr) ((fin 0 (by omega)).trans (low 0 (by omega)))]; exact h.e0
  · obtain ⟨cE, tE, hE⟩ := h.e1
    have := h.eB
    exact ⟨cE, tE, by rw [fin _ (by omega), low _ (by omega)]; exact hE⟩
  · intro q hq
    obtain ⟨lb, off, e, hlb, hc⟩ := h.ls q hq
    exact ⟨lb, off, e, hlb, by rw [World.cell?_of_block (w := wr) ((fin lb (by omega)).trans (low lb (by omega)))]; exact hc⟩
  · rw [rowCells_snoc, h.lenA, Nat.zero_add]
    exact ownsRow_setCell_below (ownsRow_setCell_below own' (a := ⟨B + 4, 7, none⟩) (by simp) v') (a := ⟨B + 4, 8, none⟩) (by simp) _
  · intro t ht
    have hla := h.lenA
    by_cases e : t = i
    · subst e
      refine ⟨wr.heap.size, cs, ?_, by omega, ?_, hcs⟩
      · rw [List.getElem?_append_right (by omega)]; simp [hla]
      · rw [fin _ (by omega), gr.block _ (by omega) (fun e => by
          obtain ⟨_, cur, hcur⟩ := own_at h.own e.symm
          exact absurd (lt_of_at hcur) (Nat.lt_irrefl _)), Below.heap_alloc _ _ _ (by have := lt_of_at hD; omega)]
        exact hD
    · obtain ⟨b, c, hA, hb, hh, hc⟩ := h.data t (by omega)
      refine ⟨b, c, ?_, hb, ?_, hc⟩
      · rw [List.getElem?_append_left (by omega)]; exact hA
      · rw [fin _ (by omega), old b (lt_of_at hh) (fun e => by
          obtain ⟨_, cur, hcur⟩ := own_at h.own e.symm
          rw [hh] at hcur
          simp at hcur)]
        exact hh
  · refine ⟨?_, ?_, ?_, ?_, fun b hb => ?_⟩
    · exact gr.os.trans b1.os
    · exact gr.tape.trans b1.tape
    · exact gr.output.trans b1.output
    · have := gr.size; simp [World.setCell]; omega
    · rw [fin _ (by omega), low _ (by omega)]
end Go.Proofs.YbulkbmguFmt.ahd
