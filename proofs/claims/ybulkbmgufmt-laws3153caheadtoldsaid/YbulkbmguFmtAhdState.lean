/-
  The law LawS3153CAhead: the state of its own memory.
-/
import Derived.Test.YbulkbmguFmtData
import Derived.Test.YbulkbmguFmtErrs
import Derived.Test.YbulkbmguFmtOnly
import Derived.Laws.EntriesVeiled
namespace Go.Proofs.YbulkbmguFmt.ahd
open Go.RowKit
set_option maxRecDepth 100000

/-- How many bytes the packets j, j + 1, .. (n of them) hold. -/
def tot (ln : Nat → Nat) : Nat → Nat → Nat
  | _, 0 => 0
  | j, n + 1 => ln j % 8 + tot ln (j + 1) n

theorem tot_le (ln : Nat → Nat) : ∀ n j, tot ln j n ≤ 7 * n
  | 0, _ => Nat.le_refl _
  | n + 1, j => by have := tot_le ln n (j + 1); simp only [tot]; omega
theorem tot_snoc (ln : Nat → Nat) : ∀ n j, tot ln j (n + 1) = tot ln j n + ln (j + n) % 8
  | 0, j => by simp [tot]
  | n + 1, j => by
    have := tot_snoc ln n (j + 1)
    rw [show tot ln j (n + 1 + 1) = ln j % 8 + tot ln (j + 1) (n + 1) from rfl, this, show j + 1 + n = j + (n + 1) from by omega]
    simp only [tot]
    omega

/-- n bytes, each v, in a block that X does not name. -/
def BX (X : Nat → Prop) (w : World) (a : Option Addr) (n : Nat) (v : Int) : Prop :=
  ∃ b off, a = some ⟨b, off, none⟩ ∧ b < w.heap.size ∧ ¬ X b ∧ ∀ j, j < n → w.cell? ⟨b, off + j, none⟩ = some (.int .u8 v)

theorem BX.kept {X : Nat → Prop} {w w' : World} {a : Option Addr} {n : Nat} {v : Int} (h : BX X w a n v) (o : Only X w w') : BX X w' a n v := by
  obtain ⟨b, off, e, hb, hx, hc⟩ := h
  exact ⟨b, off, e, Nat.lt_of_lt_of_le hb o.size, hx, fun j hj => by rw [o.cell (p := ⟨b, off + j, none⟩) hb hx]; exact hc j hj⟩
theorem BX.bytes {X : Nat → Prop} {w : World} {a : Option Addr} {n : Nat} {v : Int} (h : BX X w a n v) : Bytes w 0 a n v := by
  obtain ⟨b, off, e, hb, hx, hc⟩ := h
  exact ⟨b, off, e, Nat.zero_le _, hb, hc⟩
theorem BX.of {X : Nat → Prop} {w : World} {lo : Nat} {a : Option Addr} {n : Nat} {v : Int} (h : Bytes w lo a n v) (hx : ∀ b, lo ≤ b → ¬ X b) : BX X w a n v := by
  obtain ⟨b, off, e, hlo, hb, hc⟩ := h
  exact ⟨b, off, e, hb, hx b hlo, hc⟩
theorem Bytes.lower {w : World} {lo lo' n : Nat} {a : Option Addr} {v : Int} (h : Bytes w lo a n v) (hl : lo' ≤ lo) : Bytes w lo' a n v := by
  obtain ⟨b, off, e, hlo, hb, hc⟩ := h
  exact ⟨b, off, e, Nat.le_trans hl hlo, hb, hc⟩
theorem Bytes.kept {w w' : World} {lo n : Nat} {a : Option Addr} {v : Int} {X : Nat → Prop} (h : Bytes w lo a n v) (o : Only X w w') (hX : ∀ i, X i → i < lo) : Bytes w' lo a n v := by
  obtain ⟨b, off, e, hlo, hb, hc⟩ := h
  exact ⟨b, off, e, hlo, Nat.lt_of_lt_of_le hb o.size, fun j hj => by rw [o.cell (p := ⟨b, off + j, none⟩) hb (fun hx => by have := hX b hx; omega)]; exact hc j hj⟩

/-- The row of the packets read ahead. -/
def RowIs (cur : Array Value) (pre : Nat) (ln : Nat → Nat) (A : Nat → Option Addr) : Prop :=
  ∀ i, i < pre → ∀ c, c < 8 → cur[8 * i + c]? = (#[.int .u64 0, .int .i64 0, .pointer none, .int .u16 0, .slice (A i) (ln i % 8) (ln i % 8), .int .i64 (i : Nat), .bool false, .pointer none] : Array Value)[c]?

/-- The blocks that may turn: the Reader, the two counters. -/
def Own (B C : Nat) (b : Nat) : Prop := b = B + 4 ∨ b = C ∨ b = C + 1

/-- The law's own blocks behind j packets taken from those read ahead, k calls of the source, v visits. -/
structure AS (w : World) (B C : Nat) (a0 : Option Addr) (len cap : Nat) (ln : Nat → Nat) (pre : Nat) (aE : Addr) (er : Value) (g : Nat) (cur : Array Value) (A : Nat → Option Addr) (j k v : Nat) : Prop where
  h0 : w.heap[B]? = some (.cells #[.slice a0 len cap] 25 (0, 0))
  h1 : w.heap[B + 1]? = some (.cells #[.int .i64 len] 3 (0, 0))
  h2 : w.heap[B + 2]? = some (.cells #[.int .i64 pre] 3 (0, 0))
  h3 : w.heap[B + 3]? = some (.cells #[.string ⟨#[115, 116, 111, 112, 112, 101, 100]⟩] 77 (0, 0))
  h4 : ∃ a c, pre - j ≤ c ∧ c ≤ 9223372036854775807 ∧ (j < pre → a = some ⟨g, 8 * j, none⟩) ∧ w.heap[B + 4]? = some (.cells #[.pointer none, .func (.func 18) #[] #[.pointer (some ⟨B + 2, 0, none⟩), .pointer (some ⟨C, 0, none⟩), .pointer (some ⟨B + 1, 0, none⟩), .pointer (some ⟨B, 0, none⟩)], .nilIface, .int .u16 0, .int .i64 0, .pointer none, .slice none 0 0, .slice a (pre - j) c, .int .i64 (tot ln j (pre - j) : Nat), er] 62 (0, 0))
  c0 : w.heap[C]? = some (.cells #[.int .i64 k] 3 (0, 0))
  c1 : w.heap[C + 1]? = some (.cells #[.int .i64 v] 3 (0, 0))
  c2 : w.heap[C + 2]? = some (.cells #[.bool true] 4 (0, 0))
  bc : B + 5 ≤ C
  e0 : w.cell? ⟨0, 0, none⟩ = some (.iface 75 (.pointer (some aE)))
  e1 : ∃ cE tE, w.heap[aE.block]? = some (.cells cE tE (0, 0))
  pos : 0 < B
  eB : aE.block < B
  ls : ∀ i, i < len → ∃ lb off, a0 = some ⟨lb, off, none⟩ ∧ lb < B ∧ w.cell? ⟨lb, off + i, none⟩ = some (.int .u8 (ln i : Nat))
  row : 0 < pre → w.heap[g]? = some (.cells cur 69 (0, 0)) ∧ B + 5 ≤ g ∧ g < C
  cells : RowIs cur pre ln A
  data : ∀ i, i < pre → ∃ b off, A i = some ⟨b, off, none⟩ ∧ B + 5 ≤ b ∧ b < C ∧ ∀ t, t < ln i % 8 → w.cell? ⟨b, off + t, none⟩ = some (.int .u8 ((i % 256 : Nat) : Int))

theorem AS.size {w : World} {B C : Nat} {a0 : Option Addr} {len cap : Nat} {ln : Nat → Nat} {pre : Nat} {aE : Addr} {er : Value} {g : Nat} {cur : Array Value} {A : Nat → Option Addr} {j k v : Nat} (h : AS w B C a0 len cap ln pre aE er g cur A j k v) : C + 3 ≤ w.heap.size := by
  have := lt_of_at h.c2; omega

theorem AS.of {w w' : World} {B C : Nat} {a0 : Option Addr} {len cap : Nat} {ln : Nat → Nat} {pre : Nat} {aE : Addr} {er : Value} {g : Nat} {cur : Array Value} {A : Nat → Option Addr} {j k v j' k' v' : Nat} (h : AS w B C a0 len cap ln pre aE er g cur A j k v) (key : ∀ b, b < C + 3 → ¬ Own B C b → w'.heap[b]? = w.heap[b]?)
    (g4 : ∃ a c, pre - j' ≤ c ∧ c ≤ 9223372036854775807 ∧ (j' < pre → a = some ⟨g, 8 * j', none⟩) ∧ w'.heap[B + 4]? = some (.cells #[.pointer none, .func (.func 18) #[] #[.pointer (some ⟨B + 2, 0, none⟩), .pointer (some ⟨C, 0, none⟩), .pointer (some ⟨B + 1, 0, none⟩), .pointer (some ⟨B, 0, none⟩)], .nilIface, .int .u16 0, .int .i64 0, .pointer none, .slice none 0 0, .slice a (pre - j') c, .int .i64 (tot ln j' (pre - j') : Nat), er] 62 (0, 0)))
    (gc0 : w'.heap[C]? = some (.cells #[.int .i64 k'] 3 (0, 0))) (gc1 : w'.heap[C + 1]? = some (.cells #[.int .i64 v'] 3 (0, 0))) : AS w' B C a0 len cap ln pre aE er g cur A j' k' v' := by
  have hbc := h.bc
  have key' : ∀ b, b < C + 3 → b ≠ B + 4 → b ≠ C → b ≠ C + 1 → w'.heap[b]? = w.heap[b]? := fun b hb x1 x2 x3 => key b hb (fun hx => by rcases hx with hx | hx | hx <;> omega)
  refine ⟨?_, ?_, ?_, ?_, g4, gc0, gc1, ?_, h.bc, ?_, ?_, h.pos, h.eB, ?_, ?_, h.cells, ?_⟩
  · rw [key' _ (by omega) (by omega) (by omega) (by omega)]; exact h.h0
  · rw [key' _ (by omega) (by omega) (by omega) (by omega)]; exact h.h1
  · rw [key' _ (by omega) (by omega) (by omega) (by omega)]; exact h.h2
  · rw [key' _ (by omega) (by omega) (by omega) (by omega)]; exact h.h3
  · rw [key' _ (by omega) (by omega) (by omega) (by omega)]; exact h.c2
  · have hp := h.pos
    rw [World.cell?_of_block (w := w) (key' 0 (by omega) (by omega) (by omega) (by omega))]; exact h.e0
  · obtain ⟨cE, tE, hE⟩ := h.e1
    have := h.eB
    exact ⟨cE, tE, by rw [key' _ (by omega) (by omega) (by omega) (by omega)]; exact hE⟩
  · intro i hi
    obtain ⟨lb, off, e, hlb, hc⟩ := h.ls i hi
    exact ⟨lb, off, e, hlb, by rw [World.cell?_of_block (w := w) (key' lb (by omega) (by omega) (by omega) (by omega))]; exact hc⟩
  · intro hp
    obtain ⟨r1, r2, r3⟩ := h.row hp
    exact ⟨by rw [key' _ (by omega) (by omega) (by omega) (by omega)]; exact r1, r2, r3⟩
  · intro i hi
    obtain ⟨b, off, e, hb, hb', hc⟩ := h.data i hi
    exact ⟨b, off, e, hb, hb', fun t ht => by rw [World.cell?_of_block (w := w) (key' b (by omega) (by omega) (by omega) (by omega))]; exact hc t ht⟩

theorem AS.step {w w' : World} {B C : Nat} {a0 : Option Addr} {len cap : Nat} {ln : Nat → Nat} {pre : Nat} {aE : Addr} {er : Value} {g : Nat} {cur : Array Value} {A : Nat → Option Addr} {j k v j' k' v' : Nat} (h : AS w B C a0 len cap ln pre aE er g cur A j k v) (o : Only (Own B C) w w')
    (g4 : ∃ a c, pre - j' ≤ c ∧ c ≤ 9223372036854775807 ∧ (j' < pre → a = some ⟨g, 8 * j', none⟩) ∧ w'.heap[B + 4]? = some (.cells #[.pointer none, .func (.func 18) #[] #[.pointer (some ⟨B + 2, 0, none⟩), .pointer (some ⟨C, 0, none⟩), .pointer (some ⟨B + 1, 0, none⟩), .pointer (some ⟨B, 0, none⟩)], .nilIface, .int .u16 0, .int .i64 0, .pointer none, .slice none 0 0, .slice a (pre - j') c, .int .i64 (tot ln j' (pre - j') : Nat), er] 62 (0, 0)))
    (gc0 : w'.heap[C]? = some (.cells #[.int .i64 k'] 3 (0, 0))) (gc1 : w'.heap[C + 1]? = some (.cells #[.int .i64 v'] 3 (0, 0))) : AS w' B C a0 len cap ln pre aE er g cur A j' k' v' := by
  have hs := h.size
  exact h.of (fun b hb hx => o.block b (by omega) hx) g4 gc0 gc1

theorem AS.below {w w' : World} {B C : Nat} {a0 : Option Addr} {len cap : Nat} {ln : Nat → Nat} {pre : Nat} {aE : Addr} {er : Value} {g : Nat} {cur : Array Value} {A : Nat → Option Addr} {j k v : Nat} (h : AS w B C a0 len cap ln pre aE er g cur A j k v) (o : Below (C + 3) w w') : AS w' B C a0 len cap ln pre aE er g cur A j k v := by
  have hbc := h.bc
  obtain ⟨a, c, x1, x2, x3, x4⟩ := h.h4
  exact h.of (fun b hb _ => o.block b hb) ⟨a, c, x1, x2, x3, by rw [o.block _ (by omega)]; exact x4⟩ (by rw [o.block _ (by omega)]; exact h.c0) (by rw [o.block _ (by omega)]; exact h.c1)
theorem AS.kept {w w' : World} {B C : Nat} {a0 : Option Addr} {len cap : Nat} {ln : Nat → Nat} {pre : Nat} {aE : Addr} {er : Value} {g : Nat} {cur : Array Value} {A : Nat → Option Addr} {j k v : Nat} (h : AS w B C a0 len cap ln pre aE er g cur A j k v) (o : Below w.heap.size w w') : AS w' B C a0 len cap ln pre aE er g cur A j k v := h.below (o.mono h.size)

/-- A packet read ahead: its bytes. -/
theorem AS.packet {w : World} {B C : Nat} {a0 : Option Addr} {len cap : Nat} {ln : Nat → Nat} {pre : Nat} {aE : Addr} {er : Value} {g : Nat} {cur : Array Value} {A : Nat → Option Addr} {j k v : Nat} (h : AS w B C a0 len cap ln pre aE er g cur A j k v) (i : Nat) (hi : i < pre) : BX (Own B C) w (A i) (ln i % 8) ((i % 256 : Nat) : Int) := by
  obtain ⟨b, off, e, hb, hb', hc⟩ := h.data i hi
  have := h.size
  exact ⟨b, off, e, by omega, fun hx => by rcases hx with hx | hx | hx <;> omega, hc⟩
end Go.Proofs.YbulkbmguFmt.ahd
