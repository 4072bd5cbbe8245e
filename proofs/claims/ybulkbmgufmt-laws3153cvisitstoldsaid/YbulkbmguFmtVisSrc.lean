import Derived.Test.YbulkbmguFmtData
import Derived.Test.YbulkbmguFmtErrs
import Derived.Test.YbulkbmguFmtOnly
import Derived.Laws.EntriesVeiled
import Derived.Deep.RegionWith
import Derived.BigQuiet
namespace Go.Proofs.YbulkbmguFmt
open Go.RowKit
set_option maxRecDepth 100000

/-- The law's own blocks, from block B on, behind k calls of the source and v visits; the variable io.EOF; the lengths. -/
structure VS (w : World) (B : Nat) (a0 : Option Addr) (len cap : Nat) (ln : Nat → Nat) (stop : Nat) (fail : Bool) (aE : Addr) (k v : Nat) : Prop where
  h0 : w.heap[B]? = some (.cells #[.slice a0 len cap] 25 (0, 0))
  h1 : w.heap[B + 1]? = some (.cells #[.bool fail] 4 (0, 0))
  h2 : w.heap[B + 2]? = some (.cells #[.int .i64 len] 3 (0, 0))
  h3 : w.heap[B + 3]? = some (.cells #[.int .i64 stop] 3 (0, 0))
  h4 : w.heap[B + 4]? = some (.cells #[.string ⟨#[115, 114, 99]⟩] 77 (0, 0))
  h5 : w.heap[B + 5]? = some (.cells #[.iface 75 (.pointer (some ⟨B + 4, 0, none⟩))] 34 (0, 0))
  h6 : w.heap[B + 6]? = some (.cells #[.string ⟨#[118, 105, 115, 105, 116]⟩] 77 (0, 0))
  h7 : w.heap[B + 7]? = some (.cells #[.iface 75 (.pointer (some ⟨B + 6, 0, none⟩))] 34 (0, 0))
  h8 : w.heap[B + 8]? = some (.cells #[.int .i64 k] 3 (0, 0))
  h9 : w.heap[B + 9]? = some (.cells #[.pointer none, .func (.func 12) #[] #[.pointer (some ⟨B + 8, 0, none⟩), .pointer (some ⟨B + 2, 0, none⟩), .pointer (some ⟨B, 0, none⟩), .pointer (some ⟨B + 1, 0, none⟩), .pointer (some ⟨B + 5, 0, none⟩)], .nilIface, .int .u16 0, .int .i64 0, .pointer none, .slice none 0 0, .slice none 0 0, .int .i64 0, .nilIface] 62 (0, 0))
  h10 : w.heap[B + 10]? = some (.cells #[.int .i64 v] 3 (0, 0))
  h11 : w.heap[B + 11]? = some (.cells #[.bool true] 4 (0, 0))
  e0 : w.cell? ⟨0, 0, none⟩ = some (.iface 75 (.pointer (some aE)))
  e1 : ∃ cE tE, w.heap[aE.block]? = some (.cells cE tE (0, 0))
  pos : 0 < B
  eB : aE.block < B
  ls : ∀ i, i < len → ∃ lb off, a0 = some ⟨lb, off, none⟩ ∧ lb < B ∧ w.cell? ⟨lb, off + i, none⟩ = some (.int .u8 (ln i : Nat))

/-- The blocks that may turn. -/
def Own (B : Nat) (b : Nat) : Prop := b = B + 8 ∨ b = B + 10

theorem VS.size {w : World} {B : Nat} {a0 : Option Addr} {len cap : Nat} {ln : Nat → Nat} {stop : Nat} {fail : Bool} {aE : Addr} {k v : Nat} (h : VS w B a0 len cap ln stop fail aE k v) : B + 12 ≤ w.heap.size := by
  have := lt_of_at h.h11; omega

theorem VS.of {w w' : World} {B : Nat} {a0 : Option Addr} {len cap : Nat} {ln : Nat → Nat} {stop : Nat} {fail : Bool} {aE : Addr} {k v k' v' : Nat} (h : VS w B a0 len cap ln stop fail aE k v) (key : ∀ b, b < B + 12 → b ≠ B + 8 → b ≠ B + 10 → w'.heap[b]? = w.heap[b]?)
    (g8 : w'.heap[B + 8]? = some (.cells #[.int .i64 k'] 3 (0, 0))) (g10 : w'.heap[B + 10]? = some (.cells #[.int .i64 v'] 3 (0, 0))) : VS w' B a0 len cap ln stop fail aE k' v' := by
  refine ⟨?_, ?_, ?_, ?_, ?_, ?_, ?_, ?_, g8, ?_, g10, ?_, ?_, ?_, h.pos, h.eB, ?_⟩
  · rw [key _ (by omega) (by omega) (by omega)]; exact h.h0
  · rw [key _ (by omega) (by omega) (by omega)]; exact h.h1
  · rw [key _ (by omega) (by omega) (by omega)]; exact h.h2
  · rw [key _ (by omega) (by omega) (by omega)]; exact h.h3
  · rw [key _ (by omega) (by omega) (by omega)]; exact h.h4
  · rw [key _ (by omega) (by omega) (by omega)]; exact h.h5
  · rw [key _ (by omega) (by omega) (by omega)]; exact h.h6
  · rw [key _ (by omega) (by omega) (by omega)]; exact h.h7
  · rw [key _ (by omega) (by omega) (by omega)]; exact h.h9
  · rw [key _ (by omega) (by omega) (by omega)]; exact h.h11
  · have hp := h.pos
    rw [World.cell?_of_block (w := w) (key 0 (by omega) (by omega) (by omega))]; exact h.e0
  · obtain ⟨cE, tE, hE⟩ := h.e1
    have := h.eB
    exact ⟨cE, tE, by rw [key _ (by omega) (by omega) (by omega)]; exact hE⟩
  · intro i hi
    obtain ⟨lb, off, e, hlb, hc⟩ := h.ls i hi
    exact ⟨lb, off, e, hlb, by rw [World.cell?_of_block (w := w) (key lb (by omega) (by omega) (by omega))]; exact hc⟩

theorem VS.step {w w' : World} {B : Nat} {a0 : Option Addr} {len cap : Nat} {ln : Nat → Nat} {stop : Nat} {fail : Bool} {aE : Addr} {k v k' v' : Nat} (h : VS w B a0 len cap ln stop fail aE k v) (o : Only (Own B) w w')
    (g8 : w'.heap[B + 8]? = some (.cells #[.int .i64 k'] 3 (0, 0))) (g10 : w'.heap[B + 10]? = some (.cells #[.int .i64 v'] 3 (0, 0))) : VS w' B a0 len cap ln stop fail aE k' v' := by
  have hs := h.size
  exact h.of (fun b hb h8 h10 => o.block b (by omega) (fun hx => by rcases hx with hx | hx <;> omega)) g8 g10

theorem VS.below {w w' : World} {B : Nat} {a0 : Option Addr} {len cap : Nat} {ln : Nat → Nat} {stop : Nat} {fail : Bool} {aE : Addr} {k v : Nat} (h : VS w B a0 len cap ln stop fail aE k v) (o : Below (B + 12) w w') : VS w' B a0 len cap ln stop fail aE k v :=
  h.of (fun b hb _ _ => o.block b hb) (by rw [o.block _ (by omega)]; exact h.h8) (by rw [o.block _ (by omega)]; exact h.h10)
theorem VS.kept {w w' : World} {B : Nat} {a0 : Option Addr} {len cap : Nat} {ln : Nat → Nat} {stop : Nat} {fail : Bool} {aE : Addr} {k v : Nat} (h : VS w B a0 len cap ln stop fail aE k v) (o : Below w.heap.size w w') : VS w' B a0 len cap ln stop fail aE k v := h.below (o.mono h.size)

theorem Bytes.lower {w : World} {lo lo' n : Nat} {a : Option Addr} {v : Int} (h : Bytes w lo a n v) (hl : lo' ≤ lo) : Bytes w lo' a n v := by
  obtain ⟨b, off, e, hlo, hb, hc⟩ := h
  exact ⟨b, off, e, Nat.le_trans hl hlo, hb, hc⟩
theorem Bytes.kept {w w' : World} {lo n : Nat} {a : Option Addr} {v : Int} {X : Nat → Prop} (h : Bytes w lo a n v) (o : Only X w w') (hX : ∀ i, X i → i < lo) : Bytes w' lo a n v := by
  obtain ⟨b, off, e, hlo, hb, hc⟩ := h
  exact ⟨b, off, e, hlo, Nat.lt_of_lt_of_le hb o.size, fun j hj => by rw [o.cell (p := ⟨b, off + j, none⟩) hb (fun hx => by have := hX b hx; omega)]; exact hc j hj⟩

set_option maxHeartbeats 800000 in
/-- The source, a packet to give. -/
theorem src_packet (w : World) (B : Nat) (a0 : Option Addr) (len cap : Nat) (ln : Nat → Nat) (stop : Nat) (fail : Bool) (aE : Addr) (k v : Nat) (h : VS w B a0 len cap ln stop fail aE k v) (hlen : len ≤ 1024) (hln : ∀ i, ln i < 256) (hk : k < len) :
    Calls Ybaf.prog 12 #[.pointer (some ⟨B + 8, 0, none⟩), .pointer (some ⟨B + 2, 0, none⟩), .pointer (some ⟨B, 0, none⟩), .pointer (some ⟨B + 1, 0, none⟩), .pointer (some ⟨B + 5, 0, none⟩)] w fun e w' =>
      ∃ a, e = .returned (.tuple #[.agg #[.int .u64 0, .int .i64 0, .pointer none, .int .u16 k, .slice a (ln k % 8) (ln k % 8), .int .i64 k, .bool false], .pointer none, .nilIface]) ∧
        Bytes w' w.heap.size a (ln k % 8) ((k % 256 : Nat) : Int) ∧ VS w' B a0 len cap ln stop fail aE (k + 1) v ∧ Only (Own B) w w' := by
  have c8 := cell_at h.h8 0
  have f8 := free_at h.h8 0
  have c2 := cell_at h.h2 0
  have c0 := cell_at h.h0 0
  have s8 := lt_of_at h.h8
  have s2 := lt_of_at h.h2
  have s0 := lt_of_at h.h0
  obtain ⟨lb, off, ha0, hlb, hcl⟩ := h.ls k hk
  subst ha0
  have slb : lb < w.heap.size := by omega
  simp only [List.getElem?_toArray, List.getElem?_cons_zero] at c8 c2 c0
  go_enter Ybaf.func12, Ybaf.ntmps12
  go_wp2_with fail
  generalize hw1 : World.alloc (w.setCell ⟨B + 8, 0, none⟩ (.int .i64 ((k : Int) + 1))) _ = w1
  have o1 : Only (Own B) w w1 := by subst hw1; exact ((Only.refl _ w).setCell (.inl (.inl rfl)) _).alloc _
  have v1 : VS w1 B (some ⟨lb, off, none⟩) len cap ln stop fail aE (k + 1) v := by
    refine h.step o1 ?_ ?_
    · subst hw1; exact alloc_past _ (set_at h.h8 0 _)
    · subst hw1; exact alloc_past _ (by rw [Below.heap_setCell _ _ _ _ (by simp)]; exact h.h10)
  have r1 : w1.heap[w.heap.size]? = some (.cells #[.int .u64 0, .int .i64 0, .pointer none, .int .u16 0, .slice none 0 0, .int .i64 0, .bool false] 50 (0, 0)) := by
    subst hw1; simpa [World.setCell] using alloc_at (w.setCell ⟨B + 8, 0, none⟩ (.int .i64 ((k : Int) + 1))) _ _
  clear hw1 c8 f8 c2 c0 s2 s0 hcl
  refine (data_any k (ln k) w1 (by omega) (hln k)).mono ?_
  rintro e w2 ⟨a, rfl, hby, hbel⟩
  have v2 := v1.kept hbel
  have r2 := (hbel.block _ (lt_of_at r1)).trans r1
  have o2 : Only (Own B) w w2 := o1.trans (Only.of_below hbel)
  have sz : w.heap.size < w2.heap.size := lt_of_at r2
  have hs1 := lt_of_at r1
  have hsB := h.size
  have q0 := cell_at r2 0
  have q1 := cell_at r2 1
  have q2 := cell_at r2 2
  have q3 := cell_at r2 3
  have q4 := cell_at r2 4
  have q5 := cell_at r2 5
  have q6 := cell_at r2 6
  have g := free_at r2
  simp at q0 q1 q2 q3 q4 q5 q6
  clear v1 o1 r1 hbel
  go_wp2_with fail
  refine bodyPost_ret (v := .tuple #[.agg #[.int .u64 0, .int .i64 0, .pointer none, .int .u16 k, .slice a (ln k % 8) (ln k % 8), .int .i64 k, .bool false], .pointer none, .nilIface]) (by simp [results, Ybaf.results12, go_sem, q0, q1, q2, q3, q4, q5, q6]) rfl ⟨a, rfl, ?_, ?_, ?_⟩
  · exact (hby.kept ((Only.refl (fun b => b = w.heap.size) w2).stores7 w.heap.size (.inl rfl) _ _ _ _ _ _ _) (fun i hi => by omega)).lower (by omega)
  · exact v2.below (((Only.refl (fun b => b = w.heap.size) w2).stores7 w.heap.size (.inl rfl) _ _ _ _ _ _ _).below (B := B + 12) (by omega) (fun i hi => by omega))
  · exact o2.stores7 w.heap.size (.inr (Nat.le_refl _)) _ _ _ _ _ _ _

/-- The error behind the last packet. -/
def srcErr (B : Nat) (fail : Bool) (aE : Addr) : Addr := if fail then ⟨B + 4, 0, none⟩ else aE

theorem VS.counted {w : World} {B : Nat} {a0 : Option Addr} {len cap : Nat} {ln : Nat → Nat} {stop : Nat} {fail : Bool} {aE : Addr} {k v : Nat} (h : VS w B a0 len cap ln stop fail aE k v) (o : Obj) :
    VS ((w.setCell ⟨B + 8, 0, none⟩ (.int .i64 ((k : Int) + 1))).alloc o).drew B a0 len cap ln stop fail aE (k + 1) v ∧ Only (Own B) w ((w.setCell ⟨B + 8, 0, none⟩ (.int .i64 ((k : Int) + 1))).alloc o).drew := by
  have o1 : Only (Own B) w ((w.setCell ⟨B + 8, 0, none⟩ (.int .i64 ((k : Int) + 1))).alloc o).drew := (((Only.refl _ w).setCell (.inl (.inl rfl)) _).alloc _).drew
  refine ⟨h.step o1 ?_ ?_, o1⟩
  · exact alloc_past o (set_at h.h8 0 _)
  · exact alloc_past o (by rw [Below.heap_setCell _ _ _ _ (by simp)]; exact h.h10)

set_option maxHeartbeats 800000 in
/-- The source behind its last packet. -/
theorem src_end (w : World) (B : Nat) (a0 : Option Addr) (len cap : Nat) (ln : Nat → Nat) (stop : Nat) (fail : Bool) (aE : Addr) (v : Nat) (h : VS w B a0 len cap ln stop fail aE len v) (hlen : len ≤ 1024) :
    Calls Ybaf.prog 12 #[.pointer (some ⟨B + 8, 0, none⟩), .pointer (some ⟨B + 2, 0, none⟩), .pointer (some ⟨B, 0, none⟩), .pointer (some ⟨B + 1, 0, none⟩), .pointer (some ⟨B + 5, 0, none⟩)] w fun e w' =>
      e = .returned (.tuple #[.agg #[.int .u64 0, .int .i64 0, .pointer none, .int .u16 0, .slice none 0 0, .int .i64 0, .bool false], .pointer none, .iface 75 (.pointer (some (srcErr B fail aE)))]) ∧
        VS w' B a0 len cap ln stop fail aE (len + 1) v ∧ Only (Own B) w w' := by
  have c8 := cell_at h.h8 0
  have f8 := free_at h.h8 0
  have c2 := cell_at h.h2 0
  have c1 := cell_at h.h1 0
  have c5 := cell_at h.h5 0
  have ce := h.e0
  have hp := h.pos
  have s8 := lt_of_at h.h8
  have s2 := lt_of_at h.h2
  have s1 := lt_of_at h.h1
  have s5 := lt_of_at h.h5
  have s0 : 0 < w.heap.size := by omega
  simp only [List.getElem?_toArray, List.getElem?_cons_zero] at c8 c2 c1 c5
  have hV := h
  clear h
  cases fail with
  | true =>
    go_enter Ybaf.func12, Ybaf.ntmps12
    go_wp2_with fail
    go_region
    all_goals go_wp2_with fail
    all_goals exact bodyPost_ret (v := .tuple #[.agg #[.int .u64 0, .int .i64 0, .pointer none, .int .u16 0, .slice none 0 0, .int .i64 0, .bool false], .pointer none, .iface 75 (.pointer (some ⟨B + 4, 0, none⟩))]) (by simp [results, Ybaf.results12, go_sem]) rfl ⟨rfl, hV.counted _⟩
  | false =>
    go_enter Ybaf.func12, Ybaf.ntmps12
    go_wp2_with fail
    go_region
    all_goals go_wp2_with fail
    all_goals exact bodyPost_ret (v := .tuple #[.agg #[.int .u64 0, .int .i64 0, .pointer none, .int .u16 0, .slice none 0 0, .int .i64 0, .bool false], .pointer none, .iface 75 (.pointer (some aE))]) (by simp [results, Ybaf.results12, go_sem]) rfl ⟨rfl, hV.counted _⟩
end Go.Proofs.YbulkbmguFmt
