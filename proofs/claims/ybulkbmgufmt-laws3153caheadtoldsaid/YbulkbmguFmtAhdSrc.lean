/-
  The law LawS3153CAhead: its source.
-/
import Derived.Test.YbulkbmguFmtAhdState
import Derived.BigQuiet
namespace Go.Proofs.YbulkbmguFmt.ahd
open Go.RowKit
set_option maxRecDepth 100000

theorem AS.counted {w : World} {B C : Nat} {a0 : Option Addr} {len cap : Nat} {ln : Nat → Nat} {pre : Nat} {aE : Addr} {er : Value} {g : Nat} {cur : Array Value} {A : Nat → Option Addr} {j k v : Nat} (h : AS w B C a0 len cap ln pre aE er g cur A j k v) (o : Obj) :
    AS ((w.setCell ⟨C, 0, none⟩ (.int .i64 ((k : Int) + 1))).alloc o) B C a0 len cap ln pre aE er g cur A j (k + 1) v ∧ Only (Own B C) w ((w.setCell ⟨C, 0, none⟩ (.int .i64 ((k : Int) + 1))).alloc o) := by
  have o1 : Only (Own B C) w ((w.setCell ⟨C, 0, none⟩ (.int .i64 ((k : Int) + 1))).alloc o) := ((Only.refl _ w).setCell (.inl (.inr (.inl rfl))) _).alloc _
  have hbc := h.bc
  obtain ⟨a, c, x1, x2, x3, x4⟩ := h.h4
  refine ⟨h.step o1 ⟨a, c, x1, x2, x3, ?_⟩ ?_ ?_, o1⟩
  · exact alloc_past o (by rw [Below.heap_setCell _ _ _ _ (by simp; omega)]; exact x4)
  · exact alloc_past o (set_at h.c0 0 _)
  · exact alloc_past o (by rw [Below.heap_setCell _ _ _ _ (by simp)]; exact h.c1)

set_option maxHeartbeats 800000 in
/-- The source, a packet to give. -/
theorem src_packet {w : World} {B C : Nat} {a0 : Option Addr} {len cap : Nat} {ln : Nat → Nat} {pre : Nat} {aE : Addr} {er : Value} {g : Nat} {cur : Array Value} {A : Nat → Option Addr} {j k v : Nat} (h : AS w B C a0 len cap ln pre aE er g cur A j k v) (hlen : len ≤ 1024) (hln : ∀ i, ln i < 256) (hk : pre + k < len) :
    Calls Ybaf.prog 18 #[.pointer (some ⟨B + 2, 0, none⟩), .pointer (some ⟨C, 0, none⟩), .pointer (some ⟨B + 1, 0, none⟩), .pointer (some ⟨B, 0, none⟩)] w fun e w' =>
      ∃ a, e = .returned (.tuple #[.agg #[.int .u64 0, .int .i64 0, .pointer none, .int .u16 0, .slice a (ln (pre + k) % 8) (ln (pre + k) % 8), .int .i64 ((pre + k : Nat) : Int), .bool false], .pointer none, .nilIface]) ∧
        Bytes w' w.heap.size a (ln (pre + k) % 8) (((pre + k) % 256 : Nat) : Int) ∧ AS w' B C a0 len cap ln pre aE er g cur A j (k + 1) v ∧ Only (Own B C) w w' := by
  have c0 := cell_at h.c0 0
  have f0 := free_at h.c0 0
  have c2 := cell_at h.h2 0
  have c1 := cell_at h.h1 0
  have cb := cell_at h.h0 0
  have s0 := lt_of_at h.c0
  have s2 := lt_of_at h.h2
  have s1 := lt_of_at h.h1
  have sb := lt_of_at h.h0
  have hbc := h.bc
  obtain ⟨lb, off, ha0, hlb, hcl⟩ := h.ls (pre + k) hk
  subst ha0
  have slb : lb < w.heap.size := by omega
  have n1 : ¬ B + 2 = C := by omega
  have n2 : ¬ B + 1 = C := by omega
  have n3 : ¬ B = C := by omega
  have n4 : ¬ lb = C := by omega
  have n1' : ¬ C = B + 2 := by omega
  have n2' : ¬ C = B + 1 := by omega
  have n3' : ¬ C = B := by omega
  have n4' : ¬ C = lb := by omega
  simp only [List.getElem?_toArray, List.getElem?_cons_zero] at c0 c2 c1 cb
  have hV := h
  clear h
  have hpk : (pre : Int) + (k : Int) = ((pre + k : Nat) : Int) := by omega
  obtain ⟨i, hi⟩ : ∃ i, pre + k = i := ⟨_, rfl⟩
  rw [hi] at hpk hcl hk ⊢
  have HI : Hid (pre + k = i) := hi
  clear hi
  go_enter Ybaf.func18, Ybaf.ntmps18
  go_wp2_with fail
  generalize hw1 : World.alloc (w.setCell ⟨C, 0, none⟩ (.int .i64 ((k : Int) + 1))) _ = w1
  obtain ⟨v1, o1⟩ : AS w1 B C (some ⟨lb, off, none⟩) len cap ln pre aE er g cur A j (k + 1) v ∧ Only (Own B C) w w1 := by subst hw1; exact hV.counted _
  have r1 : w1.heap[w.heap.size]? = some (.cells #[.int .u64 0, .int .i64 0, .pointer none, .int .u16 0, .slice none 0 0, .int .i64 0, .bool false] 50 (0, 0)) := by
    subst hw1; simpa [World.setCell] using alloc_at (w.setCell ⟨C, 0, none⟩ (.int .i64 ((k : Int) + 1))) _ _
  clear hw1 c0 f0 c2 c1 cb s2 s1 sb hcl
  refine (data_any i (ln i) w1 (by omega) (hln i)).mono ?_
  rintro e w2 ⟨a, rfl, hby, hbel⟩
  have v2 := v1.kept hbel
  have r2 := (hbel.block _ (lt_of_at r1)).trans r1
  have o2 : Only (Own B C) w w2 := o1.trans (Only.of_below hbel)
  have sz : w.heap.size < w2.heap.size := lt_of_at r2
  have hs1 := lt_of_at r1
  have hsB := hV.size
  have q0 := cell_at r2 0
  have q1 := cell_at r2 1
  have q2 := cell_at r2 2
  have q3 := cell_at r2 3
  have q4 := cell_at r2 4
  have q5 := cell_at r2 5
  have q6 := cell_at r2 6
  have g := free_at r2
  simp at q0 q1 q2 q3 q4 q5 q6
  clear v1 o1 r1 hbel
  go_wp2_with fail
  refine bodyPost_ret (v := .tuple #[.agg #[.int .u64 0, .int .i64 0, .pointer none, .int .u16 0, .slice a (ln i % 8) (ln i % 8), .int .i64 (i : Int), .bool false], .pointer none, .nilIface]) (by simp [results, Ybaf.results18, go_sem, q0, q1, q2, q3, q4, q5, q6]) rfl ⟨a, rfl, ?_, ?_, ?_⟩
  · exact Bytes.lower (Bytes.kept hby ((Only.refl (fun b => b = w.heap.size) w2).stores7 w.heap.size (.inl rfl) _ _ _ _ _ _ _) (fun i hi => by omega)) (by omega)
  · exact v2.below (((Only.refl (fun b => b = w.heap.size) w2).stores7 w.heap.size (.inl rfl) _ _ _ _ _ _ _).below (B := C + 3) (by omega) (fun i hi => by omega))
  · exact o2.stores7 w.heap.size (.inr (Nat.le_refl _)) _ _ _ _ _ _ _

set_option maxHeartbeats 800000 in
/-- The source behind its last packet. -/
theorem src_end {w : World} {B C : Nat} {a0 : Option Addr} {len cap : Nat} {ln : Nat → Nat} {pre : Nat} {aE : Addr} {er : Value} {g : Nat} {cur : Array Value} {A : Nat → Option Addr} {j k v : Nat} (h : AS w B C a0 len cap ln pre aE er g cur A j k v) (hlen : len ≤ 1024) (hk : pre + k = len) :
    Calls Ybaf.prog 18 #[.pointer (some ⟨B + 2, 0, none⟩), .pointer (some ⟨C, 0, none⟩), .pointer (some ⟨B + 1, 0, none⟩), .pointer (some ⟨B, 0, none⟩)] w fun e w' =>
      e = .returned (.tuple #[.agg #[.int .u64 0, .int .i64 0, .pointer none, .int .u16 0, .slice none 0 0, .int .i64 0, .bool false], .pointer none, .iface 75 (.pointer (some aE))]) ∧ AS w' B C a0 len cap ln pre aE er g cur A j (k + 1) v ∧ Only (Own B C) w w' := by
  have c0 := cell_at h.c0 0
  have f0 := free_at h.c0 0
  have c2 := cell_at h.h2 0
  have c1 := cell_at h.h1 0
  have ce := h.e0
  have s0 := lt_of_at h.c0
  have s2 := lt_of_at h.h2
  have s1 := lt_of_at h.h1
  have hbc := h.bc
  have hp := h.pos
  have sp : 0 < w.heap.size := by omega
  have n1 : ¬ B + 2 = C := by omega
  have n2 : ¬ B + 1 = C := by omega
  have n3 : ¬ C = 0 := by omega
  have n1' : ¬ C = B + 2 := by omega
  have n2' : ¬ C = B + 1 := by omega
  have n3' : ¬ 0 = C := by omega
  simp only [List.getElem?_toArray, List.getElem?_cons_zero] at c0 c2 c1
  have hV := h
  clear h
  have hpk : (pre : Int) + (k : Int) = (len : Int) := by omega
  clear hk
  go_enter Ybaf.func18, Ybaf.ntmps18
  go_wp2_with fail
  go_region
  all_goals go_wp2_with fail
  all_goals exact bodyPost_ret (v := .tuple #[.agg #[.int .u64 0, .int .i64 0, .pointer none, .int .u16 0, .slice none 0 0, .int .i64 0, .bool false], .pointer none, .iface 75 (.pointer (some aE))]) (by simp [results, Ybaf.results18, go_sem]) rfl ⟨rfl, (hV.counted _).1.below (Below.refl _ _).drew, (hV.counted _).2.drew⟩
end Go.Proofs.YbulkbmguFmt.ahd
