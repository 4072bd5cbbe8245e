/-
  The law LawS3153CAhead: Reader.read and Reader.Next, the read-ahead store empty.
-/
import Derived.Test.YbulkbmguFmtAhdSrc
namespace Go.Proofs.YbulkbmguFmt.ahd
open Go.RowKit
set_option maxRecDepth 100000

set_option maxHeartbeats 800000 in
theorem read_packet {w : World} {B C : Nat} {a0 : Option Addr} {len cap : Nat} {ln : Nat → Nat} {pre : Nat} {aE : Addr} {g : Nat} {cur : Array Value} {A : Nat → Option Addr} {j k v : Nat} (h : AS w B C a0 len cap ln pre aE .nilIface g cur A j k v) (hlen : len ≤ 1024) (hln : ∀ i, ln i < 256) (hk : pre + k < len) :
    Calls Ybaf.prog 28 #[.pointer (some ⟨B + 4, 0, none⟩)] w fun e w' =>
      ∃ a, e = .returned (.tuple #[.agg #[.int .u64 0, .int .i64 0, .pointer none, .int .u16 0, .slice a (ln (pre + k) % 8) (ln (pre + k) % 8), .int .i64 ((pre + k : Nat) : Int), .bool false, .pointer none], .nilIface]) ∧
        Bytes w' w.heap.size a (ln (pre + k) % 8) (((pre + k) % 256 : Nat) : Int) ∧ AS w' B C a0 len cap ln pre aE .nilIface g cur A j (k + 1) v ∧ Only (Own B C) w w' := by
  obtain ⟨ad, cd, _, _, _, h4⟩ := h.h4
  have c1 := cell_at h4 1
  have c9 := cell_at h4 9
  have s4 := lt_of_at h4
  have hbc := h.bc
  simp at c1 c9
  have hV := h
  clear h h4
  go_enter Ybaf.func28, Ybaf.ntmps28
  go_wp2_with fail
  generalize hw0 : World.alloc w _ = w0
  have b0 : Below w.heap.size w w0 := by subst hw0; exact (Below.refl _ w).alloc (Nat.le_refl _) _
  have r0 : w0.heap[w.heap.size]? = some (.cells #[.int .u64 0, .int .i64 0, .pointer none, .int .u16 0, .slice none 0 0, .int .i64 0, .bool false, .pointer none] 69 (0, 0)) := by subst hw0; exact alloc_at w _ _
  have v0 := hV.kept b0
  have hsB := hV.size
  have z0 := lt_of_at r0
  clear hw0 c1 c9
  refine (src_packet v0 hlen hln hk).mono ?_
  rintro e w2 ⟨a, rfl, hby, v2, o2⟩
  have r2 := (o2.block _ (lt_of_at r0) (fun hx => by rcases hx with hx | hx | hx <;> omega)).trans r0
  have o3 : Only (Own B C) w w2 := (Only.of_below b0).trans o2
  have sz := lt_of_at r2
  have q0 := cell_at r2 0
  have q1 := cell_at r2 1
  have q2 := cell_at r2 2
  have q3 := cell_at r2 3
  have q4 := cell_at r2 4
  have q5 := cell_at r2 5
  have q6 := cell_at r2 6
  have q7 := cell_at r2 7
  have g := free_at r2
  simp at q0 q1 q2 q3 q4 q5 q6 q7
  clear v0 o2 r0 b0
  go_wp2_with fail
  have o4 := ((Only.refl (fun b => b = w.heap.size) w2).stores8 w.heap.size (.inl rfl) (.int .u64 0) (.int .i64 0) (.pointer none) (.int .u16 0) (.slice a (ln (pre + k) % 8) (ln (pre + k) % 8)) (.int .i64 ((pre + k : Nat) : Int)) (.bool false) (.pointer none)).alloc (.cells #[.int .u64 0, .int .i64 0, .pointer none, .int .u16 0, .slice a (ln (pre + k) % 8) (ln (pre + k) % 8), .int .i64 ((pre + k : Nat) : Int), .bool false] 50)
  refine bodyPost_ret (v := .tuple #[.agg #[.int .u64 0, .int .i64 0, .pointer none, .int .u16 0, .slice a (ln (pre + k) % 8) (ln (pre + k) % 8), .int .i64 ((pre + k : Nat) : Int), .bool false, .pointer none], .nilIface]) (by simp [results, Ybaf.results28, go_sem, q0, q1, q2, q3, q4, q5, q6, q7, sz]) rfl ⟨a, rfl, ?_, ?_, ?_⟩
  · exact Bytes.lower (Bytes.kept hby o4 (fun i hi => by omega)) (by omega)
  · exact v2.below (o4.below (B := C + 3) (by omega) (fun i hi => by omega))
  · exact (o3.stores8 w.heap.size (.inr (Nat.le_refl _)) _ _ _ _ _ _ _ _).alloc _

set_option maxHeartbeats 800000 in
theorem read_end {w : World} {B C : Nat} {a0 : Option Addr} {len cap : Nat} {ln : Nat → Nat} {pre : Nat} {aE : Addr} {g : Nat} {cur : Array Value} {A : Nat → Option Addr} {j k v : Nat} (h : AS w B C a0 len cap ln pre aE .nilIface g cur A j k v) (hlen : len ≤ 1024) (hk : pre + k = len) :
    Calls Ybaf.prog 28 #[.pointer (some ⟨B + 4, 0, none⟩)] w fun e w' =>
      e = .returned (.tuple #[.agg #[.int .u64 0, .int .i64 0, .pointer none, .int .u16 0, .slice none 0 0, .int .i64 0, .bool false, .pointer none], .iface 75 (.pointer (some aE))]) ∧ AS w' B C a0 len cap ln pre aE .nilIface g cur A j (k + 1) v ∧ Only (Own B C) w w' := by
  obtain ⟨ad, cd, _, _, _, h4⟩ := h.h4
  have c1 := cell_at h4 1
  have c9 := cell_at h4 9
  have s4 := lt_of_at h4
  have hbc := h.bc
  simp at c1 c9
  have hV := h
  clear h h4
  go_enter Ybaf.func28, Ybaf.ntmps28
  go_wp2_with fail
  generalize hw0 : World.alloc w _ = w0
  have b0 : Below w.heap.size w w0 := by subst hw0; exact (Below.refl _ w).alloc (Nat.le_refl _) _
  have r0 : w0.heap[w.heap.size]? = some (.cells #[.int .u64 0, .int .i64 0, .pointer none, .int .u16 0, .slice none 0 0, .int .i64 0, .bool false, .pointer none] 69 (0, 0)) := by subst hw0; exact alloc_at w _ _
  have v0 := hV.kept b0
  have hsB := hV.size
  have z0 := lt_of_at r0
  clear hw0 c1 c9
  refine (src_end v0 hlen hk).mono ?_
  rintro e w2 ⟨rfl, v2, o2⟩
  have r2 := (o2.block _ (lt_of_at r0) (fun hx => by rcases hx with hx | hx | hx <;> omega)).trans r0
  have o3 : Only (Own B C) w w2 := (Only.of_below b0).trans o2
  have sz := lt_of_at r2
  have q0 := cell_at r2 0
  have q1 := cell_at r2 1
  have q2 := cell_at r2 2
  have q3 := cell_at r2 3
  have q4 := cell_at r2 4
  have q5 := cell_at r2 5
  have q6 := cell_at r2 6
  have q7 := cell_at r2 7
  have g := free_at r2
  simp at q0 q1 q2 q3 q4 q5 q6 q7
  clear v0 o2 r0 b0
  go_wp2_with fail
  have o4 := ((Only.refl (fun b => b = w.heap.size) w2).stores8 w.heap.size (.inl rfl) (.int .u64 0) (.int .i64 0) (.pointer none) (.int .u16 0) (.slice none 0 0) (.int .i64 0) (.bool false) (.pointer none)).alloc (.cells #[.int .u64 0, .int .i64 0, .pointer none, .int .u16 0, .slice none 0 0, .int .i64 0, .bool false] 50)
  refine bodyPost_ret (v := .tuple #[.agg #[.int .u64 0, .int .i64 0, .pointer none, .int .u16 0, .slice none 0 0, .int .i64 0, .bool false, .pointer none], .iface 75 (.pointer (some aE))]) (by simp [results, Ybaf.results28, go_sem, q0, q1, q2, q3, q4, q5, q6, q7, sz]) rfl ⟨rfl, ?_, ?_⟩
  · exact v2.below (o4.below (B := C + 3) (by omega) (fun i hi => by omega))
  · exact (o3.stores8 w.heap.size (.inr (Nat.le_refl _)) _ _ _ _ _ _ _ _).alloc _

set_option maxHeartbeats 800000 in
theorem read_err {w : World} {B C : Nat} {a0 : Option Addr} {len cap : Nat} {ln : Nat → Nat} {pre : Nat} {aE : Addr} {g : Nat} {cur : Array Value} {A : Nat → Option Addr} {x : Addr} {j k v : Nat} (h : AS w B C a0 len cap ln pre aE (.iface 75 (.pointer (some x))) g cur A j k v) :
    Calls Ybaf.prog 28 #[.pointer (some ⟨B + 4, 0, none⟩)] w fun e w' =>
      e = .returned (.tuple #[.agg #[.int .u64 0, .int .i64 0, .pointer none, .int .u16 0, .slice none 0 0, .int .i64 0, .bool false, .pointer none], .iface 75 (.pointer (some x))]) ∧ Below w.heap.size w w' := by
  obtain ⟨ad, cd, _, _, _, h4⟩ := h.h4
  have c9 := cell_at h4 9
  have s4 := lt_of_at h4
  simp at c9
  have hV := h
  clear h h4
  go_enter Ybaf.func28, Ybaf.ntmps28
  go_wp2_with fail
  go_region
  all_goals go_wp2_with fail
  all_goals exact bodyPost_ret (v := .tuple #[.agg #[.int .u64 0, .int .i64 0, .pointer none, .int .u16 0, .slice none 0 0, .int .i64 0, .bool false, .pointer none], .iface 75 (.pointer (some x))]) (by simp [results, Ybaf.results28, go_sem]) rfl ⟨rfl, ((Below.refl _ _).alloc (Nat.le_refl _) _).drew⟩

set_option maxHeartbeats 800000 in
theorem next_packet {w : World} {B C : Nat} {a0 : Option Addr} {len cap : Nat} {ln : Nat → Nat} {pre : Nat} {aE : Addr} {g : Nat} {cur : Array Value} {A : Nat → Option Addr} {k v : Nat} (h : AS w B C a0 len cap ln pre aE .nilIface g cur A pre k v) (hlen : len ≤ 1024) (hln : ∀ i, ln i < 256) (hk : pre + k < len) :
    Calls Ybaf.prog 22 #[.pointer (some ⟨B + 4, 0, none⟩)] w fun e w' =>
      ∃ a, e = .returned (.tuple #[.agg #[.int .u64 0, .int .i64 0, .pointer none, .int .u16 0, .slice a (ln (pre + k) % 8) (ln (pre + k) % 8), .int .i64 ((pre + k : Nat) : Int), .bool false], .nilIface]) ∧
        Bytes w' w.heap.size a (ln (pre + k) % 8) (((pre + k) % 256 : Nat) : Int) ∧ AS w' B C a0 len cap ln pre aE .nilIface g cur A pre (k + 1) v ∧ Only (Own B C) w w' := by
  obtain ⟨ad, cd, _, _, _, h4⟩ := h.h4
  have c7 := cell_at h4 7
  have s4 := lt_of_at h4
  have hbc := h.bc
  simp at c7
  have hV := h
  clear h h4
  go_enter Ybaf.func22, Ybaf.ntmps22
  go_wp2_with fail
  generalize hw0 : World.alloc (World.alloc w _) _ = w0
  have b0 : Below w.heap.size w w0 := by subst hw0; exact ((Below.refl _ w).alloc (Nat.le_refl _) _).alloc (by simp) _
  have r0 : w0.heap[w.heap.size + 1]? = some (.cells #[.int .u64 0, .int .i64 0, .pointer none, .int .u16 0, .slice none 0 0, .int .i64 0, .bool false, .pointer none] 69 (0, 0)) := by subst hw0; simpa using alloc_at (w.alloc _) _ _
  have p0 : w0.heap[w.heap.size]? = some (.cells #[.int .u64 0, .int .i64 0, .pointer none, .int .u16 0, .slice none 0 0, .int .i64 0, .bool false] 50 (0, 0)) := by subst hw0; exact alloc_past _ (alloc_at w _ _)
  have v0 := hV.kept b0
  have hsB := hV.size
  have z0 := lt_of_at r0
  clear hw0 c7
  refine (read_packet v0 hlen hln hk).mono ?_
  rintro e w2 ⟨a, rfl, hby, v2, o2⟩
  have r2 := (o2.block _ (lt_of_at r0) (fun hx => by rcases hx with hx | hx | hx <;> omega)).trans r0
  have p2 := (o2.block _ (lt_of_at p0) (fun hx => by rcases hx with hx | hx | hx <;> omega)).trans p0
  have o3 : Only (Own B C) w w2 := (Only.of_below b0).trans o2
  have sz := lt_of_at r2
  have sz' := lt_of_at p2
  have q0 := cell_at r2 0
  have q1 := cell_at r2 1
  have q2 := cell_at r2 2
  have q3 := cell_at r2 3
  have q4 := cell_at r2 4
  have q5 := cell_at r2 5
  have q6 := cell_at r2 6
  have q7 := cell_at r2 7
  have g := free_at r2
  have t0 := cell_at p2 0
  have t1 := cell_at p2 1
  have t2 := cell_at p2 2
  have t3 := cell_at p2 3
  have t4 := cell_at p2 4
  have t5 := cell_at p2 5
  have t6 := cell_at p2 6
  have g' := free_at p2
  simp at q0 q1 q2 q3 q4 q5 q6 q7 t0 t1 t2 t3 t4 t5 t6
  clear v0 o2 r0 b0
  go_wp2_with fail
  have o4 := ((Only.refl (fun b => b = w.heap.size ∨ b = w.heap.size + 1) w2).stores8 (w.heap.size + 1) (.inl (.inr rfl)) (.int .u64 0) (.int .i64 0) (.pointer none) (.int .u16 0) (.slice a (ln (pre + k) % 8) (ln (pre + k) % 8)) (.int .i64 ((pre + k : Nat) : Int)) (.bool false) (.pointer none)).stores7 w.heap.size (.inl (.inl rfl)) (.int .u64 0) (.int .i64 0) (.pointer none) (.int .u16 0) (.slice a (ln (pre + k) % 8) (ln (pre + k) % 8)) (.int .i64 ((pre + k : Nat) : Int)) (.bool false)
  refine bodyPost_ret (v := .tuple #[.agg #[.int .u64 0, .int .i64 0, .pointer none, .int .u16 0, .slice a (ln (pre + k) % 8) (ln (pre + k) % 8), .int .i64 ((pre + k : Nat) : Int), .bool false], .nilIface]) (by simp [results, Ybaf.results22, go_sem, t0, t1, t2, t3, t4, t5, t6]) rfl ⟨a, rfl, ?_, ?_, ?_⟩
  · exact Bytes.lower (Bytes.kept hby o4 (fun i hi => by omega)) (by omega)
  · exact v2.below (o4.below (B := C + 3) (by omega) (fun i hi => by omega))
  · exact (o3.stores8 (w.heap.size + 1) (.inr (Nat.le_succ _)) _ _ _ _ _ _ _ _).stores7 w.heap.size (.inr (Nat.le_refl _)) _ _ _ _ _ _ _

set_option maxHeartbeats 800000 in
theorem next_end {w : World} {B C : Nat} {a0 : Option Addr} {len cap : Nat} {ln : Nat → Nat} {pre : Nat} {aE : Addr} {g : Nat} {cur : Array Value} {A : Nat → Option Addr} {k v : Nat} (h : AS w B C a0 len cap ln pre aE .nilIface g cur A pre k v) (hlen : len ≤ 1024) (hk : pre + k = len) :
    Calls Ybaf.prog 22 #[.pointer (some ⟨B + 4, 0, none⟩)] w fun e w' =>
      e = .returned (.tuple #[.agg #[.int .u64 0, .int .i64 0, .pointer none, .int .u16 0, .slice none 0 0, .int .i64 0, .bool false], .iface 75 (.pointer (some aE))]) ∧ AS w' B C a0 len cap ln pre aE .nilIface g cur A pre (k + 1) v ∧ Only (Own B C) w w' := by
  obtain ⟨ad, cd, _, _, _, h4⟩ := h.h4
  have c7 := cell_at h4 7
  have s4 := lt_of_at h4
  have hbc := h.bc
  simp at c7
  have hV := h
  clear h h4
  go_enter Ybaf.func22, Ybaf.ntmps22
  go_wp2_with fail
  generalize hw0 : World.alloc (World.alloc w _) _ = w0
  have b0 : Below w.heap.size w w0 := by subst hw0; exact ((Below.refl _ w).alloc (Nat.le_refl _) _).alloc (by simp) _
  have r0 : w0.heap[w.heap.size + 1]? = some (.cells #[.int .u64 0, .int .i64 0, .pointer none, .int .u16 0, .slice none 0 0, .int .i64 0, .bool false, .pointer none] 69 (0, 0)) := by subst hw0; simpa using alloc_at (w.alloc _) _ _
  have p0 : w0.heap[w.heap.size]? = some (.cells #[.int .u64 0, .int .i64 0, .pointer none, .int .u16 0, .slice none 0 0, .int .i64 0, .bool false] 50 (0, 0)) := by subst hw0; exact alloc_past _ (alloc_at w _ _)
  have v0 := hV.kept b0
  have hsB := hV.size
  have z0 := lt_of_at r0
  clear hw0 c7
  refine (read_end v0 hlen hk).mono ?_
  rintro e w2 ⟨rfl, v2, o2⟩
  have r2 := (o2.block _ (lt_of_at r0) (fun hx => by rcases hx with hx | hx | hx <;> omega)).trans r0
  have p2 := (o2.block _ (lt_of_at p0) (fun hx => by rcases hx with hx | hx | hx <;> omega)).trans p0
  have o3 : Only (Own B C) w w2 := (Only.of_below b0).trans o2
  have sz := lt_of_at r2
  have sz' := lt_of_at p2
  have q0 := cell_at r2 0
  have q1 := cell_at r2 1
  have q2 := cell_at r2 2
  have q3 := cell_at r2 3
  have q4 := cell_at r2 4
  have q5 := cell_at r2 5
  have q6 := cell_at r2 6
  have q7 := cell_at r2 7
  have g := free_at r2
  have t0 := cell_at p2 0
  have t1 := cell_at p2 1
  have t2 := cell_at p2 2
  have t3 := cell_at p2 3
  have t4 := cell_at p2 4
  have t5 := cell_at p2 5
  have t6 := cell_at p2 6
  have g' := free_at p2
  simp at q0 q1 q2 q3 q4 q5 q6 q7 t0 t1 t2 t3 t4 t5 t6
  clear v0 o2 r0 b0
  go_wp2_with fail
  have o4 := ((Only.refl (fun b => b = w.heap.size ∨ b = w.heap.size + 1) w2).stores8 (w.heap.size + 1) (.inl (.inr rfl)) (.int .u64 0) (.int .i64 0) (.pointer none) (.int .u16 0) (.slice none 0 0) (.int .i64 0) (.bool false) (.pointer none)).stores7 w.heap.size (.inl (.inl rfl)) (.int .u64 0) (.int .i64 0) (.pointer none) (.int .u16 0) (.slice none 0 0) (.int .i64 0) (.bool false)
  refine bodyPost_ret (v := .tuple #[.agg #[.int .u64 0, .int .i64 0, .pointer none, .int .u16 0, .slice none 0 0, .int .i64 0, .bool false], .iface 75 (.pointer (some aE))]) (by simp [results, Ybaf.results22, go_sem, t0, t1, t2, t3, t4, t5, t6]) rfl ⟨rfl, ?_, ?_⟩
  · exact v2.below (o4.below (B := C + 3) (by omega) (fun i hi => by omega))
  · exact (o3.stores8 (w.heap.size + 1) (.inr (Nat.le_succ _)) _ _ _ _ _ _ _ _).stores7 w.heap.size (.inr (Nat.le_refl _)) _ _ _ _ _ _ _

set_option maxHeartbeats 800000 in
theorem next_err {w : World} {B C : Nat} {a0 : Option Addr} {len cap : Nat} {ln : Nat → Nat} {pre : Nat} {aE : Addr} {g : Nat} {cur : Array Value} {A : Nat → Option Addr} {x : Addr} {k v : Nat} (h : AS w B C a0 len cap ln pre aE (.iface 75 (.pointer (some x))) g cur A pre k v)  :
    Calls Ybaf.prog 22 #[.pointer (some ⟨B + 4, 0, none⟩)] w fun e w' =>
      e = .returned (.tuple #[.agg #[.int .u64 0, .int .i64 0, .pointer none, .int .u16 0, .slice none 0 0, .int .i64 0, .bool false], .iface 75 (.pointer (some x))]) ∧ AS w' B C a0 len cap ln pre aE (.iface 75 (.pointer (some x))) g cur A pre k v ∧ Only (Own B C) w w' := by
  obtain ⟨ad, cd, _, _, _, h4⟩ := h.h4
  have c7 := cell_at h4 7
  have s4 := lt_of_at h4
  have hbc := h.bc
  simp at c7
  have hV := h
  clear h h4
  go_enter Ybaf.func22, Ybaf.ntmps22
  go_wp2_with fail
  generalize hw0 : World.alloc (World.alloc w _) _ = w0
  have b0 : Below w.heap.size w w0 := by subst hw0; exact ((Below.refl _ w).alloc (Nat.le_refl _) _).alloc (by simp) _
  have r0 : w0.heap[w.heap.size + 1]? = some (.cells #[.int .u64 0, .int .i64 0, .pointer none, .int .u16 0, .slice none 0 0, .int .i64 0, .bool false, .pointer none] 69 (0, 0)) := by subst hw0; simpa using alloc_at (w.alloc _) _ _
  have p0 : w0.heap[w.heap.size]? = some (.cells #[.int .u64 0, .int .i64 0, .pointer none, .int .u16 0, .slice none 0 0, .int .i64 0, .bool false] 50 (0, 0)) := by subst hw0; exact alloc_past _ (alloc_at w _ _)
  have v0 := hV.kept b0
  have hsB := hV.size
  have z0 := lt_of_at r0
  clear hw0 c7
  refine (read_err v0).mono ?_
  rintro e w2 ⟨rfl, hb2⟩
  have v2 := v0.kept hb2
  have o2 : Only (Own B C) w0 w2 := Only.of_below hb2
  have r2 := (o2.block _ (lt_of_at r0) (fun hx => by rcases hx with hx | hx | hx <;> omega)).trans r0
  have p2 := (o2.block _ (lt_of_at p0) (fun hx => by rcases hx with hx | hx | hx <;> omega)).trans p0
  have o3 : Only (Own B C) w w2 := (Only.of_below b0).trans o2
  have sz := lt_of_at r2
  have sz' := lt_of_at p2
  have q0 := cell_at r2 0
  have q1 := cell_at r2 1
  have q2 := cell_at r2 2
  have q3 := cell_at r2 3
  have q4 := cell_at r2 4
  have q5 := cell_at r2 5
  have q6 := cell_at r2 6
  have q7 := cell_at r2 7
  have g := free_at r2
  have t0 := cell_at p2 0
  have t1 := cell_at p2 1
  have t2 := cell_at p2 2
  have t3 := cell_at p2 3
  have t4 := cell_at p2 4
  have t5 := cell_at p2 5
  have t6 := cell_at p2 6
  have g' := free_at p2
  simp at q0 q1 q2 q3 q4 q5 q6 q7 t0 t1 t2 t3 t4 t5 t6
  clear v0 o2 r0 b0
  go_wp2_with fail
  have o4 := ((Only.refl (fun b => b = w.heap.size ∨ b = w.heap.size + 1) w2).stores8 (w.heap.size + 1) (.inl (.inr rfl)) (.int .u64 0) (.int .i64 0) (.pointer none) (.int .u16 0) (.slice none 0 0) (.int .i64 0) (.bool false) (.pointer none)).stores7 w.heap.size (.inl (.inl rfl)) (.int .u64 0) (.int .i64 0) (.pointer none) (.int .u16 0) (.slice none 0 0) (.int .i64 0) (.bool false)
  refine bodyPost_ret (v := .tuple #[.agg #[.int .u64 0, .int .i64 0, .pointer none, .int .u16 0, .slice none 0 0, .int .i64 0, .bool false], .iface 75 (.pointer (some x))]) (by simp [results, Ybaf.results22, go_sem, t0, t1, t2, t3, t4, t5, t6]) rfl ⟨rfl, ?_, ?_⟩
  · exact v2.below (o4.below (B := C + 3) (by omega) (fun i hi => by omega))
  · exact (o3.stores8 (w.heap.size + 1) (.inr (Nat.le_succ _)) _ _ _ _ _ _ _ _).stores7 w.heap.size (.inr (Nat.le_refl _)) _ _ _ _ _ _ _
end Go.Proofs.YbulkbmguFmt.ahd
