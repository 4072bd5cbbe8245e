/-
  The law LawS3153CAhead: its visitor.
-/
import Derived.Test.YbulkbmguFmtAhdState
import Derived.Deep.RegionWith
import Derived.BigQuiet
namespace Go.Proofs.YbulkbmguFmt.ahd
open Go.RowKit
set_option maxRecDepth 100000

theorem AS.visited {w : World} {B C : Nat} {a0 : Option Addr} {len cap : Nat} {ln : Nat → Nat} {pre : Nat} {aE : Addr} {er : Value} {g : Nat} {cur : Array Value} {A : Nat → Option Addr} {j k v : Nat} (h : AS w B C a0 len cap ln pre aE er g cur A j k v) (o o' : Obj) : AS (((w.setCell ⟨C + 1, 0, none⟩ (.int .i64 ((v : Int) + 1))).alloc o).alloc o').drew B C a0 len cap ln pre aE er g cur A j k (v + 1) ∧ Only (Own B C) w (((w.setCell ⟨C + 1, 0, none⟩ (.int .i64 ((v : Int) + 1))).alloc o).alloc o').drew := by
  have hbc := h.bc
  obtain ⟨a, c, x1, x2, x3, h4⟩ := h.h4
  have o1 : Only (Own B C) w ((((w.setCell ⟨C + 1, 0, none⟩ (.int .i64 ((v : Int) + 1))).alloc o).alloc o').drew) := ((((Only.refl _ w).setCell (.inl (.inr (.inr rfl))) _).alloc _).alloc _).drew
  refine ⟨h.step o1 ⟨a, c, x1, x2, x3, ?_⟩ ?_ ?_, o1⟩
  · exact alloc_past o' (alloc_past o (by rw [Below.heap_setCell _ _ _ _ (by simp; omega)]; exact h4))
  · exact alloc_past o' (alloc_past o (by rw [Below.heap_setCell _ _ _ _ (by simp)]; exact h.c0))
  · exact alloc_past o' (alloc_past o (set_at h.c1 0 _))

set_option maxHeartbeats 800000 in
theorem visit_any {w : World} {B C : Nat} {a0 : Option Addr} {len cap : Nat} {ln : Nat → Nat} {pre : Nat} {aE : Addr} {er : Value} {g : Nat} {cur : Array Value} {A : Nat → Option Addr} {j k v : Nat} {a : Option Addr} (h : AS w B C a0 len cap ln pre aE er g cur A j k v) (hlen : len ≤ 1024) (hln : ∀ i, ln i < 256) (hv : v < len) (hby : BX (Own B C) w a (ln v % 8) ((v % 256 : Nat) : Int)) :
    Calls Ybaf.prog 19 #[.int .i64 ((v : Int) + 1), .agg #[.int .u64 0, .int .i64 0, .pointer none, .int .u16 0, .slice a (ln v % 8) (ln v % 8), .int .i64 (v : Int), .bool false], .pointer (some ⟨C + 1, 0, none⟩), .pointer (some ⟨C + 2, 0, none⟩), .pointer (some ⟨B + 1, 0, none⟩), .pointer (some ⟨B, 0, none⟩)] w fun e w' =>
      e = .returned .nilIface ∧ AS w' B C a0 len cap ln pre aE er g cur A j k (v + 1) ∧ Only (Own B C) w w' := by
  have c10 := cell_at h.c1 0
  have f10 := free_at h.c1 0
  have c11 := cell_at h.c2 0
  have f11 := free_at h.c2 0
  have c2 := cell_at h.h1 0
  have c0 := cell_at h.h0 0
  have s10 := lt_of_at h.c1
  have s11 := lt_of_at h.c2
  have s2 := lt_of_at h.h1
  have s0 := lt_of_at h.h0
  have hbc := h.bc
  obtain ⟨lb, off, ha0, hlb, hcl⟩ := h.ls v hv
  subst ha0
  have slb : lb < w.heap.size := by omega
  have n1 : ¬ C + 1 = B + 1 := by omega
  have n2 : ¬ C + 1 = B := by omega
  have n3 : ¬ C + 1 = lb := by omega
  have n1' : ¬ B + 1 = C + 1 := by omega
  have m2 : ¬ C = B := by omega
  have m1 : ¬ B = C := by omega
  have n2' : ¬ B = C + 1 := by omega
  have n3' : ¬ lb = C + 1 := by omega
  simp only [List.getElem?_toArray, List.getElem?_cons_zero] at c10 c11 c2 c0
  have hneg : decide ((v : Int) < 0) = false := by simp
  have hbW : ∀ o, Bytes ((w.setCell ⟨C + 1, 0, none⟩ (.int .i64 ((v : Int) + 1))).alloc o).drew 0 a (ln v % 8) ((v % 256 : Nat) : Int) := fun o =>
    (hby.kept ((((Only.refl (Own B C) w).setCell (.inl (.inr (.inr rfl))) _).alloc o).drew)).bytes
  have hV := h
  clear h hby
  go_enter Ybaf.func19, Ybaf.ntmps19
  go_wp2_with fail
  go_region_with (go_at_call 16; refine (good_any 0 v (ln v) 0 a _ ?_ ?_ ?_).mono ?_; omega; exact hln v; exact hbW _; rintro e w' ⟨rfl, rfl⟩)
  all_goals go_wp2_with fail
  all_goals go_ret
  all_goals exact ⟨rfl, hV.visited _ _⟩
end Go.Proofs.YbulkbmguFmt.ahd
