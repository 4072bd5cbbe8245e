import Derived.Test.YbulkbmguFmtVisRead
import Derived.Deep.RegionWith
namespace Go.Proofs.YbulkbmguFmt
open Go.RowKit
set_option maxRecDepth 100000

theorem VS.visited {w : World} {B : Nat} {a0 : Option Addr} {len cap : Nat} {ln : Nat → Nat} {stop : Nat} {fail : Bool} {aE : Addr} {k v : Nat} (h : VS w B a0 len cap ln stop fail aE k v) (o o' : Obj) :
    VS (((w.setCell ⟨B + 10, 0, none⟩ (.int .i64 ((v : Int) + 1))).alloc o).alloc o').drew B a0 len cap ln stop fail aE k (v + 1) ∧ Only (Own B) w (((w.setCell ⟨B + 10, 0, none⟩ (.int .i64 ((v : Int) + 1))).alloc o).alloc o').drew := by
  have o1 : Only (Own B) w (((w.setCell ⟨B + 10, 0, none⟩ (.int .i64 ((v : Int) + 1))).alloc o).alloc o').drew := ((((Only.refl _ w).setCell (.inl (.inr rfl)) _).alloc _).alloc _).drew
  refine ⟨h.step o1 ?_ ?_, o1⟩
  · exact alloc_past o' (alloc_past o (by rw [Below.heap_setCell _ _ _ _ (by simp)]; exact h.h8))
  · exact alloc_past o' (alloc_past o (set_at h.h10 0 _))

set_option maxHeartbeats 800000 in
theorem visit_on (w : World) (B : Nat) (a0 : Option Addr) (len cap : Nat) (ln : Nat → Nat) (stop : Nat) (fail : Bool) (aE : Addr) (k v lo : Nat) (a : Option Addr) (h : VS w B a0 len cap ln stop fail aE k v) (hlen : len ≤ 1024) (hln : ∀ i, ln i < 256) (hv : v < len) (hst : ¬ v + 1 = stop)
    (hby : Bytes w lo a (ln v % 8) ((v % 256 : Nat) : Int)) (hlo : B + 12 ≤ lo) :
    Calls Ybaf.prog 15 #[.int .i64 ((v : Int) + 1), .agg #[.int .u64 0, .int .i64 0, .pointer none, .int .u16 v, .slice a (ln v % 8) (ln v % 8), .int .i64 v, .bool false], .pointer (some ⟨B + 10, 0, none⟩), .pointer (some ⟨B + 11, 0, none⟩), .pointer (some ⟨B + 2, 0, none⟩), .pointer (some ⟨B, 0, none⟩), .pointer (some ⟨B + 3, 0, none⟩), .pointer (some ⟨B + 7, 0, none⟩)] w fun e w' =>
      e = .returned .nilIface ∧ VS w' B a0 len cap ln stop fail aE k (v + 1) ∧ Only (Own B) w w' := by
  have c10 := cell_at h.h10 0
  have f10 := free_at h.h10 0
  have c11 := cell_at h.h11 0
  have f11 := free_at h.h11 0
  have c2 := cell_at h.h2 0
  have c0 := cell_at h.h0 0
  have c3 := cell_at h.h3 0
  have c7 := cell_at h.h7 0
  have s10 := lt_of_at h.h10
  have s11 := lt_of_at h.h11
  have s2 := lt_of_at h.h2
  have s0 := lt_of_at h.h0
  have s3 := lt_of_at h.h3
  have s7 := lt_of_at h.h7
  obtain ⟨lb, off, ha0, hlb, hcl⟩ := h.ls v hv
  subst ha0
  have slb : lb < w.heap.size := by omega
  simp only [List.getElem?_toArray, List.getElem?_cons_zero] at c10 c11 c2 c0 c3 c7
  have hw16 : IntKind.u16.wrap (v : Int) = (v : Int) := by rw [IntKind.wrap_u16]; omega
  have hne16 : ((v : Int) != (v : Int)) = false := by simp
  have hneg : decide ((v : Int) < 0) = false := by simp
  have hbW : ∀ o, Bytes ((w.setCell ⟨B + 10, 0, none⟩ (.int .i64 ((v : Int) + 1))).alloc o).drew lo a (ln v % 8) ((v % 256 : Nat) : Int) := fun o =>
    hby.kept ((((Only.refl (Own B) w).setCell (.inl (.inr rfl)) _).alloc o).drew) (fun i hi => by rcases hi with hi | hi <;> omega)
  have hst' : ((v : Int) + 1 == (stop : Int)) = false := by rw [beq_eq_false_iff_ne]; omega
  have hV := h
  clear h hby hst
  go_enter Ybaf.func15, Ybaf.ntmps15
  go_wp2_with fail
  go_region_with (go_at_call 16; refine (good_any lo v (ln v) v a _ ?_ ?_ ?_).mono ?_; omega; exact hln v; exact hbW _; rintro e w' ⟨rfl, rfl⟩)
  all_goals go_wp2_with fail
  all_goals go_ret
  all_goals exact ⟨rfl, hV.visited _ _⟩
set_option maxHeartbeats 800000 in
theorem visit_stop (w : World) (B : Nat) (a0 : Option Addr) (len cap : Nat) (ln : Nat → Nat) (stop : Nat) (fail : Bool) (aE : Addr) (k v lo : Nat) (a : Option Addr) (h : VS w B a0 len cap ln stop fail aE k v) (hlen : len ≤ 1024) (hln : ∀ i, ln i < 256) (hv : v < len) (hst : v + 1 = stop)
    (hby : Bytes w lo a (ln v % 8) ((v % 256 : Nat) : Int)) (hlo : B + 12 ≤ lo) :
    Calls Ybaf.prog 15 #[.int .i64 ((v : Int) + 1), .agg #[.int .u64 0, .int .i64 0, .pointer none, .int .u16 v, .slice a (ln v % 8) (ln v % 8), .int .i64 v, .bool false], .pointer (some ⟨B + 10, 0, none⟩), .pointer (some ⟨B + 11, 0, none⟩), .pointer (some ⟨B + 2, 0, none⟩), .pointer (some ⟨B, 0, none⟩), .pointer (some ⟨B + 3, 0, none⟩), .pointer (some ⟨B + 7, 0, none⟩)] w fun e w' =>
      e = .returned (.iface 75 (.pointer (some ⟨B + 6, 0, none⟩))) ∧ VS w' B a0 len cap ln stop fail aE k (v + 1) ∧ Only (Own B) w w' := by
  have c10 := cell_at h.h10 0
  have f10 := free_at h.h10 0
  have c11 := cell_at h.h11 0
  have f11 := free_at h.h11 0
  have c2 := cell_at h.h2 0
  have c0 := cell_at h.h0 0
  have c3 := cell_at h.h3 0
  have c7 := cell_at h.h7 0
  have s10 := lt_of_at h.h10
  have s11 := lt_of_at h.h11
  have s2 := lt_of_at h.h2
  have s0 := lt_of_at h.h0
  have s3 := lt_of_at h.h3
  have s7 := lt_of_at h.h7
  obtain ⟨lb, off, ha0, hlb, hcl⟩ := h.ls v hv
  subst ha0
  have slb : lb < w.heap.size := by omega
  simp only [List.getElem?_toArray, List.getElem?_cons_zero] at c10 c11 c2 c0 c3 c7
  have hw16 : IntKind.u16.wrap (v : Int) = (v : Int) := by rw [IntKind.wrap_u16]; omega
  have hne16 : ((v : Int) != (v : Int)) = false := by simp
  have hneg : decide ((v : Int) < 0) = false := by simp
  have hbW : ∀ o, Bytes ((w.setCell ⟨B + 10, 0, none⟩ (.int .i64 ((v : Int) + 1))).alloc o).drew lo a (ln v % 8) ((v % 256 : Nat) : Int) := fun o =>
    hby.kept ((((Only.refl (Own B) w).setCell (.inl (.inr rfl)) _).alloc o).drew) (fun i hi => by rcases hi with hi | hi <;> omega)
  have hst' : ((v : Int) + 1 == (stop : Int)) = true := by rw [beq_iff_eq]; omega
  have hV := h
  clear h hby hst
  go_enter Ybaf.func15, Ybaf.ntmps15
  go_wp2_with fail
  go_region_with (go_at_call 16; refine (good_any lo v (ln v) v a _ ?_ ?_ ?_).mono ?_; omega; exact hln v; exact hbW _; rintro e w' ⟨rfl, rfl⟩)
  all_goals go_wp2_with fail
  all_goals go_ret
  all_goals exact ⟨rfl, hV.visited _ _⟩
end Go.Proofs.YbulkbmguFmt
