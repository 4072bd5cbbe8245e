/-
  The law LawS3153CAhead: Reader.Next, a packet read ahead.
-/
import Derived.Test.YbulkbmguFmtAhdRead
import Derived.BigRegion
namespace Go.Proofs.YbulkbmguFmt.ahd
open Go.RowKit
set_option maxRecDepth 100000

theorem AS.popped {w : World} {B C : Nat} {a0 : Option Addr} {len cap : Nat} {ln : Nat → Nat} {pre : Nat} {aE : Addr} {er : Value} {g : Nat} {cur : Array Value} {A : Nat → Option Addr} {j k v : Nat} (h : AS w B C a0 len cap ln pre aE er g cur A j k v) (a' : Option Addr) (n' c' : Nat) (t' : Int) (hn : n' = pre - (j + 1)) (hc : n' ≤ c') (hm : c' ≤ 9223372036854775807) (ha : j + 1 < pre → a' = some ⟨g, 8 * (j + 1), none⟩)
    (ht : t' = ((tot ln (j + 1) (pre - (j + 1)) : Nat) : Int)) (o o' : Obj) : AS ((((w.setCell ⟨B + 4, 7, none⟩ (.slice a' n' c')).setCell ⟨B + 4, 8, none⟩ (.int .i64 t')).alloc o).alloc o').drew.drew B C a0 len cap ln pre aE er g cur A (j + 1) k v ∧ Only (Own B C) w ((((w.setCell ⟨B + 4, 7, none⟩ (.slice a' n' c')).setCell ⟨B + 4, 8, none⟩ (.int .i64 t')).alloc o).alloc o').drew.drew := by
  subst hn ht
  have hbc := h.bc
  obtain ⟨a, c, _, _, _, h4⟩ := h.h4
  have o1 : Only (Own B C) w (((((w.setCell ⟨B + 4, 7, none⟩ (.slice a' (pre - (j + 1)) c')).setCell ⟨B + 4, 8, none⟩ (.int .i64 ((tot ln (j + 1) (pre - (j + 1)) : Nat) : Int))).alloc o).alloc o').drew.drew) := (((((Only.refl _ w).setCell (.inl (.inl rfl)) _).setCell (.inl (.inl rfl)) _).alloc _).alloc _).drew.drew
  refine ⟨h.step o1 ⟨a', c', hc, hm, ha, ?_⟩ ?_ ?_, o1⟩
  · exact alloc_past o' (alloc_past o (set_at (set_at h4 7 _) 8 _))
  · exact alloc_past o' (alloc_past o (by rw [Below.heap_setCell _ _ _ _ (by simp; omega), Below.heap_setCell _ _ _ _ (by simp; omega)]; exact h.c0))
  · exact alloc_past o' (alloc_past o (by rw [Below.heap_setCell _ _ _ _ (by simp; omega), Below.heap_setCell _ _ _ _ (by simp; omega)]; exact h.c1))

set_option maxHeartbeats 1600000 in
theorem next_pop {w : World} {B C : Nat} {a0 : Option Addr} {len cap : Nat} {ln : Nat → Nat} {pre : Nat} {aE : Addr} {er : Value} {g : Nat} {cur : Array Value} {A : Nat → Option Addr} {j k v : Nat} (h : AS w B C a0 len cap ln pre aE er g cur A j k v) (hpre : pre ≤ 1024) (hj : j < pre) :
    Calls Ybaf.prog 22 #[.pointer (some ⟨B + 4, 0, none⟩)] w fun e w' =>
      e = .returned (.tuple #[.agg #[.int .u64 0, .int .i64 0, .pointer none, .int .u16 0, .slice (A j) (ln j % 8) (ln j % 8), .int .i64 (j : Int), .bool false], .nilIface]) ∧ AS w' B C a0 len cap ln pre aE er g cur A (j + 1) k v ∧ Only (Own B C) w w' := by
  obtain ⟨ad, cd, hcd, hcm, had, h4⟩ := h.h4
  have had := had hj
  subst had
  obtain ⟨hrow, hg1, hg2⟩ := h.row (by omega)
  have c7 := cell_at h4 7
  have c8 := cell_at h4 8
  have f4 := free_at h4
  have s4 := lt_of_at h4
  have sg := lt_of_at hrow
  have hbc := h.bc
  have hsB := h.size
  have ng : ¬ g = B + 4 := by omega
  have ng' : ¬ B + 4 = g := by omega
  have rc : ∀ c, c < 8 → w.cell? ⟨g, 8 * j + c, none⟩ = (#[.int .u64 0, .int .i64 0, .pointer none, .int .u16 0, .slice (A j) (ln j % 8) (ln j % 8), .int .i64 (j : Nat), .bool false, .pointer none] : Array Value)[c]? := fun c hc => by
    rw [cell_at hrow]; exact h.cells j hj c hc
  have e0 := rc 0 (by omega)
  have e1 := rc 1 (by omega)
  have e2 := rc 2 (by omega)
  have e3 := rc 3 (by omega)
  have e4 := rc 4 (by omega)
  have e5 := rc 5 (by omega)
  have e6 := rc 6 (by omega)
  have e7 := rc 7 (by omega)
  simp at c7 c8 e0 e1 e2 e3 e4 e5 e6 e7
  have htl := tot_le ln (pre - j) j
  have hts : tot ln j (pre - j) = ln j % 8 + tot ln (j + 1) (pre - (j + 1)) := by
    rw [show pre - j = pre - (j + 1) + 1 from by omega]; rfl
  have HT : Hid (tot ln j (pre - j) = ln j % 8 + tot ln (j + 1) (pre - (j + 1))) := hts
  have htg : ln j % 8 ≤ tot ln j (pre - j) := by omega
  have hV := h
  clear h h4 rc hts hrow
  obtain ⟨tj, htj⟩ : ∃ t, t = tot ln j (pre - j) := ⟨_, rfl⟩
  obtain ⟨nj, hnj⟩ : ∃ t, t = ln j % 8 := ⟨_, rfl⟩
  obtain ⟨pj, hpj⟩ : ∃ t, t = pre - j := ⟨_, rfl⟩
  rw [← htj] at htl htg c8
  rw [← hnj] at htg e4 ⊢
  rw [← hpj] at htl hcd c7
  have hpj1 : 1 ≤ pj := by omega
  have htb : tj ≤ 7168 := by omega
  have HJ : Hid (tj = tot ln j (pre - j) ∧ nj = ln j % 8 ∧ pj = pre - j) := ⟨htj, hnj, hpj⟩
  clear htj hnj hpj
  by_cases hc1 : cd = 1
  · subst hc1
    go_enter Ybaf.func22, Ybaf.ntmps22
    go_wp2_with fail
    go_region
    all_goals go_wp2_with fail
    all_goals go_region
    all_goals go_wp2_with fail
    obtain ⟨j1, j2, j3⟩ := HJ.out
    have ht := HT.out
    exact bodyPost_ret (v := .tuple #[.agg #[.int .u64 0, .int .i64 0, .pointer none, .int .u16 0, .slice (A j) nj nj, .int .i64 (j : Int), .bool false], .nilIface]) (by simp [results, Ybaf.results22, go_sem]) rfl ⟨rfl, hV.popped _ _ _ _ (by omega) (by omega) (by omega) (fun hh => by omega) (by omega) _ _⟩
  · have hc2 : ¬ 1 = cd := fun hh => hc1 hh.symm
    go_enter Ybaf.func22, Ybaf.ntmps22
    go_wp2_with fail
    go_region
    all_goals go_wp2_with fail
    all_goals go_region
    all_goals go_wp2_with fail
    obtain ⟨j1, j2, j3⟩ := HJ.out
    have ht := HT.out
    exact bodyPost_ret (v := .tuple #[.agg #[.int .u64 0, .int .i64 0, .pointer none, .int .u16 0, .slice (A j) nj nj, .int .i64 (j : Int), .bool false], .nilIface]) (by simp [results, Ybaf.results22, go_sem]) rfl ⟨rfl, hV.popped _ _ _ _ (by omega) (by omega) (by omega) (fun _ => by rw [Nat.mul_add]) (by omega) _ _⟩
end Go.Proofs.YbulkbmguFmt.ahd
