/-
  The walk of LawS3152BReports: both ways of the flag wait. Lock and Unlock by the kit's contracts (Derived/Conc/MuLone.lean), TryLock and Waiting by those of YbulkbmggLocks.
-/
import Derived.Test.YbulkbmggLocks
import Derived.Laws.Tables
import Derived.LaidEqlPtr
namespace Go.Proofs.Ybulkbmgg
open Go.MuLone Go.RowKit

/-- Is this cell the int32 0? -/
def isZero : Option Value → Bool
  | some (.int .i32 0) => true
  | _ => false
theorem isZero_of {o : Option Value} (h : isZero o = true) : o = some (.int .i32 0) := by
  unfold isZero at h
  split at h
  · rfl
  · cases h
/-- Is cell 100 of this zero value the int32 0? -/
def muFree : Option Value → Bool
  | some (.agg z) => isZero z[100]?
  | _ => false
theorem muFree_of {o : Option Value} (h : muFree o = true) : ∃ z, o = some (.agg z) ∧ z[100]? = some (.int .i32 0) := by
  unfold muFree at h
  split at h
  · rename_i z
    exact ⟨z, rfl, isZero_of h⟩
  · cases h
theorem zero56 : muFree ((Yba.prog.info? 56).bind fun i => i.zero) = true := by kernel_rfl

/-- The zero Manager's cells, under a name that nobody reckons. -/
theorem zeroM : ∃ z : Array Value, (∀ w, (zeroValue 56).run Yba.prog w = .ok (.agg z) w) ∧ z[100]? = some (.int .i32 0) := by
  obtain ⟨z, h, hz⟩ := muFree_of zero56
  refine ⟨z, fun w => ?_, hz⟩
  cases hi : Yba.prog.info? 56 with
  | none => rw [hi] at h; cases h
  | some i =>
    rw [hi] at h
    have h' : i.zero = some (.agg z) := h
    simp [zeroValue, typeInfo, hi, h']

/-- What the law knows of the world between two calls: the manager at block m, the transaction at block t, its request r. -/
structure St (W w : World) (m t : Nat) (r : Option Addr) (a1 a2 a3 a4 : Bool) : Prop where
  tm : w.cell? ⟨t, 0, none⟩ = some (.pointer (some ⟨m, 0, none⟩))
  wait : w.cell? ⟨t, 18, none⟩ = some (.pointer r)
  d : w.cell? ⟨t, 20, none⟩ = some (.bool a1)
  g : w.cell? ⟨t, 21, none⟩ = some (.bool a2)
  l : w.cell? ⟨t, 22, none⟩ = some (.bool a3)
  k : w.cell? ⟨t, 23, none⟩ = some (.bool a4)
  mu : w.cell? ⟨m, 100, none⟩ = some (.int .i32 0)
  fmu : w.frozen? ⟨m, 100, none⟩ = false
  tmu : w.cell? ⟨t, 14, none⟩ = some (.int .i32 0)
  ftmu : w.frozen? ⟨t, 14, none⟩ = false
  grown : Grown W w

theorem St.kept {W w w' : World} {m t : Nat} {r : Option Addr} {a1 a2 a3 a4 : Bool} {B : Nat} (h : St W w m t r a1 a2 a3 a4) (k : Kept B w w') (hB : W.heap.size ≤ B) : St W w' m t r a1 a2 a3 a4 :=
  ⟨(k.cell _).trans h.tm, (k.cell _).trans h.wait, (k.cell _).trans h.d, (k.cell _).trans h.g, (k.cell _).trans h.l, (k.cell _).trans h.k, (k.cell _).trans h.mu, (k.frozen _).trans h.fmu, (k.cell _).trans h.tmu, (k.frozen _).trans h.ftmu, k.grown W hB h.grown⟩

/-- The request's cells. -/
structure Rq (w : World) (t q : Nat) (a5 a6 : Int) : Prop where
  x : w.cell? ⟨q, 0, none⟩ = some (.pointer (some ⟨t, 0, none⟩))
  m : w.cell? ⟨q, 2, none⟩ = some (.int .u8 a5)
  b : w.cell? ⟨q, 4, none⟩ = some (.bool true)
  s : w.cell? ⟨q, 5, none⟩ = some (.int .u64 a6)

theorem Rq.kept {w w' : World} {t q : Nat} {a5 a6 : Int} {B : Nat} (h : Rq w t q a5 a6) (k : Kept B w w') : Rq w' t q a5 a6 :=
  ⟨(k.cell _).trans h.x, (k.cell _).trans h.m, (k.cell _).trans h.b, (k.cell _).trans h.s⟩

theorem unlock_any (a : Addr) (w : World) (hc : w.cell? a = some (.int .i32 0)) (hz : w.frozen? a = false) :
    Calls Yba.prog 6 #[.pointer (some a)] (w.setCell a (.int .i32 1)) fun e w' => e = .returned (.tuple #[]) ∧ Kept a.block w w' := by
  refine (unlock_held muLib a (w.setCell a (.int .i32 1)) (World.cell?_setCell_same w a (.int .i32 1) hc) (by simp [hz])).mono ?_
  rintro e w' ⟨he, hw⟩
  exact ⟨he, hw ▸ kept_pair a w hc⟩

theorem neq_same {P : Program} {tp te : TypeId} (hp : P.underlying tp = some (.pointer te)) (hte : (P.info? te).isSome = true) (a : Addr) (w : World) :
    (binOp .neq tp (.pointer (some a)) (.pointer (some a))).run P w = .ok (.bool false) w := by
  obtain ⟨j, hj⟩ := Option.isSome_iff_exists.1 hte
  have h : ∀ d : Nat, (Op.equalIn (d + 1) tp (.pointer (some a)) (.pointer (some a))).run P w = .ok true w := fun d => by
    simp [Op.equalIn, run_underlying hp, sizeOf, typeInfo, hj, run_sameAddr_same]
  simp only [binOp]
  simp [Op.equal, Op.maxDepth, h 9999]
theorem neq23 (a : Addr) (w : World) : (binOp .neq 23 (.pointer (some a)) (.pointer (some a))).run Yba.prog w = .ok (.bool false) w := neq_same Yba.underlying23 (by kernel_rfl) a w
theorem neq57 (a : Addr) (w : World) : (binOp .neq 57 (.pointer (some a)) (.pointer (some a))).run Yba.prog w = .ok (.bool false) w := neq_same Yba.underlying57 (by kernel_rfl) a w
theorem neq66 (a : Addr) (w : World) : (binOp .neq 66 (.pointer (some a)) (.pointer (some a))).run Yba.prog w = .ok (.bool false) w := neq_same Yba.underlying66 (by kernel_rfl) a w

set_option maxRecDepth 100000 in
set_option maxHeartbeats 1600000 in
theorem law_no (a1 a2 a3 a4 : Bool) (a5 a6 : Int) (w : World) :
    Calls Yba.prog 3 #[.bool false, .bool a1, .bool a2, .bool a3, .bool a4, .int .u8 a5, .int .u64 a6] w fun e w' => e = .returned (.bool true) ∧ Grown w w' := by
  obtain ⟨zM, hbuild, hz⟩ := zeroM
  have hnot : ∀ (x : Bool) (w : World), (Op.unary .not (.bool x)).run Yba.prog w = .ok (.bool (!x)) w := fun _ _ => rfl
  go_enter Yba.func3, Yba.ntmps3
  go_wp2_with fail
  generalize hw0 : (w.alloc (Obj.cells zM 56)).alloc _ = w0
  have s0 : St w w0 w.heap.size (w.heap.size + 1) none a1 a2 a3 a4 := by
    subst hw0
    exact ⟨by simp, by simp, by simp, by simp, by simp, by simp, by simp [hz], by simp, by simp, by simp, ((Grown.refl _).alloc _ _).alloc _ _⟩
  clear hw0 hbuild hz
  refine (waiting_any w.heap.size (w.heap.size + 1) none w0 s0.tm s0.mu s0.fmu s0.wait (by omega)).mono ?_
  rintro e w1 ⟨rfl, k1⟩
  have s1 := s0.kept k1 (Nat.le_refl _)
  clear k1 s0
  obtain ⟨c1, c2, c3, c4, c5, c6, c7, c8, c9, c10, c11⟩ := s1
  have n23 := neq23
  go_wp2_with fail
  refine (try_free ⟨w.heap.size, 100, none⟩ w1 c7 c8).mono ?_
  rintro e w2 ⟨rfl, rfl⟩
  go_wp2_with fail
  refine (unlock_any ⟨w.heap.size, 100, none⟩ w1 c7 c8).mono ?_
  rintro e w3 ⟨rfl, k3⟩
  have s3 := St.kept ⟨c1, c2, c3, c4, c5, c6, c7, c8, c9, c10, c11⟩ k3 (Nat.le_refl _)
  clear k3 c1 c2 c3 c4 c5 c6 c7 c8 c9 c10 c11
  go_wp2_with fail
  refine (try_free ⟨w.heap.size + 1, 14, none⟩ w3 s3.tmu s3.ftmu).mono ?_
  rintro e w4 ⟨rfl, rfl⟩
  go_wp2_with fail
  refine (unlock_any ⟨w.heap.size + 1, 14, none⟩ w3 s3.tmu s3.ftmu).mono ?_
  rintro e w5 ⟨rfl, k5⟩
  have s5 := s3.kept k5 (by simp)
  clear k5 s3
  go_wp2_with fail
  refine (waiting_any w.heap.size (w.heap.size + 1) none w5 s5.tm s5.mu s5.fmu s5.wait (by omega)).mono ?_
  rintro e w6 ⟨rfl, k6⟩
  have s6 := s5.kept k6 (Nat.le_refl _)
  clear k6 s5
  go_wp2_with fail
  refine (try_free ⟨w.heap.size, 100, none⟩ w6 s6.mu s6.fmu).mono ?_
  rintro e w7 ⟨rfl, rfl⟩
  go_wp2_with fail
  refine (unlock_any ⟨w.heap.size, 100, none⟩ w6 s6.mu s6.fmu).mono ?_
  rintro e w8 ⟨rfl, k8⟩
  have s8 := s6.kept k8 (Nat.le_refl _)
  clear k8 s6
  go_wp2_with fail
  go_ret
  exact ⟨rfl, s8.grown⟩
set_option maxRecDepth 100000 in
set_option maxHeartbeats 1600000 in
theorem law_yes (a1 a2 a3 a4 : Bool) (a5 a6 : Int) (w : World) :
    Calls Yba.prog 3 #[.bool true, .bool a1, .bool a2, .bool a3, .bool a4, .int .u8 a5, .int .u64 a6] w fun e w' => e = .returned (.bool true) ∧ Grown w w' := by
  obtain ⟨zM, hbuild, hz⟩ := zeroM
  have hnot : ∀ (x : Bool) (w : World), (Op.unary .not (.bool x)).run Yba.prog w = .ok (.bool (!x)) w := fun _ _ => rfl
  go_enter Yba.func3, Yba.ntmps3
  go_wp2_with fail
  generalize hw0 : World.alloc (World.alloc (World.alloc w (Obj.cells zM 56)) _) _ = w0
  have s0 : St w w0 w.heap.size (w.heap.size + 1) (some ⟨w.heap.size + 2, 0, none⟩) a1 a2 a3 a4 := by
    subst hw0
    exact ⟨by simp [go_sem], by simp [go_sem], by simp [go_sem], by simp [go_sem], by simp [go_sem], by simp [go_sem], by simp [go_sem, hz], by simp [go_sem], by simp [go_sem], by simp [go_sem], (((Grown.refl _).alloc _ _).alloc _ _).alloc _ _⟩
  have r0 : Rq w0 (w.heap.size + 1) (w.heap.size + 2) a5 a6 := by
    subst hw0
    exact ⟨by simp [go_sem], by simp [go_sem], by simp [go_sem], by simp [go_sem]⟩
  clear hw0 hbuild hz
  refine (waiting_any w.heap.size (w.heap.size + 1) (some ⟨w.heap.size + 2, 0, none⟩) w0 s0.tm s0.mu s0.fmu s0.wait (by omega)).mono ?_
  rintro e w1 ⟨rfl, k1⟩
  have s1 := s0.kept k1 (Nat.le_refl _)
  have r1 := r0.kept k1
  clear k1 s0 r0
  obtain ⟨q1, q2, q3, q4⟩ := r1
  obtain ⟨c1, c2, c3, c4, c5, c6, c7, c8, c9, c10, c11⟩ := s1
  have n23 := neq23
  have n57 := neq57
  have n66 := neq66
  go_wp2_with fail
  refine (try_free ⟨w.heap.size, 100, none⟩ w1 c7 c8).mono ?_
  rintro e w2 ⟨rfl, rfl⟩
  go_wp2_with fail
  refine (unlock_any ⟨w.heap.size, 100, none⟩ w1 c7 c8).mono ?_
  rintro e w3 ⟨rfl, k3⟩
  have s3 := St.kept ⟨c1, c2, c3, c4, c5, c6, c7, c8, c9, c10, c11⟩ k3 (Nat.le_refl _)
  clear k3 q1 q2 q3 q4 c1 c2 c3 c4 c5 c6 c7 c8 c9 c10 c11
  go_wp2_with fail
  refine (try_free ⟨w.heap.size + 1, 14, none⟩ w3 s3.tmu s3.ftmu).mono ?_
  rintro e w4 ⟨rfl, rfl⟩
  go_wp2_with fail
  refine (unlock_any ⟨w.heap.size + 1, 14, none⟩ w3 s3.tmu s3.ftmu).mono ?_
  rintro e w5 ⟨rfl, k5⟩
  have s5 := s3.kept k5 (by simp)
  clear k5 s3
  go_wp2_with fail
  refine (waiting_any w.heap.size (w.heap.size + 1) (some ⟨w.heap.size + 2, 0, none⟩) w5 s5.tm s5.mu s5.fmu s5.wait (by omega)).mono ?_
  rintro e w6 ⟨rfl, k6⟩
  have s6 := s5.kept k6 (Nat.le_refl _)
  clear k6 s5
  go_wp2_with fail
  refine (try_free ⟨w.heap.size, 100, none⟩ w6 s6.mu s6.fmu).mono ?_
  rintro e w7 ⟨rfl, rfl⟩
  go_wp2_with fail
  refine (unlock_any ⟨w.heap.size, 100, none⟩ w6 s6.mu s6.fmu).mono ?_
  rintro e w8 ⟨rfl, k8⟩
  have s8 := s6.kept k8 (Nat.le_refl _)
  clear k8 s6
  go_wp2_with fail
  go_ret
  exact ⟨rfl, s8.grown⟩
end Go.Proofs.Ybulkbmgg
