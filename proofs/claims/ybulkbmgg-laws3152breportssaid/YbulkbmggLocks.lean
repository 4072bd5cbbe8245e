/-
  The numbers under which this dump holds sync.Mutex's functions and types, and that it holds them (Derived/Conc/MuLib.lean); and TryLock on a free lock, which the kit's contracts lack.
-/
import Derived.Test.YbulkbmggRows
import Derived.Conc.MuLone
import Derived.WalkKit
import Derived.KernelRfl
namespace Go.Proofs.Ybulkbmgg
open Go.MuLone Go.RowKit

abbrev muLink : Go.Conc.Locks.MuLink := { lock := 7, unlock := 6, ilock := 10, iunlock := 9, lockSlow := 18, unlockSlow := 17, disable := 11, enable := 12, acquire := 14, relMerge := 15, cas32 := 13, add32 := 16, tMutex := 44, tIMutex := 42, tPMutex := 79, tPIMutex := 80, tPI32 := 82, tUP := 30, tNoCopy := 40, tU32 := 33 }
theorem muLib : Go.Conc.Locks.MuLib Yba.prog muLink :=
  ⟨Yba.func7, Yba.func6, Yba.func10, Yba.func9, Yba.func11, Yba.func12, Yba.func14, Yba.func15, Yba.func13, Yba.func16, Yba.underlying42, Yba.runUnderlying42, Yba.sizeOf42, Yba.isAgg42, Yba.zeroValue42, Yba.underlying44, Yba.runUnderlying44, Yba.sizeOf44, Yba.isAgg44, Yba.zeroValue44, Yba.underlying79, Yba.runUnderlying79, Yba.sizeOf79, Yba.isAgg79, Yba.zeroValue79, Yba.underlying80, Yba.runUnderlying80, Yba.sizeOf80, Yba.isAgg80, Yba.zeroValue80, Yba.underlying82, Yba.runUnderlying82, Yba.sizeOf82, Yba.isAgg82, Yba.zeroValue82, Yba.underlying30, Yba.runUnderlying30, Yba.sizeOf30, Yba.isAgg30, Yba.zeroValue30, Yba.underlying40, Yba.runUnderlying40, Yba.sizeOf40, Yba.isAgg40, Yba.zeroValue40, Yba.underlying21, Yba.runUnderlying21, Yba.sizeOf21, Yba.isAgg21, Yba.zeroValue21, (by kernel_rfl)⟩

theorem mark_off (w : World) : (callFunc 11 #[]).run Yba.prog w = .ok (.value (.tuple #[])) w := disable muLib w
theorem mark_on (w : World) : (callFunc 12 #[]).run Yba.prog w = .ok (.value (.tuple #[])) w := enable muLib w
theorem mark_acquire (a : Addr) (w : World) : (callFunc 14 #[.pointer (some a)]).run Yba.prog w = .ok (.value (.tuple #[])) w := acquire muLib a w

set_option maxRecDepth 100000 in
set_option maxHeartbeats 800000 in
/-- '(*internal/sync.Mutex).TryLock', free and nobody waiting (state 0): taken. -/
theorem itry_free (a : Addr) (w : World) (hc : w.cell? a = some (.int .i32 0)) (hz : w.frozen? a = false) :
    Calls Yba.prog 8 #[.pointer (some a)] w fun e w' => e = .returned (.bool true) ∧ w' = w.setCell a (.int .i32 1) := by
  have hd := mark_off
  have he := mark_on
  have ha := mark_acquire
  have hcas := run_call_cas_hit (P := Yba.prog) Yba.func13 (by kernel_rfl) (by kernel_rfl) (by kernel_rfl) .i32 (by kernel_rfl) (y := 1) hc hz
  have hc' : (w.setCell a (.int .i32 1)).cell? a = some (.int .i32 1) := by simp [go_sem, hc]
  have hcv := run_convert_to_unsafe (P := Yba.prog) (src := 80) (dst := 30) Yba.underlying80 Yba.underlying30 muLib.room_tIMutex hc'
  have b1 : bits .and .i32 0 5 = 0 := by decide
  have b2 : bits .or .i32 0 1 = 1 := by decide
  have hnot : ∀ (x : Bool) (w : World), (Op.unary .not (.bool x)).run Yba.prog w = .ok (.bool (!x)) w := fun _ _ => rfl
  go_enter Yba.func8, Yba.ntmps8
  go_wp2
  go_ret
  exact ⟨rfl, rfl⟩

set_option maxRecDepth 100000 in
set_option maxHeartbeats 800000 in
/-- '(*sync.Mutex).TryLock', free and nobody waiting (state 0): taken. -/
theorem try_free (a : Addr) (w : World) (hc : w.cell? a = some (.int .i32 0)) (hz : w.frozen? a = false) :
    Calls Yba.prog 5 #[.pointer (some a)] w fun e w' => e = .returned (.bool true) ∧ w' = w.setCell a (.int .i32 1) := by
  go_enter Yba.func5, Yba.ntmps5
  go_wp2_with (go_at_call 8; refine (itry_free a _ hc hz).mono ?_; rintro e w' ⟨rfl, rfl⟩)
  go_ret
  exact ⟨rfl, rfl⟩

/-- The world behind a pair of a lock and its unlock: every cell reads as before. -/
structure Kept (B : Nat) (w w' : World) : Prop where
  cell : ∀ p, w'.cell? p = w.cell? p
  frozen : ∀ p, w'.frozen? p = w.frozen? p
  grown : ∀ W : World, W.heap.size ≤ B → Grown W w → Grown W w'

theorem kept_pair (a : Addr) (w : World) (hc : w.cell? a = some (.int .i32 0)) : Kept a.block w ((w.setCell a (.int .i32 1)).setCell a (.int .i32 0)) := by
  refine ⟨fun p => ?_, fun p => by simp, fun W hW hg => (hg.setCell hW _).setCell hW _⟩
  have h1 : (w.setCell a (.int .i32 1)).cell? a = some (.int .i32 1) := by simp [go_sem, hc]
  by_cases e : a = p
  · subst e
    rw [World.cell?_setCell_same (h := h1), hc]
  · rw [World.cell?_setCell_other (h := e), World.cell?_setCell_other (h := e)]

set_option maxRecDepth 100000 in
set_option maxHeartbeats 800000 in
theorem waiting_any (m t : Nat) (p : Option Addr) (w : World) (h0 : w.cell? ⟨t, 0, none⟩ = some (.pointer (some ⟨m, 0, none⟩))) (h1 : w.cell? ⟨m, 100, none⟩ = some (.int .i32 0)) (f1 : w.frozen? ⟨m, 100, none⟩ = false)
    (h2 : w.cell? ⟨t, 18, none⟩ = some (.pointer p)) (_hne : ¬ t = m) :
    Calls Yba.prog 4 #[.pointer (some ⟨t, 0, none⟩)] w fun e w' => e = .returned (.bool p.isSome) ∧ Kept m w w' := by
  go_enter_defers Yba.func4, Yba.ntmps4
  go_wp2_with (go_at_call 7; refine (lock_free muLib ⟨m, 100, none⟩ _ h1 f1).mono ?_; rintro e w' ⟨rfl, rfl⟩)
  refine leaves_cons (f := 6) (args := #[.pointer (some ⟨m, 100, none⟩)]) (by simp) (by simp [go_sem]) ?_
  refine (unlock_deferred muLib ⟨m, 100, none⟩ .returning _ ?_ ?_).mono ?_
  · exact World.cell?_setCell_same w ⟨m, 100, none⟩ (.int .i32 1) h1
  · simp [f1]
  rintro e u' w'' ⟨rfl, rfl, rfl⟩
  exact ⟨_, results_tmp rfl _ _ _, rfl, kept_pair ⟨m, 100, none⟩ w h1⟩
end Go.Proofs.Ybulkbmgg
