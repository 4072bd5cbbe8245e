/-
  What both cards share: the start that is shown to be there; what the listed variable io.EOF gives; the slice of bytes that came in.
-/
import Derived.Test.YbulkbmguFmtRows
import Derived.ProofKit
import Derived.OpenShut
import Derived.LaidMore
import Derived.Stop.Joined
import Derived.Stop.JoinedTold
import Derived.Stop.LaidErr
import Derived.Stop.LaidTwo
import Derived.Below
namespace Go.Proofs.YbulkbmguFmt
open Go.ChangeShapes Go.WideShapes Go.ChangeAt Go.RowKit
set_option maxRecDepth 100000

theorem own : ownKnob Ybaf.prog.godebug = none := by kernel_rfl
theorem laidOut : laidOutB Ybaf.prog = true := by kernel_rfl

/-- The door's own heap meets the condition. -/
theorem door_met (os : Os) (args : Array Value) : laidMetH Ybaf.prog Rows.lawS3153CVisitsRow.laid ((World.doorLaid Ybaf.prog 221 os).forCall (fun _ _ => 0) ⟨#[], args, []⟩).memory :=
  laidMetH_of_parts3 (fuel := 8) (laidMet_of_run' 8 (by kernel_rfl) (by kernel_rfl)) (by kernel_rfl) (by kernel_rfl)

theorem row75 (u : TypeId) (h : Ybaf.prog.typeName? 3 u = some Ybaf.t75.str) : u = 75 :=
  typeName_ptr_named (nm := "errors.errorString") (by kernel_rfl) (by kernel_rfl) (by decide) u h

theorem gEOF : Ybaf.prog.globalNamed "io.EOF" = some 0 := by kernel_rfl
theorem tEOF : (Ybaf.prog.globals[0]?).map (·.type) = some 34 := by kernel_rfl
theorem cells77 : Ybaf.prog.cellsOf 77 = 1 := by kernel_rfl
theorem cells9 : Ybaf.prog.cellsOf 9 = 1 := by kernel_rfl

/-- The listed variable: it holds a pointer to an errors.errorString, in a block of its own. -/
theorem eof_of {W : World} (hL : laidMetH Ybaf.prog Rows.lawS3153CVisitsRow.laid W) :
    ∃ a : Addr, W.cell? ⟨0, 0, none⟩ = some (.iface 75 (.pointer (some a))) ∧ ∃ c t, W.heap[a.block]? = some (.cells c t (0, 0)) := by
  rw [MakeChecks.laidMetH_plain _ _ _ (by kernel_rfl)] at hL
  obtain ⟨ps, ⟨g0, t0, cs0, f0, p0, q0, hg0, ht0, hv0, hd0, _, e0⟩, _, hrows⟩ := hL
  obtain rfl := Option.some.inj (gEOF.symm.trans hg0)
  obtain rfl := Option.some.inj (tEOF.symm.trans ht0)
  subst e0
  obtain ⟨l0⟩ := cs0
  have ok0 : ∀ u v, l0 = [.iface u v] → Value.okWide Ybaf.prog W .any 0 u v := fun u v e => by
    subst e
    exact (hrows 0 0 (by simp [MemPlace.row])).2 u v (by simpa using World.var?_cell hg0 hv0 0)
  obtain ⟨a0, s0, rfl, hc0, hs0, hz0, rfl⟩ := errorString_of_trod Ybaf.underlying34 row75 Ybaf.underlying75 Ybaf.underlying77 rfl rfl Ybaf.underlying9 cells77 cells9 hd0 ok0
  obtain ⟨c, t, hb⟩ := (hrows a0.block a0.off (by simp [MemPlace.row])).1
  exact ⟨a0, by simpa using World.var?_cell hg0 hv0 0, c, t, hb⟩

/-- A slice of bytes that came in. -/
def IsRow (k : IntKind) (w : World) (a : Option Addr) (len cap : Nat) (zs : List Int) : Prop :=
  (a = none ∧ len = 0 ∧ cap = 0 ∧ zs = []) ∨
  ∃ x, a = some x ∧ len ≤ cap ∧ cap ≤ maxLen ∧ zs.length = cap ∧ (∀ i, i < zs.length → w.cell? (x.add i) = some (.int k (zs.getD i 0))) ∧ ∀ n ∈ zs, (Lit.int k n).wf = true

theorem lt_of_cell {w : World} {a : Addr} {v : Value} (h : w.cell? a = some v) : a.block < w.heap.size := by
  rcases Nat.lt_or_ge a.block w.heap.size with g | g
  · exact g
  · have e : w.heap[a.block]? = none := Array.getElem?_eq_none g
    simp [World.cell?, e] at h

/-- What the walks ask of it. -/
theorem row_bytes {w : World} {a : Option Addr} {len cap : Nat} {zs : List Int} (h : IsRow .u8 w a len cap zs) :
    len ≤ 9223372036854775807 ∧ (∀ i, (zs.getD i 0).toNat < 256) ∧ ∀ i, i < len → ∃ lb off, a = some ⟨lb, off, none⟩ ∧ lb < w.heap.size ∧ w.cell? ⟨lb, off + i, none⟩ = some (.int .u8 (((zs.getD i 0).toNat : Nat) : Int)) := by
  rcases h with ⟨rfl, rfl, rfl, rfl⟩ | ⟨x, rfl, hl, hm, hz, hc, hw⟩
  · exact ⟨by omega, fun i => by simp, fun i hi => absurd hi (Nat.not_lt_zero i)⟩
  · have hr := range_u8 hw
    refine ⟨by unfold maxLen at hm; omega, fun i => ?_, fun i hi => ?_⟩
    · have := hr i
      rw [List.getD_eq_getElem?_getD]
      omega
    · obtain ⟨b, off, rfl, hcell⟩ := ints_at hc (by omega)
      have hb := lt_of_cell (hcell 0 (by omega))
      refine ⟨b, off, rfl, hb, ?_⟩
      rw [hcell i (by omega), List.getD_eq_getElem?_getD, Int.toNat_of_nonneg (hr i).1]
end Go.Proofs.YbulkbmguFmt
