import Derived.Test.YbulkbmguFmtRows
import Derived.WalkKit
import Derived.WalkSpells
import Derived.Deep.OwnRows
import Derived.WalkSmall
namespace Go.Proofs.YbulkbmguFmt
open Go.RowKit
set_option maxRecDepth 100000

/-- n bytes, each v, from address a on, in a block from 'lo' on. -/
def Bytes (w : World) (lo : Nat) (a : Option Addr) (n : Nat) (v : Int) : Prop :=
  ∃ b off, a = some ⟨b, off, none⟩ ∧ lo ≤ b ∧ b < w.heap.size ∧ ∀ j, j < n → w.cell? ⟨b, off + j, none⟩ = some (.int .u8 v)

theorem info5 : (Ybaf.prog.info? 5).map (fun i => (i.zero, i.size, i.bytes)) = some (some (.int .u8 0), 1, 1) := by kernel_rfl
theorem make_bytes (n : Nat) (hn : n ≤ 255) (w : World) :
    (Instr.makeSlice 25 (.int .i64 (n : Int)) (.int .i64 (n : Int))).run Ybaf.prog w = .ok (.slice (some ⟨w.heap.size, 0, none⟩) n n) (w.alloc (.cells (madeCells #[.int .u8 0] n) 5)) :=
  run_make_row' 25 5 (.int .u8 0) 1 Ybaf.underlying25 info5 rfl .i64 .i64 n (by omega) (by omega) w

/-- Cell j of the row at block B: a byte, v where j < k. -/
def Filled (w : World) (B n k : Nat) (v : Int) : Prop :=
  B < w.heap.size ∧ (∀ j, j < n → ∃ u, w.cell? ⟨B, j, none⟩ = some (.int .u8 u) ∧ (j < k → u = v)) ∧ ∀ j, w.frozen? ⟨B, j, none⟩ = false

theorem filled_start (w : World) (n : Nat) (v : Int) : Filled (w.alloc (.cells (madeCells #[.int .u8 0] n) 5)) w.heap.size n 0 v := by
  refine ⟨by simp, fun j hj => ⟨0, ?_, fun h => absurd h (Nat.not_lt_zero j)⟩, fun j => by simp⟩
  simp [madeCells, hj, Nat.mod_one]

theorem Filled.step {w : World} {B n k : Nat} {v : Int} (h : Filled w B n k v) (hk : k < n) : Filled (w.setCell ⟨B, k, none⟩ (.int .u8 v)) B n (k + 1) v := by
  obtain ⟨h0, h1, h2⟩ := h
  refine ⟨by simpa [World.setCell] using h0, fun j hj => ?_, fun j => by rw [World.frozen?_setCell]; exact h2 j⟩
  obtain ⟨u, hu, hv⟩ := h1 j hj
  by_cases e : j = k
  · subst e
    exact ⟨v, World.cell?_setCell_same _ _ _ hu, fun _ => rfl⟩
  · refine ⟨u, ?_, fun hl => hv (by omega)⟩
    rw [World.cell?_setCell_other (h := fun hh => e (congrArg Addr.off hh).symm)]
    exact hu

set_option maxHeartbeats 400000 in
theorem data_any (k l : Nat) (w : World) (_hk : k ≤ 1024) (_hl : l < 256) :
    Calls Ybaf.prog 13 #[.int .i64 k, .int .u8 l] w fun e w' => ∃ a, e = .returned (.slice a (l % 8) (l % 8)) ∧ Bytes w' w.heap.size a (l % 8) ((k % 256 : Nat) : Int) ∧ Below w.heap.size w w' := by
  have hr : (l : Int) % 8 = ((l % 8 : Nat) : Int) := by omega
  have hmk := make_bytes (l % 8) (by omega)
  have hn : l % 8 < 8 := by omega
  have hk8 : IntKind.u8.wrap (k : Int) = ((k % 256 : Nat) : Int) := by rw [IntKind.wrap_u8]; omega
  generalize l % 8 = n at *
  generalize k % 256 = v at *
  go_enter Ybaf.func13, Ybaf.ntmps13
  go_wp2
  go_loopw [6, 13] (fun _ i wr => ∃ k : Nat, k ≤ n ∧ i = .int .i64 k ∧ Filled wr w.heap.size n k v ∧ Below w.heap.size w wr) (fun _ i _ => n - (intOf i).toNat)
  case atStart => exact ⟨0, Nat.zero_le _, rfl, filled_start w n v, (Below.refl _ _).alloc (Nat.le_refl _) _⟩
  case round =>
    obtain ⟨i, hi, rfl, hf, hb⟩ := hrel
    by_cases hlt : i < n
    · obtain ⟨u, hu, _⟩ := hf.2.1 i hlt
      have hz := hf.2.2 i
      go_wp2
      go_roundw
      case rel => exact ⟨i + 1, hlt, by go_num, hf.step hlt, hb.setCell (Nat.le_refl _) _⟩
      case measure => simp [intOf]; omega
    · go_wp2
      go_ret
      refine ⟨_, rfl, ⟨w.heap.size, 0, rfl, Nat.le_refl _, hf.1, fun j hj => ?_⟩, hb⟩
      obtain ⟨u, hu, hv⟩ := hf.2.1 j hj
      rw [Nat.zero_add, hu, hv (by omega)]

set_option maxHeartbeats 400000 in
theorem good_any (lo i l : Nat) (lt : Int) (a : Option Addr) (w : World) (_hi : i ≤ 1024) (_hl : l < 256) (hb : Bytes w lo a (l % 8) ((i % 256 : Nat) : Int)) :
    Calls Ybaf.prog 16 #[.agg #[.int .u64 0, .int .i64 0, .pointer none, .int .u16 lt, .slice a (l % 8) (l % 8), .int .i64 i, .bool false], .int .i64 i, .int .u8 l] w fun e w' =>
      e = .returned (.bool true) ∧ w' = w.alloc (.cells #[.int .u64 0, .int .i64 0, .pointer none, .int .u16 lt, .slice a (l % 8) (l % 8), .int .i64 i, .bool false] 50) := by
  have hr : (l : Int) % 8 = ((l % 8 : Nat) : Int) := by omega
  have hn : l % 8 < 8 := by omega
  have hk8 : IntKind.u8.wrap (i : Int) = ((i % 256 : Nat) : Int) := by rw [IntKind.wrap_u8]; omega
  generalize l % 8 = n at *
  generalize i % 256 = v at *
  obtain ⟨b, off, rfl, hlo, hlt, hc⟩ := hb
  go_enter Ybaf.func16, Ybaf.ntmps16
  go_wp2
  go_loop [8, 29] (fun _ q => ∃ k : Nat, k ≤ n ∧ q = .int .i64 k) (fun _ q => n - (intOf q).toNat)
  case atStart => exact ⟨0, Nat.zero_le _, rfl⟩
  case round =>
    obtain ⟨k, hk, rfl⟩ := hrel
    by_cases hkn : k < n
    · have hck := hc k hkn
      go_wp2
      go_round
      case rel => exact ⟨k + 1, hkn, by go_num⟩
      case measure => simp [intOf]; omega
    · go_wp2
      go_ret
      exact ⟨rfl, rfl⟩
end Go.Proofs.YbulkbmguFmt
