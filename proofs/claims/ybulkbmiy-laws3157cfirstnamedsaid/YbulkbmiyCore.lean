/-
  The law LawS3157CFirstNamed itself.
-/
import Derived.Test.YbulkbmiyParts
import Derived.Deep.DeepCutAuto
import Derived.BigQuiet
import Derived.Deep.CutBlock
namespace Go.Proofs.Ybulkbmiy
open Go.RowKit
set_option maxRecDepth 100000

set_option maxHeartbeats 1600000 in
theorem law_core (a0 : Option Addr) (n cap0 : Nat) (a1 : Option Addr) (m cap1 : Nat) (q : ByteArray) (sel : Nat) (nm um : Nat → ByteArray) (w : World) (hn : n ≤ 1024) (hm : m ≤ 1024) (hsel : sel < 256)
    (s0 : Strs w w.heap.size a0 n nm) (s1 : Strs w w.heap.size a1 m um) :
    Calls Yba.prog 3 #[.slice a0 n cap0, .slice a1 m cap1, .string q, .int .u8 sel] w fun e w' => e = .returned (.bool true) ∧ Below w.heap.size w w' := by
  have hmk := make_row n (by omega)
  have hmk1 : ∀ w, (Instr.makeSlice 23 (.int .i64 ((m : Int) + 1)) (.int .i64 ((m : Int) + 1))).run Yba.prog w = .ok (.slice (some ⟨w.heap.size, 0, none⟩) (m + 1) (m + 1)) (w.alloc (.cells (madeCells #[.pointer none] (m + 1)) 24)) := fun w => make_row (m + 1) (by omega) w
  go_enter Yba.func3, Yba.ntmps3
  go_upto_region 4 with fail
  go_cut [35] (fun s wx => s = .bool (decide (0 < n ∧ sel % 2 = 0)) ∧ w = wx)
  case first =>
    have h2 : (sel : Int) % 2 = ((sel % 2 : Nat) : Int) := by omega
    by_cases hpos : 0 < n
    · by_cases hev : sel % 2 = 0
      · rw [hev] at h2
        go_wp2_with fail
        go_meet
        exact ⟨by simp [hpos, hev], rfl⟩
      · have hodd : sel % 2 = 1 := by omega
        rw [hodd] at h2
        go_wp2_with fail
        go_meet
        exact ⟨by simp [hodd], rfl⟩
    · obtain rfl : n = 0 := by omega
      go_wp2_with fail
      go_meet
      exact ⟨by simp, rfl⟩
  case rest =>
  obtain ⟨rfl, rfl⟩ := hcut
  go_upto_if 35 with fail
  go_cut [9] (fun s wx => ∃ query, s = .string query ∧ w = wx)
  case first =>
    by_cases hif : 0 < n ∧ sel % 2 = 0
    · have hdec : decide (0 < n ∧ sel % 2 = 0) = true := decide_eq_true hif
      rw [hdec]
      obtain ⟨hpos, hev⟩ := hif
      clear hdec
      have h3 : (sel : Int).tdiv 2 = ((sel / 2 : Nat) : Int) := by rw [Int.tdiv_eq_ediv_of_nonneg (by omega)]; omega
      have h3' : (sel : Int) / 2 = ((sel / 2 : Nat) : Int) := by omega
      have hk : sel / 2 % n < n := Nat.mod_lt _ hpos
      have h4 : ((sel / 2 : Nat) : Int) % (n : Int) = ((sel / 2 % n : Nat) : Int) := by simp
      have hs2 : sel / 2 < 128 := by omega
      obtain ⟨lb, off, rfl, hlb, hc⟩ := s0 _ hk
      clear hev
      generalize sel / 2 % n = k at *
      generalize sel / 2 = s2 at *
      go_wp2_with fail
      go_meet
      exact ⟨_, rfl, rfl⟩
    · have hdec : decide (0 < n ∧ sel % 2 = 0) = false := decide_eq_false hif
      rw [hdec]
      go_wp2_with fail
      go_meet
      exact ⟨_, rfl, rfl⟩
  case rest =>
  obtain ⟨query, rfl, rfl⟩ := hcut
  go_wp2_with fail
  go_loopw [11] (fun i wr => ∃ k : Nat, k ≤ n ∧ i = .int .i64 k ∧ wr.heap.size = w.heap.size + 1 + k ∧ PS wr w.heap.size n nm k ∧ Below w.heap.size w wr) (fun i _ => n - (intOf i).toNat)
  case atStart => exact ⟨0, Nat.zero_le _, rfl, by simp, PS.start w n nm, (Below.refl _ _).alloc (Nat.le_refl _) _⟩
  case round =>
    obtain ⟨k, hk, rfl, hsz, hP, hb⟩ := hrel
    by_cases hlt : k < n
    · obtain ⟨lb, off, rfl, hlb, hc⟩ := s0.kept hb k hlt
      obtain ⟨cs, g1, g2, g3, g4⟩ := hP.row
      obtain ⟨u, hu⟩ := g4 k hlt
      have r1 := (cell_at g1 k).trans hu
      have r2 := free_at g1 k
      clear g1 g2 g3 g4 hu
      have hG : w.heap.size < wr.heap.size := by omega
      have hH : Hid (wr.heap.size = w.heap.size + 1 + k) := hsz
      clear hsz
      go_wp2_with fail
      go_roundw
      case rel => exact ⟨k + 1, hlt, by go_num, by have h : wr.heap.size = w.heap.size + 1 + k := hH; simp [World.setCell, h]; omega, hP.step hH hlt, (hb.setCell (p := ⟨w.heap.size, k, none⟩) (Nat.le_refl _) _).alloc (by have := hb.size; simpa [World.setCell] using this) _⟩
      case measure => simp [intOf]; omega
    · obtain rfl : k = n := by omega
      have hG : w.heap.size < wr.heap.size := by omega
      have hH : Hid (wr.heap.size = w.heap.size + 1 + k) := hsz
      clear hsz hmk
      rename World => w1
      go_wp2_with fail
      generalize hU : w1.heap.size = U at *
      go_loopw [13] (fun i wx => ∃ t : Nat, t ≤ m ∧ i = .int .i64 t ∧ U < wx.heap.size ∧ Row wx U (m + 1) ∧ Below U w1 wx) (fun i _ => m - (intOf i).toNat)
      case atStart => exact ⟨0, Nat.zero_le _, rfl, by simp [hU], by have := Row.start w1 (m + 1); rw [hU] at this; exact this, by subst hU; exact (Below.refl _ _).alloc (Nat.le_refl _) _⟩
      case round =>
        obtain ⟨t, ht, rfl, hUx, hR, hbx⟩ := hrel
        have hbw := hb.trans (hbx.mono (Nat.le_of_lt hG))
        by_cases hlt2 : t < m
        · obtain ⟨lb, off, rfl, hlb, hc⟩ := s1.kept hbw t hlt2
          have hR' := hR
          obtain ⟨cs, g1, g2, g4⟩ := hR'
          obtain ⟨u, hu⟩ := g4 t (by omega)
          have r1 := (cell_at g1 t).trans hu
          have r2 := free_at g1 t
          clear g1 g2 g4 hu
          go_wp2_with fail
          go_roundw
          case rel =>
            have z : U < (wr.setCell ⟨U, t, none⟩ (.pointer (some ⟨wr.heap.size, 0, none⟩))).heap.size := by simpa [World.setCell] using hUx
            exact ⟨t + 1, hlt2, by go_num, by have := z; simp at this ⊢; omega, (hR.set t _).kept ((Below.refl _ _).alloc (Nat.le_refl _) _) z, (hbx.setCell (p := ⟨U, t, none⟩) (Nat.le_refl _) _).alloc (Nat.le_of_lt z) _⟩
          case measure => simp [intOf]; omega
        · obtain rfl : t = m := by omega
          have hR' := hR
          obtain ⟨cs, g1, g2, g4⟩ := hR'
          obtain ⟨u, hu⟩ := g4 t (by omega)
          have r1 := (cell_at g1 t).trans hu
          have r2 := free_at g1 t
          clear g1 g2 g4 hu hmk1 s1
          go_wp2_with fail
          have bW := ((hbx.setCell (p := ⟨U, t, none⟩) (Nat.le_refl _) (.pointer (some ⟨wr.heap.size, 0, none⟩))).alloc (by simp [World.setCell]; omega) (.cells #[.string query, .int .i64 0, .int .i64 0, .nilIface] 30)).alloc (by simp [World.setCell]; omega) (.cells #[.int .i64 1, .int .i64 1, .slice (some ⟨w.heap.size, 0, none⟩) k k, .slice (some ⟨U, 0, none⟩) (t + 1) (t + 1)] 33)
          have hM := alloc_at ((wr.setCell ⟨U, t, none⟩ (.pointer (some ⟨wr.heap.size, 0, none⟩))).alloc (.cells #[.string query, .int .i64 0, .int .i64 0, .nilIface] 30)) #[.int .i64 1, .int .i64 1, .slice (some ⟨w.heap.size, 0, none⟩) k k, .slice (some ⟨U, 0, none⟩) (t + 1) (t + 1)] 33
          rw [show ((wr.setCell ⟨U, t, none⟩ (.pointer (some ⟨wr.heap.size, 0, none⟩))).alloc (.cells #[.string query, .int .i64 0, .int .i64 0, .nilIface] 30)).heap.size = wr.heap.size + 1 from by simp [World.setCell]] at hM
          generalize World.alloc (World.alloc (World.setCell wr _ _) _) _ = W at *
          have hPW := hP.kept bW (by have h : U = w.heap.size + 1 + k := hH; omega)
          have belW := hb.trans (bW.mono (Nat.le_of_lt hG))
          have sW := s0.kept belW
          have c2 := cell_at hM 2
          have c3 := cell_at hM 3
          simp at c2 c3
          refine (get_any W _ w.heap.size k _ nm query hPW hM hn).mono ?_
          rintro e w2 ⟨rfl, v, rfl, hv⟩
          clear r1 r2 hR hbx hM bW hbw
          generalize wr.heap.size + 1 = M at *
          go_upto_block 4 with fail
          go_cut [16] (fun s wx => ∃ u, s = .pointer u ∧ First w.heap.size k nm query u ∧ w2 = wx)
          case first =>
            go_wp2_with fail
            go_loopw [16, 17] (fun s i wx => ∃ j : Nat, j ≤ k ∧ i = .int .i64 j ∧ s = .pointer none ∧ w2 = wx ∧ ∀ t, t < j → ((nm t).toList == query.toList) = false) (fun _ i _ => k - (intOf i).toNat)
            case atStart => exact ⟨0, Nat.zero_le _, rfl, rfl, rfl, fun t ht => absurd ht (Nat.not_lt_zero t)⟩
            case round =>
              obtain ⟨j, hj, rfl, rfl, rfl, hno⟩ := hrel
              by_cases hlt3 : j < k
              · obtain ⟨p1, p2, p3⟩ := hPW.at j hlt3
                cases hq : ((nm j).toList == query.toList)
                · go_wp2_with fail
                  go_roundw
                  case rel => exact ⟨j + 1, hlt3, by go_num, rfl, trivial, fun t ht => by
                    by_cases e : t = j
                    · rw [e]; exact hq
                    · exact hno t (by omega)⟩
                  case measure => simp [intOf]; omega
                · go_wp2_with fail
                  go_meet
                  exact ⟨_, rfl, .inl ⟨j, hlt3, hq, hno, rfl⟩, rfl⟩
              · go_wp2_with fail
                go_meet
                exact ⟨_, rfl, .inr ⟨fun t ht => hno t (by omega), rfl⟩, rfl⟩
          case rest =>
            obtain ⟨u, rfl, hu, rfl⟩ := hcut
            obtain rfl := First.unique hv hu
            have hq := neq24
            go_wp2_with fail
            go_loopw [18] (fun i wx => ∃ j : Nat, j ≤ k ∧ i = .int .i64 j ∧ Below w.heap.size w wx ∧ w2.heap = wx.heap) (fun i _ => k - (intOf i).toNat)
            case atStart => exact ⟨0, Nat.zero_le _, rfl, belW, rfl⟩
            case round =>
              obtain ⟨j, hj, rfl, hbj, hhe⟩ := hrel
              by_cases hlt3 : j < k
              · have hPj : PS wr w.heap.size k nm k := ⟨by rw [← hhe]; exact hPW.row, by rw [← hhe]; exact hPW.prop⟩
                obtain ⟨p1, p2, p3⟩ := hPj.at j hlt3
                obtain ⟨lb, off, rfl, hlb, hc⟩ := s0.kept hbj j hlt3
                have d2 : wr.cell? ⟨M, 2, none⟩ = some (.slice (some ⟨w.heap.size, 0, none⟩) k k) := by rw [World.cell?_of_block (w := w2) (by rw [hhe])]; exact c2
                have hss : ((nm j).toList == (nm j).toList) = true := by simp
                go_wp2_with fail
                go_quiet (fail)
                go_wp2_with fail
                go_roundw
                case rel => exact ⟨j + 1, hlt3, by go_num, ⟨hbj.os, hbj.tape, hbj.output, hbj.size, hbj.block⟩, hhe⟩
                case measure => simp [intOf]; omega
              · go_wp2_with fail
                go_ret
                exact ⟨rfl, hbj⟩

set_option maxHeartbeats 400000 in
theorem law_long (a0 : Option Addr) (n cap0 : Nat) (a1 : Option Addr) (m cap1 : Nat) (q : ByteArray) (sel : Nat) (w : World) (h : 1024 < n ∨ 1024 < m) (_hn : n ≤ 9223372036854775807) (_hm : m ≤ 9223372036854775807) :
    Calls Yba.prog 3 #[.slice a0 n cap0, .slice a1 m cap1, .string q, .int .u8 sel] w fun e w' => e = .returned (.bool true) ∧ Below w.heap.size w w' := by
  by_cases h1 : 1024 < n
  · clear h
    go_enter Yba.func3, Yba.ntmps3
    go_wp2_with fail
    go_ret
    exact ⟨rfl, Below.refl _ _⟩
  · have h2 : 1024 < m := by rcases h with h | h; exact absurd h h1; exact h
    clear h
    go_enter Yba.func3, Yba.ntmps3
    go_wp2_with fail
    go_ret
    exact ⟨rfl, Below.refl _ _⟩
end Go.Proofs.Ybulkbmiy
