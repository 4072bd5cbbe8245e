import Derived.Test.YbulkbmbkBits
import Derived.Deep.QuietTactic
import Derived.BigQuiet
import Derived.WalkSmall
namespace Go.Proofs.Ybulkbmbk
open Go.RowKit

/-- The words of the slice, in memory below block B. -/
def Words (w : World) (B : Nat) (a0 : Option Addr) (len : Nat) (zs : List Int) : Prop :=
  len = 0 ∨ ∃ wb off, a0 = some ⟨wb, off, none⟩ ∧ wb < B ∧ ∀ j, j < len → w.cell? ⟨wb, off + j, none⟩ = some (.int .u64 (Pl.wd zs len j : Nat))

/-- The source at block b behind k calls, the Rand at block b + 1. -/
structure Src (w : World) (b : Nat) (a0 : Option Addr) (len cap : Nat) (zs : List Int) (k : Nat) : Prop where
  c0 : w.cell? ⟨b, 0, none⟩ = some (.slice a0 len cap)
  c1 : w.cell? ⟨b, 1, none⟩ = some (.int .i64 (k : Nat))
  f1 : w.frozen? ⟨b, 1, none⟩ = false
  r : w.cell? ⟨b + 1, 0, none⟩ = some (.iface 23 (.pointer (some ⟨b, 0, none⟩)))
  ws : Words w b a0 len zs

theorem Src.step {w : World} {b : Nat} {a0 : Option Addr} {len cap : Nat} {zs : List Int} {k : Nat} (h : Src w b a0 len cap zs k) (n : Nat) (v : Int) (hv : v = (k : Int) + 1) :
    Src ((w.drewN n).setCell ⟨b, 1, none⟩ (.int .i64 v)) b a0 len cap zs (k + 1) ∧ Below b w ((w.drewN n).setCell ⟨b, 1, none⟩ (.int .i64 v)) := by
  subst hv
  have hc : (w.drewN n).cell? ⟨b, 1, none⟩ = some (.int .i64 (k : Nat)) := h.c1
  have hb : Below b w ((w.drewN n).setCell ⟨b, 1, none⟩ (.int .i64 ((k : Int) + 1))) := (below_drewN (Below.refl b w) n).setCell (Nat.le_refl _) _
  refine ⟨⟨?_, ?_, ?_, ?_, ?_⟩, hb⟩
  · rw [World.cell?_setCell_other _ _ _ _ (by simp)]; exact h.c0
  · rw [World.cell?_setCell_same (h := hc)]; simp
  · rw [World.frozen?_setCell]; exact h.f1
  · rw [World.cell?_setCell_other _ _ _ _ (by simp)]; exact h.r
  · rcases h.ws with h0 | ⟨wb, off, e, hlt, hw⟩
    · exact .inl h0
    · exact .inr ⟨wb, off, e, hlt, fun j hj => by rw [hb.cell hlt]; exact hw j hj⟩

set_option maxHeartbeats 400000 in
theorem src_any (b len cap k : Nat) (zs : List Int) (a0 : Option Addr) (w : World) (h : Src w b a0 len cap zs k) (hk' : k < 4000) :
    Calls Yba.prog 29 #[.pointer (some ⟨b, 0, none⟩)] w fun e w' => e = .returned (.int .u64 (Pl.wd zs len k : Nat)) ∧ Src w' b a0 len cap zs (k + 1) ∧ Below b w w' := by
  obtain ⟨c0, c1, f1, r, ws⟩ := h
  by_cases hk : k < len
  · rcases ws with h0 | ⟨wb, off, rfl, hlt, hw⟩
    · omega
    have hS : Src w b (some ⟨wb, off, none⟩) len cap zs k := ⟨c0, c1, f1, r, .inr ⟨wb, off, rfl, hlt, hw⟩⟩
    have hwk := hw k hk
    have HS := hS
    clear hw hS
    generalize Pl.wd zs len k = v at *
    go_enter Yba.func29, Yba.ntmps29
    go_wp2
    go_quiet (fail)
    go_wp2
    go_quiet (fail)
    go_wp2
    go_ret
    exact ⟨rfl, HS.step _ _ rfl⟩
  · have hS : Src w b a0 len cap zs k := ⟨c0, c1, f1, r, ws⟩
    have e : Pl.wd zs len k = 18446744073709551615 := by unfold Pl.wd; rw [if_neg hk]
    rw [e]
    clear e ws
    go_enter Yba.func29, Yba.ntmps29
    go_wp2
    go_quiet (fail)
    go_wp2
    go_ret
    exact ⟨rfl, hS.step _ _ rfl⟩

theorem method_src (a : Addr) (w : World) : (method 166 23 (.pointer (some a)) "Uint64").run Yba.prog w = .ok (29, .pointer (some a)) w := by kernel_rfl

theorem test_true (n : Nat) (h0 : 0 < n) (hn : n < 18446744073709551616) (hp : n &&& (n - 1) = 0) : (bits BinOp.and IntKind.u64 (n : Int) ((n : Int) - 1) == 0) = true := by
  have h := maskN n (n - 1) hn (by omega)
  rw [show ((n - 1 : Nat) : Int) = (n : Int) - 1 from by omega, hp] at h
  rw [h]; rfl
theorem test_false (n : Nat) (h0 : 0 < n) (hn : n < 18446744073709551616) (hp : ¬ n &&& (n - 1) = 0) : (bits BinOp.and IntKind.u64 (n : Int) ((n : Int) - 1) == 0) = false := by
  have h := maskN n (n - 1) hn (by omega)
  rw [show ((n - 1 : Nat) : Int) = (n : Int) - 1 from by omega] at h
  rw [h, beq_eq_false_iff_ne]
  omega

theorem wd_lt (zs : List Int) (len k : Nat) (hz : ∀ z ∈ zs, z < 18446744073709551616) : Pl.wd zs len k < 18446744073709551616 := by
  unfold Pl.wd
  split
  · by_cases h : k < zs.length
    · have := hz (zs.getD k 0) (by simp [List.getD, h])
      omega
    · simp [List.getD, h]
  · omega

set_option maxHeartbeats 400000 in
theorem u64n_pow (b len cap n : Nat) (zs : List Int) (a0 : Option Addr) (w : World) (h : Src w b a0 len cap zs 0) (hz : ∀ z ∈ zs, z < 18446744073709551616) (h0 : 0 < n) (hn : n < 18446744073709551616) (hp : n &&& (n - 1) = 0) :
    Calls Yba.prog 11 #[.pointer (some ⟨b + 1, 0, none⟩), .int .u64 n] w fun e w' => e = .returned (.int .u64 ((Pl.wd zs len 0 % n : Nat) : Int)) ∧ Src w' b a0 len cap zs 1 ∧ Below b w w' := by
  have hS := h
  obtain ⟨c0, c1, f1, r, ws⟩ := h
  have ht := test_true n h0 hn hp
  have hv := Pl.mask_mod n (Pl.wd zs len 0) h0 hn hp
  have hl := wd_lt zs len 0 hz
  have hand := maskN (Pl.wd zs len 0) (n - 1) hl (by omega)
  rw [show ((n - 1 : Nat) : Int) = (n : Int) - 1 from by omega, hv] at hand
  clear c0 c1 f1 ws hp hv hz
  have hm := method_src
  have hcall := src_any b len cap 0 zs a0 w hS (by omega)
  generalize Pl.wd zs len 0 = v at *
  have HC := hcall
  clear hcall
  go_enter Yba.func11, Yba.ntmps11
  go_wp2_with (go_at_call 29; refine HC.mono ?_; rintro e w' ⟨rfl, hq⟩)
  go_ret
  exact ⟨rfl, hq⟩

theorem mul_any (x y : Nat) (hx : x < 18446744073709551616) (hy : y < 18446744073709551616) (w : World) :
    Calls Yba.prog 13 #[.int .u64 x, .int .u64 y] w fun e w' => e = .returned (.tuple #[.int .u64 (Pl.hi x y : Nat), .int .u64 (Pl.lo x y : Nat)]) ∧ w' = w := mul_walk x y hx hy w

theorem thresh_int (n : Nat) (h0 : 0 < n) (hn : n < 18446744073709551616) : (IntKind.u64.wrap (-(n : Int))).tmod (n : Int) = (Pl.th n : Nat) := by
  have e : IntKind.u64.wrap (-(n : Int)) = ((18446744073709551616 - n : Nat) : Int) := by rw [IntKind.wrap_u64]; omega
  rw [e, ← Pl.thresh n h0 hn]
  rfl

/-- How many words the source has still to give before all ones (a measure). -/
def left (b len : Nat) (w : World) : Nat := match w.cell? ⟨b, 1, none⟩ with | some (.int _ k) => len + 2 - k.toNat | _ => 0
theorem left_of {w : World} {b : Nat} {a0 : Option Addr} {len cap : Nat} {zs : List Int} {k : Nat} (h : Src w b a0 len cap zs k) : left b len w = len + 2 - k := by
  unfold left; rw [h.c1]; simp

set_option maxHeartbeats 1000000 in
theorem u64n_not (b len cap n : Nat) (zs : List Int) (a0 : Option Addr) (w : World) (h : Src w b a0 len cap zs 0) (hlen : len ≤ 1024) (hz : ∀ z ∈ zs, z < 18446744073709551616) (h0 : 0 < n) (hn : n < 18446744073709551616) (hp : ¬ n &&& (n - 1) = 0) :
    Calls Yba.prog 11 #[.pointer (some ⟨b + 1, 0, none⟩), .int .u64 n] w fun e w' => ∃ j, Pl.First zs len n j ∧ e = .returned (.int .u64 (Pl.hi (Pl.wd zs len j) n : Nat)) ∧ Src w' b a0 len cap zs (j + 1) ∧ Below b w w' := by
  have hS := h
  obtain ⟨c0, c1, f1, r, ws⟩ := h
  have ht := test_false n h0 hn hp
  have hl := fun k => wd_lt zs len k hz
  have hth := thresh_int n h0 hn
  have htl := Pl.th_lt n h0
  have hend := (Pl.ones_word n h0 hn).2
  clear c0 c1 f1 ws hp hz
  have hm := method_src
  have HC := src_any b len cap 0 zs a0 w hS (by omega)
  by_cases hlt : Pl.lo (Pl.wd zs len 0) n < n
  · go_enter Yba.func11, Yba.ntmps11
    go_wp2_with (first | (go_at_call 29; refine HC.mono ?_; rintro e w' ⟨rfl, hq⟩) | (go_at_call 13; refine (mul_any _ _ (hl 0) hn _).mono ?_; rintro e w' ⟨rfl, rfl⟩))
    go_loopw [5, 6] (fun h l wr => ∃ j, j ≤ len ∧ (∀ i, i < j → Pl.lo (Pl.wd zs len i) n < Pl.th n) ∧ h = .int .u64 (Pl.hi (Pl.wd zs len j) n : Nat) ∧ l = .int .u64 (Pl.lo (Pl.wd zs len j) n : Nat) ∧ Src wr b a0 len cap zs (j + 1) ∧ Below b w wr)
      (fun _ _ wr => left b len wr)
    case atStart => exact ⟨0, Nat.zero_le _, fun i hi => absurd hi (Nat.not_lt_zero i), rfl, rfl, hq.1, hq.2⟩
    case round =>
      obtain ⟨j, hj, hbefore, rfl, rfl, hSr, hBr⟩ := hrel
      have hr := hSr.r
      by_cases hc : Pl.lo (Pl.wd zs len j) n < Pl.th n
      · have hj' : j < len := by
          rcases Nat.lt_or_ge j len with g | g
          · exact g
          · rw [Pl.wd_end zs len j g] at hc; omega
        have hb' : ∀ i, i < j + 1 → Pl.lo (Pl.wd zs len i) n < Pl.th n := fun i hi => by
          rcases Nat.lt_succ_iff_lt_or_eq.1 hi with g | g
          · exact hbefore i g
          · subst g; exact hc
        have HCr := src_any b len cap (j + 1) zs a0 wr hSr (by omega)
        go_wp2_with (first | (go_at_call 29; refine HCr.mono ?_; rintro e w2 ⟨rfl, hq2⟩) | (go_at_call 13; refine (mul_any _ _ (hl _) hn _).mono ?_; rintro e w' ⟨rfl, rfl⟩))
        go_roundw
        case rel => exact ⟨j + 1, hj', hb', rfl, rfl, hq2.1, hBr.trans hq2.2⟩
        case measure => rw [left_of hq2.1, left_of hSr]; omega
      · go_wp2_with fail
        go_ret
        exact ⟨j, ⟨hbefore, by omega⟩, rfl, hSr, hBr⟩
  · go_enter Yba.func11, Yba.ntmps11
    go_wp2_with (first | (go_at_call 29; refine HC.mono ?_; rintro e w' ⟨rfl, hq⟩) | (go_at_call 13; refine (mul_any _ _ (hl 0) hn _).mono ?_; rintro e w' ⟨rfl, rfl⟩))
    go_ret
    exact ⟨0, ⟨fun i hi => absurd hi (Nat.not_lt_zero i), by omega⟩, rfl, hq.1, hq.2⟩

theorem u64n_any (b len cap n : Nat) (zs : List Int) (a0 : Option Addr) (w : World) (h : Src w b a0 len cap zs 0) (hlen : len ≤ 1024) (hz : ∀ z ∈ zs, z < 18446744073709551616) (h0 : 0 < n) (hn : n < 18446744073709551616) :
    Calls Yba.prog 11 #[.pointer (some ⟨b + 1, 0, none⟩), .int .u64 n] w fun e w' => ∃ v u : Nat, Pl.Drawn zs len n v u ∧ e = .returned (.int .u64 (v : Nat)) ∧ Src w' b a0 len cap zs u ∧ Below b w w' := by
  by_cases hp : n &&& (n - 1) = 0
  · refine (u64n_pow b len cap n zs a0 w h hz h0 hn hp).mono ?_
    rintro e w' ⟨he, hs, hb⟩
    exact ⟨_, 1, .inl ⟨hp, rfl, rfl⟩, he, hs, hb⟩
  · refine (u64n_not b len cap n zs a0 w h hlen hz h0 hn hp).mono ?_
    rintro e w' ⟨j, hj, he, hs, hb⟩
    exact ⟨_, j + 1, .inr ⟨hp, j, hj, rfl, rfl⟩, he, hs, hb⟩
end Go.Proofs.Ybulkbmbk
