import Derived.Test.YbulkbmbkDraw
namespace Go.Proofs.Ybulkbmbk
open Go.RowKit

theorem thresh_model (n : Nat) (h0 : 1 < n) (hn : n < 18446744073709551616) : (IntKind.u64.wrap (18446744073709551615 % (n : Int) + 1)).tmod (n : Int) = (Pl.th n : Nat) := by
  obtain ⟨h1, h2⟩ := Pl.thresh' n h0 hn
  have e : (18446744073709551615 % (n : Int) + 1) = ((18446744073709551615 % n + 1 : Nat) : Int) := by simp
  rw [e, wrapN _ h1, ← h2]
  rfl

set_option maxHeartbeats 400000 in
theorem model_pow (len cap n B : Nat) (zs : List Int) (a0 : Option Addr) (w : World) (ws : Words w B a0 len zs) (h0 : 0 < n) (hn : n < 18446744073709551616) (hp : n &&& (n - 1) = 0) :
    Calls Yba.prog 8 #[.slice a0 len cap, .int .u64 n] w fun e w' => e = .returned (.tuple #[.int .u64 ((Pl.wd zs len 0 % n : Nat) : Int), .int .i64 1]) ∧ w' = w := by
  have h1 := (Pl.one_bit n h0 hn).2 hp
  have HO := ones_walk n hn
  generalize Pl.pc 64 n = P at *
  have hP : ((P : Int) == 1) = true := by subst h1; rfl
  clear h1 hp
  by_cases hl : 0 < len
  · rcases ws with e | ⟨wb, off, rfl, hlt, hw⟩
    · omega
    have hw0 : w.cell? ⟨wb, off, none⟩ = some (.int .u64 (Pl.wd zs len 0 : Nat)) := hw 0 hl
    clear hw
    generalize Pl.wd zs len 0 = v at *
    go_enter Yba.func8, Yba.ntmps8
    go_wp2_with (go_at_call 12; refine (HO _).mono ?_; rintro e w' ⟨rfl, rfl⟩)
    go_ret2
    exact ⟨by simp, rfl⟩
  · have e := Pl.wd_end zs len 0 (by omega)
    rw [e]
    clear e
    go_enter Yba.func8, Yba.ntmps8
    go_wp2_with (go_at_call 12; refine (HO _).mono ?_; rintro e w' ⟨rfl, rfl⟩)
    go_ret2
    exact ⟨by simp, rfl⟩

set_option maxHeartbeats 800000 in
theorem model_not (len cap n B : Nat) (zs : List Int) (a0 : Option Addr) (w : World) (ws : Words w B a0 len zs) (hlen : len ≤ 1024) (hz : ∀ z ∈ zs, z < 18446744073709551616) (h0 : 0 < n) (hn : n < 18446744073709551616) (hp : ¬ n &&& (n - 1) = 0) :
    Calls Yba.prog 8 #[.slice a0 len cap, .int .u64 n] w fun e w' => ∃ j, Pl.First zs len n j ∧ e = .returned (.tuple #[.int .u64 (Pl.hi (Pl.wd zs len j) n : Nat), .int .i64 (j + 1 : Nat)]) ∧ w' = w := by
  have h1 : ¬ Pl.pc 64 n = 1 := fun h => hp ((Pl.one_bit n h0 hn).1 h)
  have hn1 : 1 < n := by
    rcases Nat.lt_or_ge 1 n with g | g
    · exact g
    · obtain rfl : n = 1 := by omega
      exact absurd rfl hp
  have HO := ones_walk n hn
  generalize Pl.pc 64 n = P at *
  have hP : ((P : Int) == 1) = false := by rw [beq_eq_false_iff_ne]; omega
  have hl := fun k => wd_lt zs len k hz
  have hth := thresh_model n hn1 hn
  obtain ⟨o1, o2⟩ := Pl.ones_word n h0 hn
  have O1 : Hid (Pl.hi 18446744073709551615 n = n - 1) := o1
  clear h1 hp o1 hz
  go_enter Yba.func8, Yba.ntmps8
  go_wp2_with (go_at_call 12; refine (HO _).mono ?_; rintro e w' ⟨rfl, rfl⟩)
  go_loop [8, 9, 10] (fun i _ _ => ∃ k : Nat, k ≤ len ∧ i = .int .i64 k ∧ ∀ i, i < k → Pl.lo (Pl.wd zs len i) n < Pl.th n) (fun i _ _ => len - (intOf i).toNat)
  case atStart => exact ⟨0, Nat.zero_le _, rfl, fun i hi => absurd hi (Nat.not_lt_zero i)⟩
  case round =>
    obtain ⟨k, hk, rfl, hbefore⟩ := hrel
    by_cases hlt : k < len
    · rcases ws with e | ⟨wb, off, rfl, hB, hw⟩
      · omega
      have hwk := hw k hlt
      clear hw
      by_cases hc : Pl.lo (Pl.wd zs len k) n < Pl.th n
      · have hb' : ∀ i, i < k + 1 → Pl.lo (Pl.wd zs len i) n < Pl.th n := fun i hi => by
          rcases Nat.lt_succ_iff_lt_or_eq.1 hi with g | g
          · exact hbefore i g
          · subst g; exact hc
        go_wp2_with (go_at_call 13; refine (mul_any _ _ (hl _) hn _).mono ?_; rintro e w' ⟨rfl, rfl⟩)
        go_round
        case rel => exact ⟨k + 1, hlt, by go_num, hb'⟩
        case measure => simp [intOf]; omega
      · go_wp2_with (go_at_call 13; refine (mul_any _ _ (hl _) hn _).mono ?_; rintro e w' ⟨rfl, rfl⟩)
        go_ret2
        exact ⟨k, ⟨hbefore, by omega⟩, by simp, rfl⟩
    · have e := Pl.wd_end zs len k (by omega)
      go_wp2_with fail
      go_ret2
      refine ⟨k, ⟨hbefore, by rw [e]; exact o2⟩, ?_, rfl⟩
      rw [e, O1.out, show ((n - 1 : Nat) : Int) = (n : Int) - 1 from by omega, show k = len from by omega]
      simp

theorem model_any (len cap n B : Nat) (zs : List Int) (a0 : Option Addr) (w : World) (ws : Words w B a0 len zs) (hlen : len ≤ 1024) (hz : ∀ z ∈ zs, z < 18446744073709551616) (h0 : 0 < n) (hn : n < 18446744073709551616) :
    Calls Yba.prog 8 #[.slice a0 len cap, .int .u64 n] w fun e w' => ∃ v u : Nat, Pl.Drawn zs len n v u ∧ e = .returned (.tuple #[.int .u64 (v : Nat), .int .i64 (u : Nat)]) ∧ w' = w := by
  by_cases hp : n &&& (n - 1) = 0
  · refine (model_pow len cap n B zs a0 w ws h0 hn hp).mono ?_
    rintro e w' ⟨he, hw⟩
    exact ⟨_, 1, .inl ⟨hp, rfl, rfl⟩, he, hw⟩
  · refine (model_not len cap n B zs a0 w ws hlen hz h0 hn hp).mono ?_
    rintro e w' ⟨j, hj, he, hw⟩
    exact ⟨_, j + 1, .inr ⟨hp, j, hj, rfl, rfl⟩, he, hw⟩
end Go.Proofs.Ybulkbmbk
