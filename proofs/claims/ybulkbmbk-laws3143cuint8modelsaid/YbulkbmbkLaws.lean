import Derived.Test.YbulkbmbkModel
import Derived.ProofKit
import Derived.OpenShut
import Derived.Below
namespace Go.Proofs.Ybulkbmbk
open Go.ChangeShapes Go.WideShapes Go.ChangeAt Go.RowKit

theorem lt_of_cell {w : World} {a : Addr} {v : Value} (h : w.cell? a = some v) : a.block < w.heap.size := by
  rcases Nat.lt_or_ge a.block w.heap.size with g | g
  · exact g
  · have e : w.heap[a.block]? = none := Array.getElem?_eq_none g
    simp [World.cell?, e] at h

theorem words_nil (w : World) (z0 : List Int) : Words w w.heap.size none 0 z0 := .inl rfl

theorem words_some (w : World) (x : Addr) (len cap : Nat) (zs : List Int) (hl : len ≤ cap) (hz : zs.length = cap) (hc : ∀ i, i < zs.length → w.cell? (x.add i) = some (.int .u64 (zs.getD i 0)))
    (hw : ∀ n ∈ zs, (Lit.int .u64 n).wf = true) : Words w w.heap.size (some x) len zs := by
  by_cases h0 : len = 0
  · exact .inl h0
  obtain ⟨b, off, rfl, hcell⟩ := ints_at hc (by omega)
  have hb := lt_of_cell (hcell 0 (by omega))
  refine .inr ⟨b, off, rfl, hb, fun j hj => ?_⟩
  rw [hcell j (by omega)]
  have hr := (range_u64 hw j).1
  unfold Pl.wd
  rw [if_pos hj, List.getD_eq_getElem?_getD, Int.toNat_of_nonneg hr]

theorem lt_words (zs : List Int) (hw : ∀ n ∈ zs, (Lit.int .u64 n).wf = true) : ∀ z ∈ zs, z < 18446744073709551616 := fun z hz => by
  have := (bounds_u64 (hw z hz)).2
  omega

theorem src_start (w : World) (a0 : Option Addr) (len cap : Nat) (zs : List Int) (hw : Words w w.heap.size a0 len zs) :
    Src ((w.alloc (.cells #[.slice a0 len cap, .int .i64 0] 25)).alloc (.cells #[.iface 23 (.pointer (some ⟨w.heap.size, 0, none⟩))] 40)) w.heap.size a0 len cap zs 0 ∧
    Below w.heap.size w ((w.alloc (.cells #[.slice a0 len cap, .int .i64 0] 25)).alloc (.cells #[.iface 23 (.pointer (some ⟨w.heap.size, 0, none⟩))] 40)) := by
  have hb : Below w.heap.size w ((w.alloc (.cells #[.slice a0 len cap, .int .i64 0] 25)).alloc (.cells #[.iface 23 (.pointer (some ⟨w.heap.size, 0, none⟩))] 40)) :=
    ((Below.refl _ _).alloc (Nat.le_refl _) _).alloc (by simp) _
  refine ⟨⟨by simp, by simp, by simp, by simp, ?_⟩, hb⟩
  rcases hw with h0 | ⟨wb, off, e, hlt, hc⟩
  · exact .inl h0
  · exact .inr ⟨wb, off, e, hlt, fun j hj => by rw [hb.cell hlt]; exact hc j hj⟩

set_option maxHeartbeats 400000 in
theorem randU64_any (b len cap n : Nat) (zs : List Int) (a0 : Option Addr) (w : World) (h : Src w b a0 len cap zs 0) (hlen : len ≤ 1024) (hz : ∀ z ∈ zs, z < 18446744073709551616) (h0 : 0 < n) (hn : n < 18446744073709551616) :
    Calls Yba.prog 10 #[.pointer (some ⟨b + 1, 0, none⟩), .int .u64 n] w fun e w' => ∃ v u : Nat, Pl.Drawn zs len n v u ∧ e = .returned (.int .u64 (v : Nat)) ∧ Src w' b a0 len cap zs u ∧ Below b w w' := by
  have HU := u64n_any b len cap n zs a0 w h hlen hz h0 hn
  clear h hz
  go_enter Yba.func10, Yba.ntmps10
  go_wp2_with (go_at_call 11; refine HU.mono ?_; rintro e w' ⟨v, u, hd, rfl, hs, hb⟩)
  go_ret
  exact ⟨v, u, hd, rfl, hs, hb⟩

set_option maxHeartbeats 400000 in
theorem randI64_any (b len cap n : Nat) (zs : List Int) (a0 : Option Addr) (w : World) (h : Src w b a0 len cap zs 0) (hlen : len ≤ 1024) (hz : ∀ z ∈ zs, z < 18446744073709551616) (h0 : 0 < n) (hn : n < 9223372036854775808) :
    Calls Yba.prog 7 #[.pointer (some ⟨b + 1, 0, none⟩), .int .i64 n] w fun e w' => ∃ v u : Nat, Pl.Drawn zs len n v u ∧ e = .returned (.int .i64 (v : Nat)) ∧ Src w' b a0 len cap zs u ∧ Below b w w' := by
  have HU := u64n_any b len cap n zs a0 w h hlen hz h0 (by omega)
  have hwd := fun k => wd_lt zs len k hz
  clear h hz
  go_enter Yba.func7, Yba.ntmps7
  go_wp2_with (go_at_call 11; refine HU.mono ?_; rintro e w' ⟨v, u, hd, rfl, hs, hb⟩; have hv := hd.lt h0 hwd)
  go_ret
  exact ⟨v, u, hd, rfl, hs, hb⟩

set_option maxHeartbeats 400000 in
theorem randU8_any (b len cap n : Nat) (zs : List Int) (a0 : Option Addr) (w : World) (h : Src w b a0 len cap zs 0) (hlen : len ≤ 1024) (hz : ∀ z ∈ zs, z < 18446744073709551616) (h0 : 0 < n) (hn : n < 256) :
    Calls Yba.prog 9 #[.pointer (some ⟨b + 1, 0, none⟩), .int .u8 n] w fun e w' => ∃ v u : Nat, Pl.Drawn zs len n v u ∧ e = .returned (.int .u8 (v : Nat)) ∧ Src w' b a0 len cap zs u ∧ Below b w w' := by
  have HU := u64n_any b len cap n zs a0 w h hlen hz h0 (by omega)
  have hwd := fun k => wd_lt zs len k hz
  clear h hz
  go_enter Yba.func9, Yba.ntmps9
  go_wp2_with (go_at_call 11; refine HU.mono ?_; rintro e w' ⟨v, u, hd, rfl, hs, hb⟩; have hv := hd.lt h0 hwd)
  go_ret
  exact ⟨v, u, hd, rfl, hs, hb⟩

set_option maxHeartbeats 1000000 in
theorem lawU64_core (a0 : Option Addr) (len cap n : Nat) (a1 : Int) (zs : List Int) (w : World) (ws : Words w w.heap.size a0 len zs) (hlen : len ≤ 1024) (hz : ∀ z ∈ zs, z < 18446744073709551616) (h0 : 0 < n) (hn' : n < 18446744073709551616) (hn : (a1 = 0 ∧ n = 1) ∨ (a1 = n)) :
    Calls Yba.prog 5 #[.slice a0 len cap, .int .u64 a1] w fun e w' => e = .returned (.bool true) ∧ Below w.heap.size w w' := by
  obtain ⟨hS, hB⟩ := src_start w a0 len cap zs ws
  have hwd := fun k => wd_lt zs len k hz
  have HR := randU64_any _ len cap n zs a0 _ hS hlen hz h0 hn'
  have HM := fun w' (hw : Words w' w.heap.size a0 len zs) => model_any len cap n w.heap.size zs a0 w' hw hlen hz h0 (by omega)
  clear ws hS hz
  rcases hn with ⟨rfl, rfl⟩ | rfl
  · go_enter Yba.func5, Yba.ntmps5
    go_wp2_with (first | (go_at_call 6; go_in) | (go_at_call 10; refine HR.mono ?_; rintro e w' ⟨v, u, hd, rfl, hs, hb⟩; have hv := hd.lt h0 hwd; have k1 := hs.c1) | (go_at_call 8; refine (HM _ hs.ws).mono ?_; rintro e w2 ⟨v', u', hd', rfl, rfl⟩; obtain ⟨rfl, rfl⟩ := hd.one hd'))
    go_ret
    exact ⟨rfl, hB.trans hb⟩
  · go_enter Yba.func5, Yba.ntmps5
    go_wp2_with (first | (go_at_call 6; go_in) | (go_at_call 10; refine HR.mono ?_; rintro e w' ⟨v, u, hd, rfl, hs, hb⟩; have hv := hd.lt h0 hwd; have k1 := hs.c1) | (go_at_call 8; refine (HM _ hs.ws).mono ?_; rintro e w2 ⟨v', u', hd', rfl, rfl⟩; obtain ⟨rfl, rfl⟩ := hd.one hd'))
    go_ret
    exact ⟨rfl, hB.trans hb⟩

set_option maxHeartbeats 1000000 in
theorem lawU8_core (a0 : Option Addr) (len cap n : Nat) (a1 : Int) (zs : List Int) (w : World) (ws : Words w w.heap.size a0 len zs) (hlen : len ≤ 1024) (hz : ∀ z ∈ zs, z < 18446744073709551616) (h0 : 0 < n) (hn' : n < 256) (hn : (a1 = 0 ∧ n = 1) ∨ (a1 = n)) :
    Calls Yba.prog 4 #[.slice a0 len cap, .int .u8 a1] w fun e w' => e = .returned (.bool true) ∧ Below w.heap.size w w' := by
  obtain ⟨hS, hB⟩ := src_start w a0 len cap zs ws
  have hwd := fun k => wd_lt zs len k hz
  have HR := randU8_any _ len cap n zs a0 _ hS hlen hz h0 hn'
  have HM := fun w' (hw : Words w' w.heap.size a0 len zs) => model_any len cap n w.heap.size zs a0 w' hw hlen hz h0 (by omega)
  clear ws hS hz
  rcases hn with ⟨rfl, rfl⟩ | rfl
  · go_enter Yba.func4, Yba.ntmps4
    go_wp2_with (first | (go_at_call 6; go_in) | (go_at_call 9; refine HR.mono ?_; rintro e w' ⟨v, u, hd, rfl, hs, hb⟩; have hv := hd.lt h0 hwd; have k1 := hs.c1) | (go_at_call 8; refine (HM _ hs.ws).mono ?_; rintro e w2 ⟨v', u', hd', rfl, rfl⟩; obtain ⟨rfl, rfl⟩ := hd.one hd'))
    go_ret
    exact ⟨rfl, hB.trans hb⟩
  · go_enter Yba.func4, Yba.ntmps4
    go_wp2_with (first | (go_at_call 6; go_in) | (go_at_call 9; refine HR.mono ?_; rintro e w' ⟨v, u, hd, rfl, hs, hb⟩; have hv := hd.lt h0 hwd; have k1 := hs.c1) | (go_at_call 8; refine (HM _ hs.ws).mono ?_; rintro e w2 ⟨v', u', hd', rfl, rfl⟩; obtain ⟨rfl, rfl⟩ := hd.one hd'))
    go_ret
    exact ⟨rfl, hB.trans hb⟩

theorem not_neg (n : Nat) (hn : n < 9223372036854775808) : bits .xor .i64 (-1) (-1 - (n : Int)) = (n : Int) := by
  show IntKind.i64.wrap ((BitVec.ofInt 64 (-1) ^^^ BitVec.ofInt 64 (-1 - (n : Int))).toNat : Int) = _
  have h1 : BitVec.ofInt 64 (-1) = BitVec.allOnes 64 := by decide
  have h2 : (BitVec.ofInt 64 (-1 - (n : Int))).toNat = 18446744073709551615 - n := by
    rw [BitVec.toNat_ofInt]
    omega
  rw [h1, BitVec.allOnes_xor, BitVec.toNat_not, h2]
  simp [IntKind.wrap, IntKind.bits, IntKind.signed]
  omega

set_option maxHeartbeats 1000000 in
theorem lawI64_core (a0 : Option Addr) (len cap n : Nat) (a1 : Int) (zs : List Int) (w : World) (ws : Words w w.heap.size a0 len zs) (hlen : len ≤ 1024) (hz : ∀ z ∈ zs, z < 18446744073709551616) (h0 : 0 < n) (hn' : n < 9223372036854775808) (hn : (a1 = 0 ∧ n = 1) ∨ (a1 = -1 ∧ n = 1) ∨ (a1 = n) ∨ (a1 = -1 - (n : Int))) :
    Calls Yba.prog 3 #[.slice a0 len cap, .int .i64 a1] w fun e w' => e = .returned (.bool true) ∧ Below w.heap.size w w' := by
  obtain ⟨hS, hB⟩ := src_start w a0 len cap zs ws
  have hwd := fun k => wd_lt zs len k hz
  have HR := randI64_any _ len cap n zs a0 _ hS hlen hz h0 hn'
  have HM := fun w' (hw : Words w' w.heap.size a0 len zs) => model_any len cap n w.heap.size zs a0 w' hw hlen hz h0 (by omega)
  clear ws hS hz
  rcases hn with ⟨rfl, rfl⟩ | ⟨rfl, rfl⟩ | rfl | rfl
  · go_enter Yba.func3, Yba.ntmps3
    go_wp2_with (first | (go_at_call 6; go_in) | (go_at_call 7; refine HR.mono ?_; rintro e w' ⟨v, u, hd, rfl, hs, hb⟩; have hv := hd.lt h0 hwd; have k1 := hs.c1) | (go_at_call 8; refine (HM _ hs.ws).mono ?_; rintro e w2 ⟨v', u', hd', rfl, rfl⟩; obtain ⟨rfl, rfl⟩ := hd.one hd'))
    go_ret
    exact ⟨rfl, hB.trans hb⟩
  · go_enter Yba.func3, Yba.ntmps3
    go_wp2_with (first | (go_at_call 6; go_in) | (go_at_call 7; refine HR.mono ?_; rintro e w' ⟨v, u, hd, rfl, hs, hb⟩; have hv := hd.lt h0 hwd; have k1 := hs.c1) | (go_at_call 8; refine (HM _ hs.ws).mono ?_; rintro e w2 ⟨v', u', hd', rfl, rfl⟩; obtain ⟨rfl, rfl⟩ := hd.one hd'))
    go_ret
    exact ⟨rfl, hB.trans hb⟩
  · go_enter Yba.func3, Yba.ntmps3
    go_wp2_with (first | (go_at_call 6; go_in) | (go_at_call 7; refine HR.mono ?_; rintro e w' ⟨v, u, hd, rfl, hs, hb⟩; have hv := hd.lt h0 hwd; have k1 := hs.c1) | (go_at_call 8; refine (HM _ hs.ws).mono ?_; rintro e w2 ⟨v', u', hd', rfl, rfl⟩; obtain ⟨rfl, rfl⟩ := hd.one hd'))
    go_ret
    exact ⟨rfl, hB.trans hb⟩
  · have hsg : IntKind.i64.signed = true := rfl
    have hx := not_neg n hn'
    go_enter Yba.func3, Yba.ntmps3
    go_wp2_with (first | (go_at_call 6; go_in) | (go_at_call 7; refine HR.mono ?_; rintro e w' ⟨v, u, hd, rfl, hs, hb⟩; have hv := hd.lt h0 hwd; have k1 := hs.c1) | (go_at_call 8; refine (HM _ hs.ws).mono ?_; rintro e w2 ⟨v', u', hd', rfl, rfl⟩; obtain ⟨rfl, rfl⟩ := hd.one hd'))
    go_ret
    exact ⟨rfl, hB.trans hb⟩

set_option maxHeartbeats 400000 in
theorem long5 (a0 : Option Addr) (len cap : Nat) (a1 : Int) (w : World) (h : 1024 < len) (_hm : len ≤ 9223372036854775807) :
    Calls Yba.prog 5 #[.slice a0 len cap, .int .u64 a1] w fun e w' => e = .returned (.bool true) ∧ Below w.heap.size w w' := by
  go_enter Yba.func5, Yba.ntmps5
  go_wp2_with fail
  go_ret
  exact ⟨rfl, Below.refl _ _⟩

set_option maxHeartbeats 400000 in
theorem long4 (a0 : Option Addr) (len cap : Nat) (a1 : Int) (w : World) (h : 1024 < len) (_hm : len ≤ 9223372036854775807) :
    Calls Yba.prog 4 #[.slice a0 len cap, .int .u8 a1] w fun e w' => e = .returned (.bool true) ∧ Below w.heap.size w w' := by
  go_enter Yba.func4, Yba.ntmps4
  go_wp2_with fail
  go_ret
  exact ⟨rfl, Below.refl _ _⟩

set_option maxHeartbeats 400000 in
theorem long3 (a0 : Option Addr) (len cap : Nat) (a1 : Int) (w : World) (h : 1024 < len) (_hm : len ≤ 9223372036854775807) :
    Calls Yba.prog 3 #[.slice a0 len cap, .int .i64 a1] w fun e w' => e = .returned (.bool true) ∧ Below w.heap.size w w' := by
  go_enter Yba.func3, Yba.ntmps3
  go_wp2_with fail
  go_ret
  exact ⟨rfl, Below.refl _ _⟩

end Go.Proofs.Ybulkbmbk
