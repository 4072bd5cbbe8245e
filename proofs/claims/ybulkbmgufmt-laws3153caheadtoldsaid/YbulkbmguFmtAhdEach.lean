/-
  The law LawS3153CAhead: Reader.Each, by the kept error.
-/
import Derived.Test.YbulkbmguFmtAhdPop
import Derived.Test.YbulkbmguFmtAhdVisit
namespace Go.Proofs.YbulkbmguFmt.ahd
open Go.RowKit Go.Extern.Stop Go.Stop Go.Extern
set_option maxRecDepth 100000

set_option maxHeartbeats 1600000 in
theorem each_nil {w : World} {B C : Nat} {a0 : Option Addr} {len cap : Nat} {ln : Nat → Nat} {pre : Nat} {aE : Addr} {g : Nat} {cur : Array Value} {A : Nat → Option Addr} (h : AS w B C a0 len cap ln pre aE .nilIface g cur A 0 0 0) (hlen : len ≤ 1024) (hln : ∀ i, ln i < 256) (hpl : pre ≤ len) :
    Calls Ybaf.prog 14 #[.pointer (some ⟨B + 4, 0, none⟩), .func (.func 19) #[] #[.pointer (some ⟨C + 1, 0, none⟩), .pointer (some ⟨C + 2, 0, none⟩), .pointer (some ⟨B + 1, 0, none⟩), .pointer (some ⟨B, 0, none⟩)]] w fun e w' => e = .returned .nilIface ∧ (∃ k, pre + k = len ∧ AS w' B C a0 len cap ln pre aE .nilIface g cur A pre (k + 1) len) ∧ Only (Own B C) w w' := by
  have hbc := h.bc
  have hpos := h.pos
  go_enter Ybaf.func14, Ybaf.ntmps14
  go_wp2_with fail
  go_loopw [5, 6, 7, 8] (fun n _ _ _ wr => ∃ v j k : Nat, v ≤ len ∧ n = .int .i64 ((v : Int) + 1) ∧ AS wr B C a0 len cap ln pre aE .nilIface g cur A j k v ∧ Only (Own B C) w wr ∧ ((v < pre ∧ v = j ∧ 0 = k) ∨ (pre ≤ v ∧ pre = j ∧ v = pre + k))) (fun n _ _ _ _ => (len : Int).toNat + 2 - (intOf n).toNat)
  case atStart =>
    rcases Nat.eq_zero_or_pos pre with hq | hq
    · exact ⟨0, 0, 0, by omega, rfl, h, Only.refl _ _, .inr ⟨by omega, by omega, by omega⟩⟩
    · exact ⟨0, 0, 0, by omega, rfl, h, Only.refl _ _, .inl ⟨hq, rfl, rfl⟩⟩
  case round =>
    obtain ⟨v, j, k, hvb, rfl, hV, hO, hst⟩ := hrel
    rcases hst with ⟨hvp, rfl, rfl⟩ | ⟨hvp, rfl, hvk⟩
    · have hvl : v < len := by omega
      go_wp2_with fail
      refine (next_pop hV (by omega) hvp).mono ?_
      rintro e w1 ⟨rfl, v1, o1⟩
      have hby := v1.packet v hvp
      have ce := v1.e0
      have s1 := v1.size
      have hp1 := v1.pos
      have hb1 := v1.bc
      have s0 : 0 < w1.heap.size := by omega
      go_wp2_with fail
      refine (is_nil aE _).mono ?_
      rintro e w2 ⟨rfl, rfl⟩
      generalize hw2 : World.alloc w1 (.cells #[.int .u64 0, .int .i64 0, .pointer none, .int .u16 0, .slice (A v) (ln v % 8) (ln v % 8), .int .i64 (v : Int), .bool false] 50) = w2
      have b2 : Below w1.heap.size w1 w2 := by subst hw2; exact (Below.refl _ _).alloc (Nat.le_refl _) _
      have v2 := v1.kept b2
      have o2 : Only (Own B C) w w2 := (hO.trans o1).trans (Only.of_below b2)
      have r2 : w2.heap[w1.heap.size]? = some (.cells #[.int .u64 0, .int .i64 0, .pointer none, .int .u16 0, .slice (A v) (ln v % 8) (ln v % 8), .int .i64 (v : Int), .bool false] 50 (0, 0)) := by subst hw2; exact alloc_at _ _ _
      have hby2 := hby.kept (Only.of_below (X := Own B C) b2)
      have q0 := cell_at r2 0
      have q1 := cell_at r2 1
      have q2 := cell_at r2 2
      have q3 := cell_at r2 3
      have q4 := cell_at r2 4
      have q5 := cell_at r2 5
      have q6 := cell_at r2 6
      simp at q0 q1 q2 q3 q4 q5 q6
      clear hw2 b2 v1 o1 hby ce r2
      go_wp2_with fail
      refine (visit_any v2 hlen hln hvl hby2).mono ?_
      rintro e w3 ⟨rfl, v3, o3⟩
      go_wp2_with fail
      go_roundw
      case rel =>
        rcases Nat.lt_or_ge (v + 1) pre with hq | hq
        · exact ⟨v + 1, v + 1, 0, by omega, by go_num, v3, o2.trans o3, .inl ⟨hq, rfl, rfl⟩⟩
        · have hqe : v + 1 = pre := by omega
          exact ⟨v + 1, pre, 0, by omega, by go_num, by rw [hqe] at v3 ⊢; exact v3, o2.trans o3, .inr ⟨by omega, rfl, by omega⟩⟩
      case measure => simp [intOf]; omega
    · rcases Nat.lt_or_ge v len with hvl | hvl
      · have HN := next_packet hV hlen hln (by omega)
        rw [← hvk] at HN
        have HVK : Hid (v = pre + k) := hvk
        clear hvk
        go_wp2_with fail
        refine HN.mono ?_
        rintro e w1 ⟨a, rfl, hbq, v1, o1⟩
        have hsr := hV.size
        have hby : BX (Own B C) w1 a (ln v % 8) ((v % 256 : Nat) : Int) := BX.of hbq (fun b hb hx => by rcases hx with hx | hx | hx <;> omega)
        clear HN hbq
        have ce := v1.e0
        have s1 := v1.size
        have hp1 := v1.pos
        have hb1 := v1.bc
        have s0 : 0 < w1.heap.size := by omega
        go_wp2_with fail
        refine (is_nil aE _).mono ?_
        rintro e w2 ⟨rfl, rfl⟩
        generalize hw2 : World.alloc w1 (.cells #[.int .u64 0, .int .i64 0, .pointer none, .int .u16 0, .slice a (ln v % 8) (ln v % 8), .int .i64 (v : Int), .bool false] 50) = w2
        have b2 : Below w1.heap.size w1 w2 := by subst hw2; exact (Below.refl _ _).alloc (Nat.le_refl _) _
        have v2 := v1.kept b2
        have o2 : Only (Own B C) w w2 := (hO.trans o1).trans (Only.of_below b2)
        have r2 : w2.heap[w1.heap.size]? = some (.cells #[.int .u64 0, .int .i64 0, .pointer none, .int .u16 0, .slice a (ln v % 8) (ln v % 8), .int .i64 (v : Int), .bool false] 50 (0, 0)) := by subst hw2; exact alloc_at _ _ _
        have hby2 := hby.kept (Only.of_below (X := Own B C) b2)
        have q0 := cell_at r2 0
        have q1 := cell_at r2 1
        have q2 := cell_at r2 2
        have q3 := cell_at r2 3
        have q4 := cell_at r2 4
        have q5 := cell_at r2 5
        have q6 := cell_at r2 6
        simp at q0 q1 q2 q3 q4 q5 q6
        clear hw2 b2 v1 o1 hby ce r2
        go_wp2_with fail
        refine (visit_any v2 hlen hln hvl hby2).mono ?_
        rintro e w3 ⟨rfl, v3, o3⟩
        go_wp2_with fail
        go_roundw
        case rel => exact ⟨v + 1, pre, k + 1, by omega, by go_num, v3, o2.trans o3, .inr ⟨by omega, rfl, by have := HVK.out; omega⟩⟩
        case measure => simp [intOf]; omega
      · have hke : pre + k = len := by omega
        have hve : len = v := by omega
        subst hve
        have HN := next_end hV hlen hke
        have HKE : Hid (pre + k = len) := hke
        clear hke hvk hvl hvb
        go_wp2_with fail
        refine HN.mono ?_
        rintro e w1 ⟨rfl, v1, o1⟩
        have ce := v1.e0
        have s1 := v1.size
        have hp1 := v1.pos
        have hb1 := v1.bc
        have s0 : 0 < w1.heap.size := by omega
        go_wp2_with fail
        refine (is_same aE _).mono ?_
        rintro e w2 ⟨rfl, rfl⟩
        go_wp2_with fail
        go_ret
        exact ⟨rfl, ⟨k, HKE.out, v1.kept ((Below.refl _ _).alloc (Nat.le_refl _) _)⟩, (hO.trans o1).alloc _⟩

set_option maxHeartbeats 1600000 in
theorem each_eof {w : World} {B C : Nat} {a0 : Option Addr} {len cap : Nat} {ln : Nat → Nat} {pre : Nat} {aE : Addr} {g : Nat} {cur : Array Value} {A : Nat → Option Addr} (h : AS w B C a0 len cap ln pre aE (.iface 75 (.pointer (some aE))) g cur A 0 0 0) (hlen : len ≤ 1024) (hln : ∀ i, ln i < 256) (hpl : pre ≤ len) :
    Calls Ybaf.prog 14 #[.pointer (some ⟨B + 4, 0, none⟩), .func (.func 19) #[] #[.pointer (some ⟨C + 1, 0, none⟩), .pointer (some ⟨C + 2, 0, none⟩), .pointer (some ⟨B + 1, 0, none⟩), .pointer (some ⟨B, 0, none⟩)]] w fun e w' => e = .returned .nilIface ∧ AS w' B C a0 len cap ln pre aE (.iface 75 (.pointer (some aE))) g cur A pre 0 pre ∧ Only (Own B C) w w' := by
  have hbc := h.bc
  have hpos := h.pos
  go_enter Ybaf.func14, Ybaf.ntmps14
  go_wp2_with fail
  go_loopw [5, 6, 7, 8] (fun n _ _ _ wr => ∃ v j k : Nat, v ≤ pre ∧ n = .int .i64 ((v : Int) + 1) ∧ AS wr B C a0 len cap ln pre aE (.iface 75 (.pointer (some aE))) g cur A j k v ∧ Only (Own B C) w wr ∧ ((v < pre ∧ v = j ∧ 0 = k) ∨ (pre ≤ v ∧ pre = j ∧ v = pre + k))) (fun n _ _ _ _ => (len : Int).toNat + 2 - (intOf n).toNat)
  case atStart =>
    rcases Nat.eq_zero_or_pos pre with hq | hq
    · exact ⟨0, 0, 0, by omega, rfl, h, Only.refl _ _, .inr ⟨by omega, by omega, by omega⟩⟩
    · exact ⟨0, 0, 0, by omega, rfl, h, Only.refl _ _, .inl ⟨hq, rfl, rfl⟩⟩
  case round =>
    obtain ⟨v, j, k, hvb, rfl, hV, hO, hst⟩ := hrel
    rcases hst with ⟨hvp, rfl, rfl⟩ | ⟨hvp, rfl, hvk⟩
    · have hvl : v < len := by omega
      go_wp2_with fail
      refine (next_pop hV (by omega) hvp).mono ?_
      rintro e w1 ⟨rfl, v1, o1⟩
      have hby := v1.packet v hvp
      have ce := v1.e0
      have s1 := v1.size
      have hp1 := v1.pos
      have hb1 := v1.bc
      have s0 : 0 < w1.heap.size := by omega
      go_wp2_with fail
      refine (is_nil aE _).mono ?_
      rintro e w2 ⟨rfl, rfl⟩
      generalize hw2 : World.alloc w1 (.cells #[.int .u64 0, .int .i64 0, .pointer none, .int .u16 0, .slice (A v) (ln v % 8) (ln v % 8), .int .i64 (v : Int), .bool false] 50) = w2
      have b2 : Below w1.heap.size w1 w2 := by subst hw2; exact (Below.refl _ _).alloc (Nat.le_refl _) _
      have v2 := v1.kept b2
      have o2 : Only (Own B C) w w2 := (hO.trans o1).trans (Only.of_below b2)
      have r2 : w2.heap[w1.heap.size]? = some (.cells #[.int .u64 0, .int .i64 0, .pointer none, .int .u16 0, .slice (A v) (ln v % 8) (ln v % 8), .int .i64 (v : Int), .bool false] 50 (0, 0)) := by subst hw2; exact alloc_at _ _ _
      have hby2 := hby.kept (Only.of_below (X := Own B C) b2)
      have q0 := cell_at r2 0
      have q1 := cell_at r2 1
      have q2 := cell_at r2 2
      have q3 := cell_at r2 3
      have q4 := cell_at r2 4
      have q5 := cell_at r2 5
      have q6 := cell_at r2 6
      simp at q0 q1 q2 q3 q4 q5 q6
      clear hw2 b2 v1 o1 hby ce r2
      go_wp2_with fail
      refine (visit_any v2 hlen hln hvl hby2).mono ?_
      rintro e w3 ⟨rfl, v3, o3⟩
      go_wp2_with fail
      go_roundw
      case rel =>
        rcases Nat.lt_or_ge (v + 1) pre with hq | hq
        · exact ⟨v + 1, v + 1, 0, by omega, by go_num, v3, o2.trans o3, .inl ⟨hq, rfl, rfl⟩⟩
        · have hqe : v + 1 = pre := by omega
          exact ⟨v + 1, pre, 0, by omega, by go_num, by rw [hqe] at v3 ⊢; exact v3, o2.trans o3, .inr ⟨by omega, rfl, by omega⟩⟩
      case measure => simp [intOf]; omega
    · have hve : pre = v := by omega
      subst hve
      have hk0 : 0 = k := by omega
      subst hk0
      go_wp2_with fail
      refine (next_err hV).mono ?_
      rintro e w1 ⟨rfl, v1, o1⟩
      have ce := v1.e0
      have s1 := v1.size
      have hp1 := v1.pos
      have hb1 := v1.bc
      have s0 : 0 < w1.heap.size := by omega
      have hO1 := hO.trans o1
      clear o1 hV hO hvk hvp hvb
      go_wp2_with fail
      refine (is_same aE _).mono ?_
      rintro e w2 ⟨rfl, rfl⟩
      go_wp2_with fail
      go_ret
      exact ⟨rfl, v1.kept ((Below.refl _ _).alloc (Nat.le_refl _) _), hO1.alloc _⟩

set_option maxHeartbeats 1600000 in
theorem each_custom {w : World} {B C : Nat} {a0 : Option Addr} {len cap : Nat} {ln : Nat → Nat} {pre : Nat} {aE : Addr} {g : Nat} {cur : Array Value} {A : Nat → Option Addr} (F : Interp) (hF : F.answers w.tape) (h : AS w B C a0 len cap ln pre aE (.iface 75 (.pointer (some ⟨B + 3, 0, none⟩))) g cur A 0 0 0) (hlen : len ≤ 1024) (hln : ∀ i, ln i < 256) (hpl : pre ≤ len) :
    Calls Ybaf.prog 14 #[.pointer (some ⟨B + 4, 0, none⟩), .func (.func 19) #[] #[.pointer (some ⟨C + 1, 0, none⟩), .pointer (some ⟨C + 2, 0, none⟩), .pointer (some ⟨B + 1, 0, none⟩), .pointer (some ⟨B, 0, none⟩)]] w fun e w' => (∃ pb, C + 3 ≤ pb ∧ pb < w'.heap.size ∧ e = .returned (.iface 86 (.pointer (some ⟨pb, 0, none⟩))) ∧ w'.cell? ⟨pb, 1, none⟩ = some (.iface 75 (.pointer (some ⟨B + 3, 0, none⟩)))) ∧ AS w' B C a0 len cap ln pre aE (.iface 75 (.pointer (some ⟨B + 3, 0, none⟩))) g cur A pre 0 pre ∧ Only (Own B C) w w' := by
  have hbc := h.bc
  have hpos := h.pos
  go_enter Ybaf.func14, Ybaf.ntmps14
  go_wp2_with fail
  go_loopw [5, 6, 7, 8] (fun n _ _ _ wr => ∃ v j k : Nat, v ≤ pre ∧ n = .int .i64 ((v : Int) + 1) ∧ AS wr B C a0 len cap ln pre aE (.iface 75 (.pointer (some ⟨B + 3, 0, none⟩))) g cur A j k v ∧ Only (Own B C) w wr ∧ ((v < pre ∧ v = j ∧ 0 = k) ∨ (pre ≤ v ∧ pre = j ∧ v = pre + k))) (fun n _ _ _ _ => (len : Int).toNat + 2 - (intOf n).toNat)
  case atStart =>
    rcases Nat.eq_zero_or_pos pre with hq | hq
    · exact ⟨0, 0, 0, by omega, rfl, h, Only.refl _ _, .inr ⟨by omega, by omega, by omega⟩⟩
    · exact ⟨0, 0, 0, by omega, rfl, h, Only.refl _ _, .inl ⟨hq, rfl, rfl⟩⟩
  case round =>
    obtain ⟨v, j, k, hvb, rfl, hV, hO, hst⟩ := hrel
    rcases hst with ⟨hvp, rfl, rfl⟩ | ⟨hvp, rfl, hvk⟩
    · have hvl : v < len := by omega
      go_wp2_with fail
      refine (next_pop hV (by omega) hvp).mono ?_
      rintro e w1 ⟨rfl, v1, o1⟩
      have hby := v1.packet v hvp
      have ce := v1.e0
      have s1 := v1.size
      have hp1 := v1.pos
      have hb1 := v1.bc
      have s0 : 0 < w1.heap.size := by omega
      go_wp2_with fail
      refine (is_nil aE _).mono ?_
      rintro e w2 ⟨rfl, rfl⟩
      generalize hw2 : World.alloc w1 (.cells #[.int .u64 0, .int .i64 0, .pointer none, .int .u16 0, .slice (A v) (ln v % 8) (ln v % 8), .int .i64 (v : Int), .bool false] 50) = w2
      have b2 : Below w1.heap.size w1 w2 := by subst hw2; exact (Below.refl _ _).alloc (Nat.le_refl _) _
      have v2 := v1.kept b2
      have o2 : Only (Own B C) w w2 := (hO.trans o1).trans (Only.of_below b2)
      have r2 : w2.heap[w1.heap.size]? = some (.cells #[.int .u64 0, .int .i64 0, .pointer none, .int .u16 0, .slice (A v) (ln v % 8) (ln v % 8), .int .i64 (v : Int), .bool false] 50 (0, 0)) := by subst hw2; exact alloc_at _ _ _
      have hby2 := hby.kept (Only.of_below (X := Own B C) b2)
      have q0 := cell_at r2 0
      have q1 := cell_at r2 1
      have q2 := cell_at r2 2
      have q3 := cell_at r2 3
      have q4 := cell_at r2 4
      have q5 := cell_at r2 5
      have q6 := cell_at r2 6
      simp at q0 q1 q2 q3 q4 q5 q6
      clear hw2 b2 v1 o1 hby ce r2
      go_wp2_with fail
      refine (visit_any v2 hlen hln hvl hby2).mono ?_
      rintro e w3 ⟨rfl, v3, o3⟩
      go_wp2_with fail
      go_roundw
      case rel =>
        rcases Nat.lt_or_ge (v + 1) pre with hq | hq
        · exact ⟨v + 1, v + 1, 0, by omega, by go_num, v3, o2.trans o3, .inl ⟨hq, rfl, rfl⟩⟩
        · have hqe : v + 1 = pre := by omega
          exact ⟨v + 1, pre, 0, by omega, by go_num, by rw [hqe] at v3 ⊢; exact v3, o2.trans o3, .inr ⟨by omega, rfl, by omega⟩⟩
      case measure => simp [intOf]; omega
    · have hve : pre = v := by omega
      subst hve
      have hk0 : 0 = k := by omega
      subst hk0
      go_wp2_with fail
      refine (next_err hV).mono ?_
      rintro e w1 ⟨rfl, v1, o1⟩
      have ce := v1.e0
      have s1 := v1.size
      have hp1 := v1.pos
      have hb1 := v1.bc
      have s0 : 0 < w1.heap.size := by omega
      have hO1 := hO.trans o1
      clear o1 hV hO hvk hvp hvb
      go_wp2_with fail
      generalize hw2 : World.alloc w1 _ = w2
      have b2 : Below w1.heap.size w1 w2 := by subst hw2; exact (Below.refl _ _).alloc (Nat.le_refl _) _
      have v2 := v1.kept b2
      have o2 : Only (Own B C) w w2 := hO1.trans (Only.of_below b2)
      obtain ⟨cE, tE, hE⟩ := v2.e1
      have hEB := v2.eB
      clear hw2 b2 v1 hO1 ce s1 s0
      refine (is_other ⟨B + 3, 0, none⟩ aE _ cE 77 tE w2 (fun hh => by subst hh; simp at hEB; omega) v2.h3 hE).mono ?_
      rintro e w3 ⟨rfl, rfl⟩
      go_wp2_with fail
      generalize hw4 : World.alloc w3 _ = w4
      have b4 : Below w3.heap.size w3 w4 := by subst hw4; exact (Below.refl _ _).alloc (Nat.le_refl _) _
      have v4 := v2.kept b4
      have o4 : Only (Own B C) w w4 := o2.trans (Only.of_below b4)
      have r4 : w4.heap[w3.heap.size]? = some (.cells #[.iface 3 (.int .i64 ((pre : Int) + 1)), .iface 75 (.pointer (some ⟨B + 3, 0, none⟩))] 20 (0, 0)) := by subst hw4; exact alloc_at _ _ _
      have hs4 := v4.size
      clear hw4 b4 v2 o2 hE hEB
      refine (errorf_any F ((pre : Int) + 1) w3.heap.size ⟨B + 3, 0, none⟩ ⟨#[115, 116, 111, 112, 112, 101, 100]⟩ w4 (by rw [o4.tape]; exact hF) (cell_at r4 0) (cell_at r4 1) (cell_at v4.h3 0)).mono ?_
      rintro e w5 ⟨rfl, t, rfl⟩
      go_wp2_with fail
      go_ret
      exact ⟨⟨w4.heap.size, hs4, by simp, rfl, by simp⟩, v4.below (((Below.refl _ _).alloc hs4 _).drew), (o4.alloc _).drew⟩
end Go.Proofs.YbulkbmguFmt.ahd
