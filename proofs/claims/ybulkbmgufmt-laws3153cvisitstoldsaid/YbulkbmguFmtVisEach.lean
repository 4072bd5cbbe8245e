import Derived.Test.YbulkbmguFmtVisVisit
namespace Go.Proofs.YbulkbmguFmt
open Go.RowKit Go.Extern.Stop Go.Stop Go.Extern
set_option maxRecDepth 100000

/-- How Each ends. -/
def EachEnd (w : World) (B : Nat) (a0 : Option Addr) (len cap : Nat) (ln : Nat → Nat) (stop : Nat) (fail : Bool) (aE : Addr) (e : Ending) (w' : World) : Prop :=
  Only (Own B) w w' ∧
  ((1 ≤ stop ∧ stop ≤ len ∧ e = .returned (.iface 75 (.pointer (some ⟨B + 6, 0, none⟩))) ∧ VS w' B a0 len cap ln stop fail aE stop stop) ∨
   (¬ (1 ≤ stop ∧ stop ≤ len) ∧ fail = false ∧ e = .returned .nilIface ∧ VS w' B a0 len cap ln stop fail aE (len + 1) len) ∨
   (¬ (1 ≤ stop ∧ stop ≤ len) ∧ fail = true ∧ ∃ pb, B + 12 ≤ pb ∧ pb < w'.heap.size ∧ e = .returned (.iface 86 (.pointer (some ⟨pb, 0, none⟩))) ∧ w'.cell? ⟨pb, 1, none⟩ = some (.iface 75 (.pointer (some ⟨B + 4, 0, none⟩))) ∧ VS w' B a0 len cap ln stop fail aE (len + 1) len))

set_option maxHeartbeats 1600000 in
theorem each_any (F : Interp) (w : World) (B : Nat) (a0 : Option Addr) (len cap : Nat) (ln : Nat → Nat) (stop : Nat) (fail : Bool) (aE : Addr) (h : VS w B a0 len cap ln stop fail aE 0 0) (hF : F.answers w.tape) (hlen : len ≤ 1024) (hln : ∀ i, ln i < 256) :
    Calls Ybaf.prog 14 #[.pointer (some ⟨B + 9, 0, none⟩), .func (.func 15) #[] #[.pointer (some ⟨B + 10, 0, none⟩), .pointer (some ⟨B + 11, 0, none⟩), .pointer (some ⟨B + 2, 0, none⟩), .pointer (some ⟨B, 0, none⟩), .pointer (some ⟨B + 3, 0, none⟩), .pointer (some ⟨B + 7, 0, none⟩)]] w (EachEnd w B a0 len cap ln stop fail aE) := by
  go_enter Ybaf.func14, Ybaf.ntmps14
  go_wp2_with fail
  go_loopw [5, 6, 7, 8] (fun n _ _ _ wr => ∃ j : Nat, j ≤ len ∧ n = .int .i64 ((j : Int) + 1) ∧ VS wr B a0 len cap ln stop fail aE j j ∧ Only (Own B) w wr ∧ ∀ i, i < j → i + 1 ≠ stop) (fun n _ _ _ _ => (len : Int).toNat + 2 - (intOf n).toNat)
  case atStart => exact ⟨0, Nat.zero_le _, rfl, h, Only.refl _ _, fun i hi => absurd hi (Nat.not_lt_zero i)⟩
  case round =>
    obtain ⟨j, hj, rfl, hV, hO, hns⟩ := hrel
    rcases Nat.lt_or_ge j len with hlt | hge
    · go_wp2_with fail
      refine (next_packet wr B a0 len cap ln stop fail aE j j hV hlen hln hlt).mono ?_
      rintro e w1 ⟨a, rfl, hby, v1, o1⟩
      have ce := v1.e0
      have s1 := v1.size
      have s0 : 0 < w1.heap.size := by omega
      go_wp2_with fail
      refine (is_nil aE _).mono ?_
      rintro e w2 ⟨rfl, rfl⟩
      generalize hw2 : World.alloc w1 (.cells #[.int .u64 0, .int .i64 0, .pointer none, .int .u16 j, .slice a (ln j % 8) (ln j % 8), .int .i64 j, .bool false] 50) = w2
      have b2 : Below w1.heap.size w1 w2 := by subst hw2; exact (Below.refl _ _).alloc (Nat.le_refl _) _
      have v2 := v1.kept b2
      have o2 : Only (Own B) w w2 := (hO.trans o1).trans (Only.of_below b2)
      have r2 : w2.heap[w1.heap.size]? = some (.cells #[.int .u64 0, .int .i64 0, .pointer none, .int .u16 j, .slice a (ln j % 8) (ln j % 8), .int .i64 j, .bool false] 50 (0, 0)) := by subst hw2; exact alloc_at _ _ _
      have hby2 := hby.kept (Only.of_below (X := fun _ => False) b2) (fun i hi => hi.elim)
      have hsr := hV.size
      have q0 := cell_at r2 0
      have q1 := cell_at r2 1
      have q2 := cell_at r2 2
      have q3 := cell_at r2 3
      have q4 := cell_at r2 4
      have q5 := cell_at r2 5
      have q6 := cell_at r2 6
      simp at q0 q1 q2 q3 q4 q5 q6
      clear hw2 b2 v1 o1 hby ce r2
      by_cases hst : j + 1 = stop
      · go_wp2_with fail
        refine (visit_stop w2 B a0 len cap ln stop fail aE (j + 1) j wr.heap.size a v2 hlen hln hlt hst hby2 hsr).mono ?_
        rintro e w3 ⟨rfl, v3, o3⟩
        go_wp2_with fail
        go_ret
        exact ⟨o2.trans o3, .inl ⟨by omega, by omega, rfl, by rw [← hst]; rw [← hst] at v3; exact v3⟩⟩
      · go_wp2_with fail
        refine (visit_on w2 B a0 len cap ln stop fail aE (j + 1) j wr.heap.size a v2 hlen hln hlt hst hby2 hsr).mono ?_
        rintro e w3 ⟨rfl, v3, o3⟩
        go_wp2_with fail
        go_roundw
        case rel => exact ⟨j + 1, hlt, by go_num, v3, o2.trans o3, fun i hi => by rcases Nat.lt_succ_iff_lt_or_eq.1 hi with g | g; exact hns i g; subst g; exact hst⟩
        case measure => simp [intOf]; omega
    · have ej : j = len := by omega
      subst ej
      have hno : ¬ (1 ≤ stop ∧ stop ≤ j) := fun hh => hns (stop - 1) (by omega) (by omega)
      go_wp2_with fail
      refine (next_end wr B a0 j cap ln stop fail aE j hV hlen).mono ?_
      rintro e w1 ⟨rfl, v1, o1⟩
      have ce := v1.e0
      have s1 := v1.size
      have s0 : 0 < w1.heap.size := by omega
      have hO1 := hO.trans o1
      clear o1 hns hV hO
      cases fail with
      | false =>
        have es : srcErr B false aE = aE := rfl
        rw [es]
        clear es
        go_wp2_with fail
        refine (is_same aE _).mono ?_
        rintro e w2 ⟨rfl, rfl⟩
        go_wp2_with fail
        go_ret
        exact ⟨hO1.alloc _, .inr (.inl ⟨hno, rfl, rfl, v1.kept ((Below.refl _ _).alloc (Nat.le_refl _) _)⟩)⟩
      | true =>
        have es : srcErr B true aE = ⟨B + 4, 0, none⟩ := rfl
        rw [es]
        clear es
        go_wp2_with fail
        generalize hw2 : World.alloc w1 _ = w2
        have b2 : Below w1.heap.size w1 w2 := by subst hw2; exact (Below.refl _ _).alloc (Nat.le_refl _) _
        have v2 := v1.kept b2
        have o2 : Only (Own B) w w2 := hO1.trans (Only.of_below b2)
        obtain ⟨cE, tE, hE⟩ := v2.e1
        have hEB := v2.eB
        clear hw2 b2 v1 hO1 ce s1 s0
        refine (is_other ⟨B + 4, 0, none⟩ aE _ cE 77 tE w2 (fun hh => by subst hh; simp at hEB; omega) v2.h4 hE).mono ?_
        rintro e w3 ⟨rfl, rfl⟩
        go_wp2_with fail
        generalize hw4 : World.alloc w3 _ = w4
        have b4 : Below w3.heap.size w3 w4 := by subst hw4; exact (Below.refl _ _).alloc (Nat.le_refl _) _
        have v4 := v2.kept b4
        have o4 : Only (Own B) w w4 := o2.trans (Only.of_below b4)
        have r4 : w4.heap[w3.heap.size]? = some (.cells #[.iface 3 (.int .i64 ((j : Int) + 1)), .iface 75 (.pointer (some ⟨B + 4, 0, none⟩))] 20 (0, 0)) := by subst hw4; exact alloc_at _ _ _
        have hs4 := v4.size
        clear hw4 b4 v2 o2 hE hEB
        refine (errorf_any F ((j : Int) + 1) w3.heap.size ⟨B + 4, 0, none⟩ ⟨#[115, 114, 99]⟩ w4 (by rw [o4.tape]; exact hF) (cell_at r4 0) (cell_at r4 1) (cell_at v4.h4 0)).mono ?_
        rintro e w5 ⟨rfl, t, rfl⟩
        go_wp2_with fail
        go_ret
        refine ⟨(o4.alloc _).drew, .inr (.inr ⟨hno, rfl, w4.heap.size, hs4, by simp, rfl, by simp, ?_⟩)⟩
        exact v4.below (((Below.refl _ _).alloc hs4 _).drew)
end Go.Proofs.YbulkbmguFmt
