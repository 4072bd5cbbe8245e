/-
  The law LawS3153CAhead itself: the packets laid ahead, the three kept errors, the answer.
-/
import Derived.Test.YbulkbmguFmtAhdBuild
import Derived.Test.YbulkbmguFmtAhdEach
namespace Go.Proofs.YbulkbmguFmt.ahd
open Go.RowKit Go.Extern.Stop Go.Stop Go.Extern
set_option maxRecDepth 100000

theorem mkf (fn : Fn) (first cap : Array Value) (w : World) : (Instr.makeFunc fn first cap).run Ybaf.prog w = .ok (.func fn first cap) w := rfl
theorem neq_types (x y : Value) (w : World) : (binOp .neq 34 (.iface 86 x) (.iface 75 y)).run Ybaf.prog w = .ok (.bool true) w := by
  have h : ∀ d : Nat, (Op.equalIn (d + 1) 34 (.iface 86 x) (.iface 75 y)).run Ybaf.prog w = .ok false w := fun d => by
    simp [Op.equalIn, run_underlying Ybaf.underlying34]
  simp only [binOp]
  simp [Op.equal, Op.maxDepth, h 9999]
theorem info69 : (Ybaf.prog.info? 69).map (fun i => (i.zero.map (fun z => z.cells.size), i.size, i.bytes)) = some (some 8, 8, 80) := by kernel_rfl
theorem info69' : ∃ i z, Ybaf.prog.info? 69 = some i ∧ i.zero = some z ∧ i.size = 8 ∧ i.bytes = 80 ∧ z.cells.size = 8 := by
  obtain ⟨i, hi, hzz⟩ := Option.map_eq_some_iff.1 info69
  simp only [Prod.mk.injEq] at hzz
  obtain ⟨h1, h2, h3⟩ := hzz
  obtain ⟨z, hz, h4⟩ := Option.map_eq_some_iff.1 h1
  exact ⟨i, z, hi, hz, h2, h3, h4⟩
theorem cells_new (w : World) (cs : Array Value) (t : TypeId) : ∀ j u, cs.toList[j]? = some u → (w.alloc (.cells cs t)).cell? ((⟨w.heap.size, 0, none⟩ : Addr).add j) = some u := by
  intro j u hj
  have := (cell_at (alloc_at w cs t) j)
  rw [← hj]
  by_cases e : j = 0
  · subst e; exact this.trans (by simp)
  · rw [show (⟨w.heap.size, 0, none⟩ : Addr).add j = ⟨w.heap.size, j, none⟩ from by simp [Addr.add, e]]; exact this.trans (by simp)

theorem own_below {w w' : World} {base n : Nat} {v : Value} {xs : List Value} (h : w.ownsRow base 69 8 v n xs) (b : Below w.heap.size w w') : w'.ownsRow base 69 8 v n xs := by
  obtain ⟨hl, h | ⟨g, cap, cur, hv, hb, hh, hr⟩⟩ := h
  · exact ⟨hl, .inl h⟩
  · exact ⟨hl, .inr ⟨g, cap, cur, hv, hb, by rw [b.block _ (lt_of_at hh)]; exact hh, hr⟩⟩
theorem own_slice {w : World} {base n : Nat} {v : Value} {xs : List Value} (h : w.ownsRow base 69 8 v (n + 1) xs) : ∃ g c, v = .slice (some ⟨g, 0, none⟩) (n + 1) c := by
  obtain ⟨_, h | ⟨g, c, _, hv, _⟩⟩ := h
  · exact absurd h.2 (Nat.succ_ne_zero n)
  · exact ⟨g, c, hv⟩

theorem bs_start (w : World) (a0 : Option Addr) (len cap : Nat) (ln : Nat → Nat) (pre : Nat) (aE : Addr) (hp : 0 < w.heap.size) (e0 : w.cell? ⟨0, 0, none⟩ = some (.iface 75 (.pointer (some aE)))) (e1 : ∃ cE tE, w.heap[aE.block]? = some (.cells cE tE (0, 0))) (eB : aE.block < w.heap.size)
    (ls : ∀ i, i < len → ∃ lb off, a0 = some ⟨lb, off, none⟩ ∧ lb < w.heap.size ∧ w.cell? ⟨lb, off + i, none⟩ = some (.int .u8 (ln i : Nat))) :
    BS (allocs w [.cells #[.slice a0 len cap] 25, .cells #[.int .i64 len] 3, .cells #[.int .i64 pre] 3, .cells #[.string ⟨#[115, 116, 111, 112, 112, 101, 100]⟩] 77, .cells #[.pointer none, .nilFunc, .nilIface, .int .u16 0, .int .i64 0, .pointer none, .slice none 0 0, .slice none 0 0, .int .i64 0, .nilIface] 62]) w.heap.size a0 len cap ln pre aE 0 (.slice none 0 0) [] := by
  have hb := allocs_below [.cells #[.slice a0 len cap] 25, .cells #[.int .i64 len] 3, .cells #[.int .i64 pre] 3, .cells #[.string ⟨#[115, 116, 111, 112, 112, 101, 100]⟩] 77, .cells #[.pointer none, .nilFunc, .nilIface, .int .u16 0, .int .i64 0, .pointer none, .slice none 0 0, .slice none 0 0, .int .i64 0, .nilIface] 62] w
  obtain ⟨cE, tE, hE⟩ := e1
  exact ⟨allocs_at _ w 0 _ rfl, allocs_at _ w 1 _ rfl, allocs_at _ w 2 _ rfl, allocs_at _ w 3 _ rfl, allocs_at _ w 4 _ rfl, by rw [hb.cell (p := ⟨0, 0, none⟩) hp]; exact e0, ⟨cE, tE, by rw [hb.block _ eB]; exact hE⟩, hp, eB, fun i hi => by
    obtain ⟨lb, off, e, hl, hc⟩ := ls i hi
    exact ⟨lb, off, e, hl, by rw [hb.cell (p := ⟨lb, off + i, none⟩) hl]; exact hc⟩, World.ownsRow_nil _ _ _ _, rfl, fun t ht => absurd ht (Nat.not_lt_zero t)⟩

theorem as_start {wr x : World} {B : Nat} {a0 : Option Addr} {len cap : Nat} {ln : Nat → Nat} {pre : Nat} {aE : Addr} {v : Value} {As : List (Option Addr)} (h : BS wr B a0 len cap ln pre aE pre v As) (er : Value) (hx : ∀ b, b ≠ B + 4 → x.heap[b]? = wr.heap[b]?) (hxs : x.heap.size = wr.heap.size)
    (hx4 : x.heap[B + 4]? = some (.cells #[.pointer none, .nilFunc, .nilIface, .int .u16 0, .int .i64 0, .pointer none, .slice none 0 0, v, .int .i64 (tot ln 0 pre : Nat), er] 62 (0, 0))) :
    ∃ g cur A, AS ((((x.setCell ⟨B + 4, 1, none⟩ (.func (.func 18) #[] #[.pointer (some ⟨B + 2, 0, none⟩), .pointer (some ⟨wr.heap.size, 0, none⟩), .pointer (some ⟨B + 1, 0, none⟩), .pointer (some ⟨B, 0, none⟩)])).alloc (.cells #[.int .i64 0] 3)).alloc (.cells #[.int .i64 0] 3)).alloc (.cells #[.bool true] 4)) B wr.heap.size a0 len cap ln pre aE er g cur A 0 0 0 := by
  have hs4 := lt_of_at h.h4
  have hp := h.pos
  generalize hW : ((((x.setCell ⟨B + 4, 1, none⟩ (.func (.func 18) #[] #[.pointer (some ⟨B + 2, 0, none⟩), .pointer (some ⟨wr.heap.size, 0, none⟩), .pointer (some ⟨B + 1, 0, none⟩), .pointer (some ⟨B, 0, none⟩)])).alloc (.cells #[.int .i64 0] 3)).alloc (.cells #[.int .i64 0] 3)).alloc (.cells #[.bool true] 4)) = W
  have z1 : (x.setCell ⟨B + 4, 1, none⟩ (.func (.func 18) #[] #[.pointer (some ⟨B + 2, 0, none⟩), .pointer (some ⟨wr.heap.size, 0, none⟩), .pointer (some ⟨B + 1, 0, none⟩), .pointer (some ⟨B, 0, none⟩)])).heap.size = wr.heap.size := by simp [World.setCell, hxs]
  have z2 : ((x.setCell ⟨B + 4, 1, none⟩ (.func (.func 18) #[] #[.pointer (some ⟨B + 2, 0, none⟩), .pointer (some ⟨wr.heap.size, 0, none⟩), .pointer (some ⟨B + 1, 0, none⟩), .pointer (some ⟨B, 0, none⟩)])).alloc (.cells #[.int .i64 0] 3)).heap.size = wr.heap.size + 1 := by simp [hxs]
  have z3 : (((x.setCell ⟨B + 4, 1, none⟩ (.func (.func 18) #[] #[.pointer (some ⟨B + 2, 0, none⟩), .pointer (some ⟨wr.heap.size, 0, none⟩), .pointer (some ⟨B + 1, 0, none⟩), .pointer (some ⟨B, 0, none⟩)])).alloc (.cells #[.int .i64 0] 3)).alloc (.cells #[.int .i64 0] 3)).heap.size = wr.heap.size + 2 := by simp [hxs]
  have old : ∀ b, b ≠ B + 4 → b < wr.heap.size → W.heap[b]? = wr.heap[b]? := fun b h1 h2 => by
    rw [← hW, Below.heap_alloc _ _ _ (by omega), Below.heap_alloc _ _ _ (by omega), Below.heap_alloc _ _ _ (by omega), Below.heap_setCell _ _ _ _ (by simpa using h1), hx b h1]
  have h4 : W.heap[B + 4]? = some (.cells #[.pointer none, (.func (.func 18) #[] #[.pointer (some ⟨B + 2, 0, none⟩), .pointer (some ⟨wr.heap.size, 0, none⟩), .pointer (some ⟨B + 1, 0, none⟩), .pointer (some ⟨B, 0, none⟩)]), .nilIface, .int .u16 0, .int .i64 0, .pointer none, .slice none 0 0, v, .int .i64 (tot ln 0 pre : Nat), er] 62 (0, 0)) := by
    rw [← hW, Below.heap_alloc _ _ _ (by omega), Below.heap_alloc _ _ _ (by omega), Below.heap_alloc _ _ _ (by omega)]
    exact set_at hx4 1 _
  have c0 : W.heap[wr.heap.size]? = some (.cells #[.int .i64 0] 3 (0, 0)) := by
    rw [← hW, Below.heap_alloc _ _ _ (by omega), Below.heap_alloc _ _ _ (by omega)]
    refine Eq.trans ?_ (alloc_at (x.setCell ⟨B + 4, 1, none⟩ (.func (.func 18) #[] #[.pointer (some ⟨B + 2, 0, none⟩), .pointer (some ⟨wr.heap.size, 0, none⟩), .pointer (some ⟨B + 1, 0, none⟩), .pointer (some ⟨B, 0, none⟩)])) #[.int .i64 0] 3)
    rw [z1]
  have c1 : W.heap[wr.heap.size + 1]? = some (.cells #[.int .i64 0] 3 (0, 0)) := by
    rw [← hW, Below.heap_alloc _ _ _ (by omega)]
    refine Eq.trans ?_ (alloc_at ((x.setCell ⟨B + 4, 1, none⟩ (.func (.func 18) #[] #[.pointer (some ⟨B + 2, 0, none⟩), .pointer (some ⟨wr.heap.size, 0, none⟩), .pointer (some ⟨B + 1, 0, none⟩), .pointer (some ⟨B, 0, none⟩)])).alloc (.cells #[.int .i64 0] 3)) #[.int .i64 0] 3)
    rw [z2]
  have c2 : W.heap[wr.heap.size + 2]? = some (.cells #[.bool true] 4 (0, 0)) := by
    rw [← hW]
    refine Eq.trans ?_ (alloc_at (((x.setCell ⟨B + 4, 1, none⟩ (.func (.func 18) #[] #[.pointer (some ⟨B + 2, 0, none⟩), .pointer (some ⟨wr.heap.size, 0, none⟩), .pointer (some ⟨B + 1, 0, none⟩), .pointer (some ⟨B, 0, none⟩)])).alloc (.cells #[.int .i64 0] 3)).alloc (.cells #[.int .i64 0] 3)) #[.bool true] 4)
    rw [z3]
  clear hW z1 z2 z3 hx hx4
  have mk : ∀ (g : Nat) (cur : Array Value) (A : Nat → Option Addr), (∃ a c, pre - 0 ≤ c ∧ c ≤ 9223372036854775807 ∧ (0 < pre → a = some ⟨g, 8 * 0, none⟩) ∧ v = .slice a pre c) → (0 < pre → wr.heap[g]? = some (.cells cur 69 (0, 0)) ∧ B + 5 ≤ g) → RowIs cur pre ln A → (∀ t, t < pre → (As[t]?).getD none = A t) →
      AS W B wr.heap.size a0 len cap ln pre aE er g cur A 0 0 0 := by
    intro g cur A hv hg hrow hAA
    obtain ⟨a, c, q1, q2, q3, rfl⟩ := hv
    refine ⟨?_, ?_, ?_, ?_, ⟨a, c, q1, q2, q3, h4⟩, c0, c1, c2, by omega, ?_, ?_, hp, h.eB, ?_, ?_, hrow, ?_⟩
    · rw [old _ (by omega) (by omega)]; exact h.h0
    · rw [old _ (by omega) (by omega)]; exact h.h1
    · rw [old _ (by omega) (by omega)]; exact h.h2
    · rw [old _ (by omega) (by omega)]; exact h.h3
    · rw [World.cell?_of_block (w := wr) (old 0 (by omega) (by omega))]; exact h.e0
    · obtain ⟨cE, tE, hE⟩ := h.e1
      have := h.eB
      exact ⟨cE, tE, by rw [old _ (by omega) (by omega)]; exact hE⟩
    · intro i hi
      obtain ⟨lb, off, e, hlb, hc⟩ := h.ls i hi
      exact ⟨lb, off, e, hlb, by rw [World.cell?_of_block (w := wr) (old lb (by omega) (by omega))]; exact hc⟩
    · intro hpos
      obtain ⟨r1, r2⟩ := hg hpos
      have := lt_of_at r1
      exact ⟨by rw [old _ (by omega) (by omega)]; exact r1, r2, this⟩
    · intro i hi
      obtain ⟨b, cs, hA, hb, hh, hc⟩ := h.data i hi
      have := lt_of_at hh
      refine ⟨b, 0, by rw [← hAA i hi, hA]; rfl, hb, this, fun t ht => ?_⟩
      have hh' : W.heap[b]? = some (.cells cs 5 (0, 0)) := by rw [old _ (by omega) (by omega)]; exact hh
      rw [Nat.zero_add]
      exact (cell_at hh' t).trans (hc t ht)
  obtain ⟨hl, ⟨hv, hz⟩ | ⟨g, c, cur, hv, hb, hh, hc1, hc2, _, htake⟩⟩ := h.own
  · exact ⟨0, #[], fun t => (As[t]?).getD none, mk _ _ _ ⟨none, 0, by omega, by omega, fun h => by omega, by rw [hv, hz]⟩ (fun h => by omega) (fun i hi => by omega) (fun _ _ => rfl)⟩
  · refine ⟨g, cur, fun t => (As[t]?).getD none, mk _ _ _ ⟨_, c, hc1, hc2, fun _ => rfl, hv⟩ (fun _ => ⟨hh, hb⟩) (fun i hi c hc => ?_) (fun _ _ => rfl)⟩
    obtain ⟨b, cs, hA, _⟩ := h.data i hi
    have hg := rowCells_get ln As 0 i c _ hA hc
    rw [← htake, List.getElem?_take, if_pos (by omega), Nat.zero_add] at hg
    simp only [hA, Option.getD_some]
    rw [← Array.getElem?_toList, hg]
    simp [elem]
set_option maxHeartbeats 1600000 in
theorem ahd_core (F : Interp) (a0 : Option Addr) (len cap st : Nat) (ln : Nat → Nat) (aE : Addr) (w : World) (hF : F.answers w.tape) (hlen : len ≤ 1024) (hln : ∀ i, ln i < 256) (hst : st < 256)
    (hp : 0 < w.heap.size) (e0 : w.cell? ⟨0, 0, none⟩ = some (.iface 75 (.pointer (some aE)))) (e1 : ∃ cE tE, w.heap[aE.block]? = some (.cells cE tE (0, 0))) (eB : aE.block < w.heap.size)
    (ls : ∀ i, i < len → ∃ lb off, a0 = some ⟨lb, off, none⟩ ∧ lb < w.heap.size ∧ w.cell? ⟨lb, off + i, none⟩ = some (.int .u8 (ln i : Nat))) :
    Calls Ybaf.prog 5 #[.slice a0 len cap, .int .u8 st] w fun e w' => e = .returned (.bool true) ∧ Below w.heap.size w w' := by
  have hmf := mkf
  have hm : (len : Int).tdiv 2 = ((len / 2 : Nat) : Int) := by rw [Int.tdiv_eq_ediv_of_nonneg (by omega)]; omega
  have hm' : (len : Int) / 2 = ((len / 2 : Nat) : Int) := by omega
  have hpre : len / 2 ≤ len := by omega
  generalize len / 2 = pre at *
  go_enter Ybaf.func5, Ybaf.ntmps5
  go_wp2_with (go_at_call 11; refine (new_any _ _).mono ?_; rintro e w' ⟨rfl, rfl⟩)
  simp only [Nat.add_assoc, Nat.reduceAdd]
  clear hm hm'
  have hS := bs_start w a0 len cap ln pre aE hp e0 e1 eB ls
  have bS := allocs_below [.cells #[.slice a0 len cap] 25, .cells #[.int .i64 len] 3, .cells #[.int .i64 pre] 3, .cells #[.string ⟨#[115, 116, 111, 112, 112, 101, 100]⟩] 77, .cells #[.pointer none, .nilFunc, .nilIface, .int .u16 0, .int .i64 0, .pointer none, .slice none 0 0, .slice none 0 0, .int .i64 0, .nilIface] 62] w
  simp only [allocs] at hS bS
  generalize World.alloc (World.alloc (World.alloc (World.alloc (World.alloc w _) _) _) _) _ = ws at *
  generalize hB : w.heap.size = B at *
  clear ls e0 e1
  go_loopw [9, 10] (fun i _ wr => ∃ (k : Nat) (v : Value) (As : List (Option Addr)), k ≤ pre ∧ i = .int .i64 k ∧ BS wr B a0 len cap ln pre aE k v As ∧ Below B w wr) (fun i _ _ => pre - (intOf i).toNat)
  case atStart => exact ⟨0, _, _, Nat.zero_le _, rfl, hS, bS⟩
  case round =>
    clear hS bS
    obtain ⟨i, v, As, hik, rfl, hV, hb⟩ := hrel
    have c2 := cell_at hV.h2 0
    simp at c2
    have hs4 := lt_of_at hV.h4
    by_cases hlt : i < pre
    · have c0 := cell_at hV.h0 0
      obtain ⟨lb, off, rfl, hlb, hc⟩ := hV.ls i (by omega)
      simp at c0
      go_wp2_with fail
      refine (data_block i (ln i) _ (by omega) (hln i)).mono ?_
      rintro e w1 ⟨rfl, ⟨cs, hD, hcs⟩, b1⟩
      have hs1 := b1.size
      have h4 : w1.heap[B + 4]? = some (.cells #[.pointer none, .nilFunc, .nilIface, .int .u16 0, .int .i64 0, .pointer none, .slice none 0 0, v, .int .i64 (tot ln 0 i : Nat), .nilIface] 62 (0, 0)) := by rw [b1.block _ hs4]; exact hV.h4
      have d7 := cell_at h4 7
      simp at d7
      have ht7 := tot_le ln i 0
      have hts := tot_snoc ln i 0
      rw [Nat.zero_add] at hts
      have hL : ln i % 8 < 8 := by omega
      generalize hel : ln i % 8 = L at *
      generalize hT : tot ln 0 i = T at *
      obtain ⟨i0, z, hi, hz0, hz1, hz2, hz3⟩ := info69'
      have hown := own_below hV.own b1
      go_wp2_with (at_builtin; (refine wpList_append_own _ rfl _ _ 60 rfl (B + 5) 69 i0 z 8 80 Ybaf.underlying60 hi hz0 hz1 hz2 hz3 (by decide) v i (rowCells ln 0 As) rfl (hown.alloc _) ⟨w1.heap.size, 0, none⟩ 1 1 [.int .u64 0, .int .i64 0, .pointer none, .int .u16 0, .slice (some ⟨wr.heap.size, 0, none⟩) L L, .int .i64 i, .bool false, .pointer none] rfl rfl (cells_new _ _ _) (by intro u hu; simp at hu; rcases hu with rfl | rfl | rfl | rfl | rfl | rfl | rfl | rfl <;> rfl) (by unfold maxLen; omega) (by omega) (by simp; omega) ?_); intro v' w2 hown' hgrow hnil; obtain ⟨g', c', rfl⟩ := own_slice hown'; have hst' := BS.step hV b1 hD (by rw [hel]; exact hcs) (by unfold elem; rw [hel]; exact hown') hgrow ((T : Int) + (L : Int)) (by rw [hts]; simp); have k7 := cell_at hst'.2.2 7; have k8 := cell_at hst'.2.2 8; have kf7 := free_at hst'.2.2 7; have kf8 := free_at hst'.2.2 8; rw [hT] at k8; simp at k7 k8)
      go_roundw
      case rel => exact ⟨i + 1, _, _, hlt, by go_num, hst'.1, hb.trans hst'.2.1⟩
      case measure => simp [intOf]; omega
    · obtain rfl : i = pre := by omega
      have hm3 : (st : Int) % 3 = ((st % 3 : Nat) : Int) := by omega
      have hs3 : st % 3 < 3 := by omega
      generalize st % 3 = s at *
      have c9 := cell_at hV.h4 9
      have f9 := free_at hV.h4 9
      have c1 := cell_at hV.h4 1
      have f1 := free_at hV.h4 1
      have ce := hV.e0
      simp at c9 c1
      obtain rfl | rfl | rfl : s = 0 ∨ s = 1 ∨ s = 2 := by omega
      · go_wp2_with fail
        obtain ⟨g, cur, A, hA⟩ := as_start hV .nilIface (fun _ _ => rfl) rfl hV.h4
        have bW := (((hb.setCell (p := ⟨B + 4, 1, none⟩) (by simp) (.func (.func 18) #[] #[.pointer (some ⟨B + 2, 0, none⟩), .pointer (some ⟨wr.heap.size, 0, none⟩), .pointer (some ⟨B + 1, 0, none⟩), .pointer (some ⟨B, 0, none⟩)])).alloc (by have := hb.size; simp [World.setCell]; omega) (.cells #[.int .i64 0] 3)).alloc (by have := hb.size; simp [World.setCell]; omega) (.cells #[.int .i64 0] 3)).alloc (by have := hb.size; simp [World.setCell]; omega) (.cells #[.bool true] 4)
        generalize World.alloc (World.alloc (World.alloc (World.setCell wr _ _) _) _) _ = W at *
        clear c9 f9 c1 f1 ce c2 hV
        refine (each_nil hA hlen hln hpre).mono ?_
        rintro e w2 ⟨rfl, ⟨k, hk, v2⟩, o2⟩
        have bel : Below B w w2 := bW.trans (o2.below (by have := hA.size; omega) (fun i hi => by rcases hi with hi | hi | hi <;> omega))
        clear o2 bW hA
        obtain ⟨aa, cc, -, -, -, h4⟩ := v2.h4
        have d7 := cell_at h4 7
        have d8 := cell_at h4 8
        have d0 := cell_at v2.c0 0
        have d1 := cell_at v2.c1 0
        have d2 := cell_at v2.c2 0
        have g1 := cell_at v2.h1 0
        have g2 := cell_at v2.h2 0
        simp [tot] at d7 d8 d0 d1 d2 g1 g2
        clear h4 v2
        go_wp2_with fail
        go_ret
        have hk1 : ((k : Int) + 1 == (len : Int) - (i : Int) + 1) = true := by rw [beq_iff_eq]; omega
        refine ⟨?_, by rw [hB]; exact bel⟩
        show Ending.returned (.bool ((k : Int) + 1 == (len : Int) - (i : Int) + 1)) = _
        rw [hk1]
      · go_wp2_with fail
        obtain ⟨g, cur, A, hA⟩ := as_start (x := wr.setCell ⟨B + 4, 9, none⟩ (Value.iface 75 (.pointer (some aE)))) hV (.iface 75 (.pointer (some aE))) (fun b h => Below.heap_setCell _ _ _ _ (by simpa using h)) (by simp [World.setCell]) (set_at hV.h4 9 _)
        have bW := ((((hb.setCell (p := ⟨B + 4, 9, none⟩) (by simp) (Value.iface 75 (.pointer (some aE)))).setCell (p := ⟨B + 4, 1, none⟩) (by simp) (.func (.func 18) #[] #[.pointer (some ⟨B + 2, 0, none⟩), .pointer (some ⟨wr.heap.size, 0, none⟩), .pointer (some ⟨B + 1, 0, none⟩), .pointer (some ⟨B, 0, none⟩)])).alloc (by have := hb.size; simp [World.setCell]; omega) (.cells #[.int .i64 0] 3)).alloc (by have := hb.size; simp [World.setCell]; omega) (.cells #[.int .i64 0] 3)).alloc (by have := hb.size; simp [World.setCell]; omega) (.cells #[.bool true] 4)
        generalize World.alloc (World.alloc (World.alloc (World.setCell (World.setCell wr _ _) _ _) _) _) _ = W at *
        clear c9 f9 c1 f1 ce c2 hV
        refine (each_eof hA hlen hln hpre).mono ?_
        rintro e w2 ⟨rfl, v2, o2⟩
        have bel : Below B w w2 := bW.trans (o2.below (by have := hA.size; omega) (fun i hi => by rcases hi with hi | hi | hi <;> omega))
        clear o2 bW hA
        obtain ⟨aa, cc, -, -, -, h4⟩ := v2.h4
        have d7 := cell_at h4 7
        have d8 := cell_at h4 8
        have d0 := cell_at v2.c0 0
        have d1 := cell_at v2.c1 0
        have d2 := cell_at v2.c2 0
        have g1 := cell_at v2.h1 0
        have g2 := cell_at v2.h2 0
        simp [tot] at d7 d8 d0 d1 d2 g1 g2
        clear h4 v2
        go_wp2_with fail
        go_ret
        exact ⟨rfl, by rw [hB]; exact bel⟩
      · go_wp2_with fail
        obtain ⟨g, cur, A, hA⟩ := as_start (x := wr.setCell ⟨B + 4, 9, none⟩ (Value.iface 75 (.pointer (some ⟨B + 3, 0, none⟩)))) hV (.iface 75 (.pointer (some ⟨B + 3, 0, none⟩))) (fun b h => Below.heap_setCell _ _ _ _ (by simpa using h)) (by simp [World.setCell]) (set_at hV.h4 9 _)
        have bW := ((((hb.setCell (p := ⟨B + 4, 9, none⟩) (by simp) (Value.iface 75 (.pointer (some ⟨B + 3, 0, none⟩)))).setCell (p := ⟨B + 4, 1, none⟩) (by simp) (.func (.func 18) #[] #[.pointer (some ⟨B + 2, 0, none⟩), .pointer (some ⟨wr.heap.size, 0, none⟩), .pointer (some ⟨B + 1, 0, none⟩), .pointer (some ⟨B, 0, none⟩)])).alloc (by have := hb.size; simp [World.setCell]; omega) (.cells #[.int .i64 0] 3)).alloc (by have := hb.size; simp [World.setCell]; omega) (.cells #[.int .i64 0] 3)).alloc (by have := hb.size; simp [World.setCell]; omega) (.cells #[.bool true] 4)
        generalize World.alloc (World.alloc (World.alloc (World.setCell (World.setCell wr _ _) _ _) _) _) _ = W at *
        clear c9 f9 c1 f1 ce c2 hV
        refine (each_custom F (by rw [bW.tape]; exact hF) hA hlen hln hpre).mono ?_
        rintro e w2 ⟨⟨pb, hpb, hpl, rfl, hpc⟩, v2, o2⟩
        have bel : Below B w w2 := bW.trans (o2.below (by have := hA.size; omega) (fun i hi => by rcases hi with hi | hi | hi <;> omega))
        clear o2 bW hA
        obtain ⟨aa, cc, -, -, -, h4⟩ := v2.h4
        have d7 := cell_at h4 7
        have d8 := cell_at h4 8
        have d0 := cell_at v2.c0 0
        have d1 := cell_at v2.c1 0
        have d2 := cell_at v2.c2 0
        have g1 := cell_at v2.h1 0
        have g2 := cell_at v2.h2 0
        simp [tot] at d7 d8 d0 d1 d2 g1 g2
        clear h4 v2
        have hq := neq_types
        go_wp2_with (go_at_call 17; refine (is_wrap_same pb _ _ hpc).mono ?_; rintro e w' ⟨rfl, rfl⟩)
        go_ret
        exact ⟨rfl, by rw [hB]; exact bel⟩

set_option maxHeartbeats 400000 in
theorem ahd_long (a0 : Option Addr) (len cap st : Nat) (w : World) (h : 1024 < len) (_hm : len ≤ 9223372036854775807) :
    Calls Ybaf.prog 5 #[.slice a0 len cap, .int .u8 st] w fun e w' => e = .returned (.bool true) ∧ Below w.heap.size w w' := by
  go_enter Ybaf.func5, Ybaf.ntmps5
  go_wp2_with fail
  go_ret
  exact ⟨rfl, (Below.refl _ _).alloc (Nat.le_refl _) _⟩
end Go.Proofs.YbulkbmguFmt.ahd
