import Derived.Test.YbulkbmguFmtVisEach
namespace Go.Proofs.YbulkbmguFmt
open Go.RowKit Go.Extern.Stop Go.Stop Go.Extern
set_option maxRecDepth 100000

theorem mkf (fn : Fn) (first cap : Array Value) (w : World) : (Instr.makeFunc fn first cap).run Ybaf.prog w = .ok (.func fn first cap) w := rfl

theorem eq_same (a : Addr) (w : World) : (binOp .eql 34 (.iface 75 (.pointer (some a))) (.iface 75 (.pointer (some a)))).run Ybaf.prog w = .ok (.bool true) w := by
  obtain ⟨i, hi, hcmp⟩ := Option.map_eq_some_iff.1 isComp
  obtain ⟨j, hj, hjs⟩ := Option.map_eq_some_iff.1 isSize
  exact run_eql_iface_ptr_same (P := Ybaf.prog) w a Ybaf.underlying34 Ybaf.underlying75 hi hcmp hj
theorem neq_types (x y : Value) (w : World) : (binOp .neq 34 (.iface 86 x) (.iface 75 y)).run Ybaf.prog w = .ok (.bool true) w := by
  have h : ∀ d : Nat, (Op.equalIn (d + 1) 34 (.iface 86 x) (.iface 75 y)).run Ybaf.prog w = .ok false w := fun d => by
    simp [Op.equalIn, run_underlying Ybaf.underlying34]
  simp only [binOp]
  simp [Op.equal, Op.maxDepth, h 9999]

theorem vs_start (w : World) (a0 : Option Addr) (len cap stop : Nat) (fail : Bool) (ln : Nat → Nat) (aE : Addr) (hp : 0 < w.heap.size) (e0 : w.cell? ⟨0, 0, none⟩ = some (.iface 75 (.pointer (some aE)))) (e1 : ∃ cE tE, w.heap[aE.block]? = some (.cells cE tE (0, 0))) (eB : aE.block < w.heap.size)
    (ls : ∀ i, i < len → ∃ lb off, a0 = some ⟨lb, off, none⟩ ∧ lb < w.heap.size ∧ w.cell? ⟨lb, off + i, none⟩ = some (.int .u8 (ln i : Nat))) (w' : World) (hb : Below w.heap.size w w')
    (h0 : w'.heap[w.heap.size]? = some (.cells #[.slice a0 len cap] 25 (0, 0))) (h1 : w'.heap[w.heap.size + 1]? = some (.cells #[.bool fail] 4 (0, 0))) (h2 : w'.heap[w.heap.size + 2]? = some (.cells #[.int .i64 len] 3 (0, 0)))
    (h3 : w'.heap[w.heap.size + 3]? = some (.cells #[.int .i64 stop] 3 (0, 0))) (h4 : w'.heap[w.heap.size + 4]? = some (.cells #[.string ⟨#[115, 114, 99]⟩] 77 (0, 0))) (h5 : w'.heap[w.heap.size + 5]? = some (.cells #[.iface 75 (.pointer (some ⟨w.heap.size + 4, 0, none⟩))] 34 (0, 0)))
    (h6 : w'.heap[w.heap.size + 6]? = some (.cells #[.string ⟨#[118, 105, 115, 105, 116]⟩] 77 (0, 0))) (h7 : w'.heap[w.heap.size + 7]? = some (.cells #[.iface 75 (.pointer (some ⟨w.heap.size + 6, 0, none⟩))] 34 (0, 0))) (h8 : w'.heap[w.heap.size + 8]? = some (.cells #[.int .i64 0] 3 (0, 0)))
    (h9 : w'.heap[w.heap.size + 9]? = some (.cells #[.pointer none, .func (.func 12) #[] #[.pointer (some ⟨w.heap.size + 8, 0, none⟩), .pointer (some ⟨w.heap.size + 2, 0, none⟩), .pointer (some ⟨w.heap.size, 0, none⟩), .pointer (some ⟨w.heap.size + 1, 0, none⟩), .pointer (some ⟨w.heap.size + 5, 0, none⟩)], .nilIface, .int .u16 0, .int .i64 0, .pointer none, .slice none 0 0, .slice none 0 0, .int .i64 0, .nilIface] 62 (0, 0)))
    (h10 : w'.heap[w.heap.size + 10]? = some (.cells #[.int .i64 0] 3 (0, 0))) (h11 : w'.heap[w.heap.size + 11]? = some (.cells #[.bool true] 4 (0, 0))) :
    VS w' w.heap.size a0 len cap ln stop fail aE 0 0 := by
  obtain ⟨cE, tE, hE⟩ := e1
  exact ⟨h0, h1, h2, h3, h4, h5, h6, h7, h8, h9, h10, h11, by rw [hb.cell (p := ⟨0, 0, none⟩) hp]; exact e0, ⟨cE, tE, by rw [hb.block _ eB]; exact hE⟩, hp, eB, fun i hi => by
    obtain ⟨lb, off, e, hl, hc⟩ := ls i hi
    exact ⟨lb, off, e, hl, by rw [hb.cell (p := ⟨lb, off + i, none⟩) hl]; exact hc⟩⟩

set_option maxHeartbeats 800000 in
theorem vis_core (F : Interp) (a0 : Option Addr) (len cap st : Nat) (fail : Bool) (ln : Nat → Nat) (aE : Addr) (w : World) (hF : F.answers w.tape) (hlen : len ≤ 1024) (hln : ∀ i, ln i < 256) (hst : st < 256)
    (hp : 0 < w.heap.size) (e0 : w.cell? ⟨0, 0, none⟩ = some (.iface 75 (.pointer (some aE)))) (e1 : ∃ cE tE, w.heap[aE.block]? = some (.cells cE tE (0, 0))) (eB : aE.block < w.heap.size)
    (ls : ∀ i, i < len → ∃ lb off, a0 = some ⟨lb, off, none⟩ ∧ lb < w.heap.size ∧ w.cell? ⟨lb, off + i, none⟩ = some (.int .u8 (ln i : Nat))) :
    Calls Ybaf.prog 4 #[.slice a0 len cap, .int .u8 st, .bool fail] w fun e w' => e = .returned (.bool true) ∧ Below w.heap.size w w' := by
  have hmf := mkf
  have hm : (st : Int) % ((len : Int) + 2) = ((st % (len + 2) : Nat) : Int) := by simp
  have hsm : st % (len + 2) < len + 2 := Nat.mod_lt _ (by omega)
  generalize st % (len + 2) = stop at *
  go_enter Ybaf.func4, Ybaf.ntmps4
  go_wp2_with (go_at_call 11; refine (new_any _ _).mono ?_; rintro e w' ⟨rfl, rfl⟩)
  simp only [Nat.add_assoc, Nat.reduceAdd]
  generalize hw1 : World.alloc (World.alloc (World.alloc (World.alloc (World.alloc (World.alloc (World.alloc (World.alloc (World.alloc (World.alloc (World.alloc (World.alloc w _) _) _) _) _) _) _) _) _) _) _) _ = w1
  have ew : w1 = allocs w [.cells #[.slice a0 len cap] 25, .cells #[.bool fail] 4, .cells #[.int .i64 len] 3, .cells #[.int .i64 stop] 3, .cells #[.string ⟨#[115, 114, 99]⟩] 77, .cells #[.iface 75 (.pointer (some ⟨w.heap.size + 4, 0, none⟩))] 34, .cells #[.string ⟨#[118, 105, 115, 105, 116]⟩] 77, .cells #[.iface 75 (.pointer (some ⟨w.heap.size + 6, 0, none⟩))] 34, .cells #[.int .i64 0] 3,
      .cells #[.pointer none, .func (.func 12) #[] #[.pointer (some ⟨w.heap.size + 8, 0, none⟩), .pointer (some ⟨w.heap.size + 2, 0, none⟩), .pointer (some ⟨w.heap.size, 0, none⟩), .pointer (some ⟨w.heap.size + 1, 0, none⟩), .pointer (some ⟨w.heap.size + 5, 0, none⟩)], .nilIface, .int .u16 0, .int .i64 0, .pointer none, .slice none 0 0, .slice none 0 0, .int .i64 0, .nilIface] 62, .cells #[.int .i64 0] 3, .cells #[.bool true] 4] := hw1.symm
  have b1 : Below w.heap.size w w1 := by rw [ew]; exact allocs_below _ w
  have v1 : VS w1 w.heap.size a0 len cap ln stop fail aE 0 0 := by
    refine vs_start w a0 len cap stop fail ln aE hp e0 e1 eB ls w1 b1 ?_ ?_ ?_ ?_ ?_ ?_ ?_ ?_ ?_ ?_ ?_ ?_ <;> rw [ew]
    · exact allocs_at _ w 0 _ rfl
    · exact allocs_at _ w 1 _ rfl
    · exact allocs_at _ w 2 _ rfl
    · exact allocs_at _ w 3 _ rfl
    · exact allocs_at _ w 4 _ rfl
    · exact allocs_at _ w 5 _ rfl
    · exact allocs_at _ w 6 _ rfl
    · exact allocs_at _ w 7 _ rfl
    · exact allocs_at _ w 8 _ rfl
    · exact allocs_at _ w 9 _ rfl
    · exact allocs_at _ w 10 _ rfl
    · exact allocs_at _ w 11 _ rfl
  clear ew
  clear hw1
  refine (each_any F w1 w.heap.size a0 len cap ln stop fail aE v1 (by rw [b1.tape]; exact hF) hlen hln).mono ?_
  rintro e w2 ⟨o2, hend⟩
  have bel : Below w.heap.size w w2 := b1.trans (o2.below b1.size (fun i hi => by rcases hi with hi | hi <;> omega))
  clear o2 b1 v1 ls e0 e1
  rcases hend with ⟨k1, k2, rfl, v2⟩ | ⟨hno, rfl, rfl, v2⟩ | ⟨hno, rfl, pb, hpb, hpl, rfl, hpc, v2⟩
  · have c11 := cell_at v2.h11 0
    have c3 := cell_at v2.h3 0
    have c2 := cell_at v2.h2 0
    have c7 := cell_at v2.h7 0
    have c8 := cell_at v2.h8 0
    have c10 := cell_at v2.h10 0
    simp at c11 c3 c2 c7 c8 c10
    clear v2
    have hq := eq_same
    go_wp2_with fail
    go_ret
    exact ⟨rfl, bel⟩
  · have c11 := cell_at v2.h11 0
    have c3 := cell_at v2.h3 0
    have c2 := cell_at v2.h2 0
    have c1 := cell_at v2.h1 0
    have c8 := cell_at v2.h8 0
    have c10 := cell_at v2.h10 0
    simp at c11 c3 c2 c1 c8 c10
    clear v2
    by_cases g1 : 1 ≤ stop
    · have g2 : ¬ stop ≤ len := fun hh => hno ⟨g1, hh⟩
      clear hno
      go_wp2_with fail
      go_ret
      exact ⟨rfl, bel⟩
    · clear hno
      go_wp2_with fail
      go_ret
      exact ⟨rfl, bel⟩
  · have c11 := cell_at v2.h11 0
    have c3 := cell_at v2.h3 0
    have c2 := cell_at v2.h2 0
    have c1 := cell_at v2.h1 0
    have c8 := cell_at v2.h8 0
    have c10 := cell_at v2.h10 0
    have c5 := cell_at v2.h5 0
    simp at c11 c3 c2 c1 c8 c10 c5
    clear v2
    have hq := neq_types
    by_cases g1 : 1 ≤ stop
    · have g2 : ¬ stop ≤ len := fun hh => hno ⟨g1, hh⟩
      clear hno
      go_wp2_with (go_at_call 17; refine (is_wrap_same pb _ _ hpc).mono ?_; rintro e w' ⟨rfl, rfl⟩)
      go_ret
      exact ⟨rfl, bel⟩
    · clear hno
      go_wp2_with (go_at_call 17; refine (is_wrap_same pb _ _ hpc).mono ?_; rintro e w' ⟨rfl, rfl⟩)
      go_ret
      exact ⟨rfl, bel⟩

set_option maxHeartbeats 400000 in
theorem vis_long (a0 : Option Addr) (len cap st : Nat) (fail : Bool) (w : World) (h : 1024 < len) (_hm : len ≤ 9223372036854775807) :
    Calls Ybaf.prog 4 #[.slice a0 len cap, .int .u8 st, .bool fail] w fun e w' => e = .returned (.bool true) ∧ Below w.heap.size w w' := by
  go_enter Ybaf.func4, Ybaf.ntmps4
  go_wp2_with fail
  go_ret
  exact ⟨rfl, ((Below.refl _ _).alloc (Nat.le_refl _) _).alloc (by simp) _⟩
end Go.Proofs.YbulkbmguFmt
