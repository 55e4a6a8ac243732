/-
  THE WALK OF LawS0107BHist.
-/
import Derived.Test.YbulkbeqFmtNodeHist
import Derived.Test.YbulkbeqFmtCallsWalk
namespace Go.Proofs.YbulkbeqFmt
open Go.RowKit

theorem six_2 (w : World) (o0 o1 o2 o3 o4 o5 : Obj) : ((((((w.alloc o0).alloc o1).alloc o2).alloc o3).alloc o4).alloc o5).heap[w.heap.size + 2]? = some o2 := by
  rw [Below.heap_alloc _ _ _ (by simp), Below.heap_alloc _ _ _ (by simp), Below.heap_alloc _ _ _ (by simp)]
  exact new_block _ _ _ (by simp)
theorem six_3 (w : World) (o0 o1 o2 o3 o4 o5 : Obj) : ((((((w.alloc o0).alloc o1).alloc o2).alloc o3).alloc o4).alloc o5).heap[w.heap.size + 3]? = some o3 := by
  rw [Below.heap_alloc _ _ _ (by simp), Below.heap_alloc _ _ _ (by simp)]
  exact new_block _ _ _ (by simp)
theorem six_5 (w : World) (o0 o1 o2 o3 o4 o5 : Obj) : ((((((w.alloc o0).alloc o1).alloc o2).alloc o3).alloc o4).alloc o5).heap[w.heap.size + 5]? = some o5 := new_block _ _ _ (by simp)
theorem six_size (w : World) (o0 o1 o2 o3 o4 o5 : Obj) : w.heap.size + 6 ≤ ((((((w.alloc o0).alloc o1).alloc o2).alloc o3).alloc o4).alloc o5).heap.size := by simp
theorem six_below (w : World) (o0 o1 o2 o3 o4 o5 : Obj) : Below w.heap.size w ((((((w.alloc o0).alloc o1).alloc o2).alloc o3).alloc o4).alloc o5) :=
  ((((((Below.refl _ _).alloc (Nat.le_refl _) _).alloc (by simp) _).alloc (by simp; omega) _).alloc (by simp; omega) _).alloc (by simp; omega) _).alloc (by simp; omega) _
theorem frozen_of_block {W : World} {b j : Nat} {cs : Array Value} {t : TypeId} (h : W.heap[b]? = some (.cells cs t (0, 0))) : W.frozen? ⟨b, j, none⟩ = false := by
  simp [World.frozen?, h]
theorem Kept2.below {base b wb B : Nat} {w w0 w' : World} (h : Kept2 base b wb w0 w') (hb : Below B w w0) (hB : B ≤ base) (h1 : B ≤ b) (h2 : B ≤ wb) : Below B w w' :=
  hb.trans ⟨h.os, h.tape, h.output, h.size, fun k hk => h.block k (by omega) (by omega) (by omega)⟩

set_option maxRecDepth 1000000 in
set_option maxHeartbeats 800000 in
/-- The memory fails. -/
theorem hist_mem (name : ByteArray) (take : Int) (failW : Bool) (node : Int) (w : World) :
    Calls Ybaf.prog 4 #[.string name, .int .u64 take, .bool true, .bool failW, .int .i64 node] w fun e w' => e = .returned (.bool true) ∧ Below w.heap.size w w' := by
  have hmm := @run_makeMap Ybaf.prog
  cases failW
  all_goals
    go_enter Ybaf.func4, Ybaf.ntmps4
    go_wp2_with (go_at_call 5; go_in)
    refine (node_err (w.heap.size + 6) (w.heap.size + 5) (w.heap.size + 2) take ⟨w.heap.size, 0, none⟩ name _ (by omega) (by omega) ?hc ?hm).mono ?_
    case hc => exact cell_of_block (six_5 _ _ _ _ _ _ _) rfl
    case hm => exact mem_start (by omega) (six_size _ _ _ _ _ _ _) (six_2 _ _ _ _ _ _ _)
    rintro e w1 ⟨rfl, hm1, hk1⟩
    have HM1 : Hid _ := hm1
    have HB : Hid (Below w.heap.size w w1) := hk1.below (six_below _ _ _ _ _ _ _) (by omega) (by omega)
    have hw0 : w1.cell? ⟨w.heap.size + 3, 0, none⟩ = some (.int .i64 0) := (hk1.cell 0 (by omega) (by omega)).trans (cell_of_block (six_3 _ _ _ _ _ _ _) rfl)
    clear hm1 hk1
    go_wp2_with fail
    refine (called_any _ _ _ _ name _ HM1.out).mono ?_
    rintro e w2 ⟨rfl, rfl⟩
    go_wp2_with fail
    refine (is_same _ _).mono ?_
    rintro e w3 ⟨rfl, rfl⟩
    go_wp2
    go_ret
    exact ⟨rfl, HB.out⟩

set_option maxRecDepth 1000000 in
set_option maxHeartbeats 800000 in
/-- The writer fails. -/
theorem hist_w (name : ByteArray) (take : Int) (node : Int) (w : World) :
    Calls Ybaf.prog 4 #[.string name, .int .u64 take, .bool false, .bool true, .int .i64 node] w fun e w' => e = .returned (.bool true) ∧ Below w.heap.size w w' := by
  have hmm := @run_makeMap Ybaf.prog
  go_enter Ybaf.func4, Ybaf.ntmps4
  go_wp2_with (go_at_call 5; go_in)
  refine (node_hist (w.heap.size + 6) (w.heap.size + 5) (w.heap.size + 2) (w.heap.size + 3) take node (.iface 48 (.pointer (some ⟨w.heap.size + 1, 0, none⟩))) name _ (by omega) (by omega) (by omega) (by omega) (by omega) ?hc ?hd ?hh ?h0 ?h1 ?hf rfl ?hm).mono ?_
  case hc => exact cell_of_block (six_5 _ _ _ _ _ _ _) rfl
  case hd => exact cell_of_block (six_5 _ _ _ _ _ _ _) rfl
  case hh => exact cell_of_block (six_5 _ _ _ _ _ _ _) rfl
  case h0 => exact cell_of_block (six_3 _ _ _ _ _ _ _) rfl
  case h1 => exact cell_of_block (six_3 _ _ _ _ _ _ _) rfl
  case hf => exact frozen_of_block (six_3 _ _ _ _ _ _ _)
  case hm => exact mem_start (by omega) (six_size _ _ _ _ _ _ _) (six_2 _ _ _ _ _ _ _)
  rintro e w1 ⟨rfl, hm1, hw0, hk1⟩
  have HM1 : Hid _ := hm1
  have HB : Hid (Below w.heap.size w w1) := hk1.below (six_below _ _ _ _ _ _ _) (by omega) (by omega) (by omega)
  clear hm1 hk1
  go_wp2_with fail
  refine (called_any _ _ _ _ name _ HM1.out).mono ?_
  rintro e w2 ⟨rfl, rfl⟩
  go_wp2_with fail
  refine (is_same _ _).mono ?_
  rintro e w3 ⟨rfl, rfl⟩
  go_wp2
  go_ret
  exact ⟨rfl, HB.out⟩

set_option maxRecDepth 1000000 in
set_option maxHeartbeats 800000 in
/-- Neither fails. -/
theorem hist_ok (name : ByteArray) (take : Int) (node : Int) (w : World) :
    Calls Ybaf.prog 4 #[.string name, .int .u64 take, .bool false, .bool false, .int .i64 node] w fun e w' => e = .returned (.bool true) ∧ Below w.heap.size w w' := by
  have hmm := @run_makeMap Ybaf.prog
  go_enter Ybaf.func4, Ybaf.ntmps4
  go_wp2_with (go_at_call 5; go_in)
  refine (node_hist (w.heap.size + 6) (w.heap.size + 5) (w.heap.size + 2) (w.heap.size + 3) take node .nilIface name _ (by omega) (by omega) (by omega) (by omega) (by omega) ?hc ?hd ?hh ?h0 ?h1 ?hf rfl ?hm).mono ?_
  case hc => exact cell_of_block (six_5 _ _ _ _ _ _ _) rfl
  case hd => exact cell_of_block (six_5 _ _ _ _ _ _ _) rfl
  case hh => exact cell_of_block (six_5 _ _ _ _ _ _ _) rfl
  case h0 => exact cell_of_block (six_3 _ _ _ _ _ _ _) rfl
  case h1 => exact cell_of_block (six_3 _ _ _ _ _ _ _) rfl
  case hf => exact frozen_of_block (six_3 _ _ _ _ _ _ _)
  case hm => exact mem_start (by omega) (six_size _ _ _ _ _ _ _) (six_2 _ _ _ _ _ _ _)
  rintro e w1 ⟨rfl, hm1, hw0, hk1⟩
  have HM1 : Hid _ := hm1
  have HB : Hid (Below w.heap.size w w1) := hk1.below (six_below _ _ _ _ _ _ _) (by omega) (by omega) (by omega)
  clear hm1 hk1
  go_wp2_with fail
  refine (called_any _ _ _ _ name _ HM1.out).mono ?_
  rintro e w2 ⟨rfl, rfl⟩
  go_wp2
  go_ret
  exact ⟨rfl, HB.out⟩
end Go.Proofs.YbulkbeqFmt
