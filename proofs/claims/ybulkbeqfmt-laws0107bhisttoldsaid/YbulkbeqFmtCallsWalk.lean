/-
  THE WALK OF LawS0107BCalls.
-/
import Derived.Test.YbulkbeqFmtNode
import Derived.Test.YbulkbeqFmtCalled
import Derived.Test.YbulkbeqFmtIs
namespace Go.Proofs.YbulkbeqFmt
open Go.RowKit

theorem Kept.below {base b B : Nat} {w w0 w' : World} (h : Kept base b w0 w') (hb : Below B w w0) (hB : B ≤ base) (hbB : B ≤ b) : Below B w w' :=
  hb.trans ⟨h.os, h.tape, h.output, h.size, fun k hk => h.block k (by omega) (by omega)⟩

/-- A new memory. -/
theorem mem_start {W : World} {base b : Nat} {take : Int} {err : Value} (hb : b < base) (hs : base ≤ W.heap.size) (h : W.heap[b]? = some (.cells #[.int .u64 take, err, .slice none 0 0, .slice none 0 0] 30 (0, 0))) : MemAt W base b take err [] [] :=
  ⟨hb, hs, by simp [World.cell?, h], by simp [World.cell?, h], by simp [World.frozen?, h], by simp [World.frozen?, h], none, 0, none, 0, by simp [World.cell?, h], by simp [World.cell?, h], World.ownsRow_nil _ _ _ _, World.ownsRow_nil _ _ _ _⟩

theorem new_block (w : World) (o : Obj) (k : Nat) (h : k = w.heap.size) : (w.alloc o).heap[k]? = some o := by subst h; exact heap_alloc_new w o
theorem cell_of_block {W : World} {b j : Nat} {cs : Array Value} {t : TypeId} {v : Value} (h : W.heap[b]? = some (.cells cs t (0, 0))) (hv : cs[j]? = some v) : W.cell? ⟨b, j, none⟩ = some v := by
  simp [World.cell?, h, hv]
theorem four_1 (w : World) (o0 o1 o2 o3 : Obj) : ((((w.alloc o0).alloc o1).alloc o2).alloc o3).heap[w.heap.size + 1]? = some o1 := by
  rw [Below.heap_alloc _ _ _ (by simp), Below.heap_alloc _ _ _ (by simp)]
  exact new_block _ _ _ (by simp)
theorem four_3 (w : World) (o0 o1 o2 o3 : Obj) : ((((w.alloc o0).alloc o1).alloc o2).alloc o3).heap[w.heap.size + 3]? = some o3 := new_block _ _ _ (by simp)
theorem four_size (w : World) (o0 o1 o2 o3 : Obj) : w.heap.size + 4 ≤ ((((w.alloc o0).alloc o1).alloc o2).alloc o3).heap.size := by simp
theorem four_below (w : World) (o0 o1 o2 o3 : Obj) : Below w.heap.size w ((((w.alloc o0).alloc o1).alloc o2).alloc o3) :=
  ((((Below.refl _ _).alloc (Nat.le_refl _) _).alloc (by simp) _).alloc (by simp; omega) _).alloc (by simp; omega) _

set_option maxRecDepth 1000000 in
set_option maxHeartbeats 800000 in
theorem calls_fail (name : ByteArray) (take : Int) (node : Int) (w : World) :
    Calls Ybaf.prog 3 #[.string name, .int .u64 take, .bool true, .int .i64 node] w fun e w' => e = .returned (.bool true) ∧ Below w.heap.size w w' := by
  have hmm := @run_makeMap Ybaf.prog
  go_enter Ybaf.func3, Ybaf.ntmps3
  go_wp2_with (go_at_call 5; go_in)
  refine (node_err (w.heap.size + 4) (w.heap.size + 3) (w.heap.size + 1) take ⟨w.heap.size, 0, none⟩ name _ (by omega) (by omega) ?hc ?hm).mono ?_
  case hc => exact cell_of_block (four_3 _ _ _ _ _) rfl
  case hm => exact mem_start (by omega) (four_size _ _ _ _ _) (four_1 _ _ _ _ _)
  rintro e w1 ⟨rfl, hm1, hk1⟩
  have HM1 : Hid _ := hm1
  have HB : Hid (Below w.heap.size w w1) := hk1.below (four_below _ _ _ _ _) (by omega) (by omega)
  clear hm1 hk1
  go_wp2_with fail
  refine (called_any _ _ _ _ name _ HM1.out).mono ?_
  rintro e w2 ⟨rfl, rfl⟩
  go_wp2_with fail
  refine (is_same _ _).mono ?_
  rintro e w3 ⟨rfl, rfl⟩
  go_wp2
  go_ret
  exact ⟨rfl, HB.out⟩

set_option maxRecDepth 1000000 in
set_option maxHeartbeats 800000 in
theorem calls_ok (name : ByteArray) (take : Int) (node : Int) (w : World) :
    Calls Ybaf.prog 3 #[.string name, .int .u64 take, .bool false, .int .i64 node] w fun e w' => e = .returned (.bool true) ∧ Below w.heap.size w w' := by
  have hmm := @run_makeMap Ybaf.prog
  go_enter Ybaf.func3, Ybaf.ntmps3
  go_wp2_with (go_at_call 5; go_in)
  refine (node_ok (w.heap.size + 4) (w.heap.size + 3) (w.heap.size + 1) take name _ (by omega) (by omega) ?hc ?hh ?hm).mono ?_
  case hc => exact cell_of_block (four_3 _ _ _ _ _) rfl
  case hh => exact cell_of_block (four_3 _ _ _ _ _) rfl
  case hm => exact mem_start (by omega) (four_size _ _ _ _ _) (four_1 _ _ _ _ _)
  rintro e w1 ⟨rfl, hm1, hk1⟩
  have HM1 : Hid _ := hm1
  have HB : Hid (Below w.heap.size w w1) := hk1.below (four_below _ _ _ _ _) (by omega) (by omega)
  clear hm1 hk1
  go_wp2_with fail
  refine (called_any _ _ _ _ name _ HM1.out).mono ?_
  rintro e w2 ⟨rfl, rfl⟩
  go_wp2
  go_ret
  exact ⟨rfl, HB.out⟩
end Go.Proofs.YbulkbeqFmt
