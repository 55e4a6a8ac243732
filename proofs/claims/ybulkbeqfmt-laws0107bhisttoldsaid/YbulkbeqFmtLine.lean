/-
  ONE LINE OF THE HISTORY: (Op).String, THE LAW's OWN WRITER's Write, fmt.Fprintln OVER BOTH. (No byte of fmt's text is used.)
-/
import Derived.Test.YbulkbeqFmtFacts
import Derived.WalkKit
import Derived.WalkSpells
import Derived.WalkLawsBesides
import Derived.Deep.QuietTactic
import Derived.BigQuiet
namespace Go.Proofs.YbulkbeqFmt
open Go.RowKit Go.Extern.Stop Go.Stop Go.Extern

attribute [local go_sem] call13 call15 guard fmt0 op3_100 op2_100 op54_99 op9_115 act63_118 typeStr63

set_option maxHeartbeats 400000 in
theorem string_any (n k v : Int) (name : ByteArray) (w : World) :
    Calls Ybaf.prog 14 #[.agg #[.int .i64 n, .int .u8 k, .string name, .int .i64 v]] w fun e w' => (∃ s, e = .returned (.string s)) ∧ Below w.heap.size w w' := by
  go_enter Ybaf.func14, Ybaf.ntmps14
  go_wp2
  go_ret
  exact ⟨⟨_, rfl⟩, by repeat (first | exact Below.refl _ _ | apply Below.drew | (refine Below.alloc ?_ (by simp <;> omega) _))⟩

/-- Of what was there only the writer's block has turned, and its counter reads 1. -/
structure Wrote (B wb : Nat) (w w' : World) : Prop where
  os : w'.os = w.os
  tape : w'.tape = w.tape
  output : w'.output = w.output
  size : w.heap.size ≤ w'.heap.size
  block : ∀ k, k < B → k ≠ wb → w'.heap[k]? = w.heap[k]?
  one : w'.cell? ⟨wb, 0, none⟩ = some (.int .i64 1)

theorem wrote_set {wb : Nat} {w : World} {u : Value} (h0 : w.cell? ⟨wb, 0, none⟩ = some u) (nq : Nat) : Wrote w.heap.size wb w ((w.setCell ⟨wb, 0, none⟩ (.int .i64 1)).drewN nq) :=
  ⟨rfl, rfl, rfl, by show _ ≤ (w.setCell ⟨wb, 0, none⟩ (.int .i64 1)).heap.size; simp, fun k _ hk => Below.heap_setCell w ⟨wb, 0, none⟩ (.int .i64 1) k hk, World.cell?_setCell_same w ⟨wb, 0, none⟩ (.int .i64 1) h0⟩

theorem Wrote.behind {wb : Nat} {w w1 w' : World} (h : Wrote w1.heap.size wb w1 w') (hb : Below w.heap.size w w1) : Wrote w.heap.size wb w w' :=
  ⟨h.os.trans hb.os, h.tape.trans hb.tape, h.output.trans hb.output, Nat.le_trans hb.size h.size, fun k hk hk' => (h.block k (Nat.lt_of_lt_of_le hk hb.size) hk').trans (hb.block k hk), h.one⟩

set_option maxHeartbeats 400000 in
theorem write_any (wb : Nat) (sa : Option Addr) (sl sc : Nat) (err : Value) (w : World) (h0 : w.cell? ⟨wb, 0, none⟩ = some (.int .i64 0)) (h1 : w.cell? ⟨wb, 1, none⟩ = some err) (hf : w.frozen? ⟨wb, 0, none⟩ = false) (_he : err.oneCell' = true) :
    Calls Ybaf.prog 37 #[.pointer (some ⟨wb, 0, none⟩), .slice sa sl sc] w fun e w' => e = .returned (.tuple #[.int .i64 sl, err]) ∧ Wrote w.heap.size wb w w' := by
  go_enter Ybaf.func37, Ybaf.ntmps37
  go_wp2
  go_quiet (fail)
  go_wp2
  go_ret2
  exact ⟨rfl, wrote_set h0 _⟩

set_option maxHeartbeats 800000 in
theorem println_any (wb g : Nat) (n k v : Int) (name : ByteArray) (err : Value) (w : World) (h0 : w.cell? ⟨wb, 0, none⟩ = some (.int .i64 0)) (h1 : w.cell? ⟨wb, 1, none⟩ = some err) (hf : w.frozen? ⟨wb, 0, none⟩ = false) (he : err.oneCell' = true)
    (hg : w.cell? ⟨g, 0, none⟩ = some (.iface 63 (.agg #[.int .i64 n, .int .u8 k, .string name, .int .i64 v]))) :
    Calls Ybaf.prog 12 #[.iface 44 (.pointer (some ⟨wb, 0, none⟩)), .slice (some ⟨g, 0, none⟩) 1 1] w fun e w' => (∃ m, e = .returned (.tuple #[.int .i64 m, err])) ∧
      Wrote w.heap.size wb w w' := by
  have kc := fun (w : World) (s : ByteArray) => run_bytes_of_string (P := Ybaf.prog) w 9 27 5 s Ybaf.underlying9 Ybaf.underlying27 Ybaf.underlying5
  have m1 := method_write
  have a1 := ahead_write
  go_enter Ybaf.func12, Ybaf.ntmps12
  go_wp2
  apply rows_call nextTurns
  case hr =>
    go_simp
    exact ⟨⟨rfl, rfl, rfl⟩, rfl⟩
  case hi => exact invokeString63 _ _
  case hc =>
    refine (string_any _ _ _ _ _).mono fun e w₃ ⟨⟨s, he⟩, hx⟩ => ?_
    subst he
    apply rows_value nextReturned
    case hr =>
      go_simp
      exact ⟨rfl, rfl⟩
    case h =>
      have hsz := hx.size
      go_wp2_with fail
      refine (write_any wb _ _ _ err _ (cell_later ?hb h0) (cell_later ?hb h1) ((Below.frozen ?hb (block_lt_of_cell h0)).trans hf) he).mono ?_
      case hb => repeat (first | exact hx | apply Below.drew | (refine Below.alloc ?_ (by first | exact hsz | (simp <;> omega)) _))
      rintro e w4 ⟨rfl, hw⟩
      have hw' : Wrote w.heap.size wb w w4 := hw.behind (by repeat (first | exact hx | apply Below.drew | (refine Below.alloc ?_ (by first | exact hsz | (simp <;> omega)) _)))
      clear hw
      have HW : Hid _ := hw'; clear hw'
      go_wp2
      go_ret2
      exact ⟨⟨_, rfl⟩, HW.out⟩
end Go.Proofs.YbulkbeqFmt
