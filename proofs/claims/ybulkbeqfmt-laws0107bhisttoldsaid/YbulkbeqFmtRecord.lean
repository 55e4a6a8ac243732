/-
  record WITH A HISTORY WRITER.
-/
import Derived.Test.YbulkbeqFmtLine
import Derived.Deep.RegionHeld3
namespace Go.Proofs.YbulkbeqFmt
open Go.RowKit Go.Extern.Stop Go.Stop Go.Extern

theorem Wrote.cell {B wb : Nat} {w w' : World} (h : Wrote B wb w w') {k : Nat} (j : Nat) (hk : k < B) (hb : k ≠ wb) : w'.cell? ⟨k, j, none⟩ = w.cell? ⟨k, j, none⟩ := World.cell?_of_block (a := ⟨k, j, none⟩) (h.block k hk hb)

theorem behind_new (w : World) (o : Obj) : Below w.heap.size w (w.alloc o).drew := ((Below.refl _ _).alloc (Nat.le_refl _) _).drew

set_option maxHeartbeats 1600000 in
theorem record_hist (nb wb : Nat) (k node v : Int) (name : ByteArray) (err : Value) (w : World)
    (hn : w.cell? ⟨nb, 2, none⟩ = some (.int .i64 node)) (hh : w.cell? ⟨nb, 3, none⟩ = some (.iface 44 (.pointer (some ⟨wb, 0, none⟩))))
    (h0 : w.cell? ⟨wb, 0, none⟩ = some (.int .i64 0)) (h1 : w.cell? ⟨wb, 1, none⟩ = some err) (hf : w.frozen? ⟨wb, 0, none⟩ = false) (he : err.oneCell' = true) (hne : nb ≠ wb) :
    Calls Ybaf.prog 9 #[.pointer (some ⟨nb, 0, none⟩), .int .u8 k, .string name, .int .i64 v] w fun e w' => e = .returned err ∧ Wrote w.heap.size wb w w' := by
  have hnb : nb < w.heap.size := block_lt_of_cell hn
  have hwb : wb < w.heap.size := block_lt_of_cell h0
  have HN : Hid (nb ≠ wb) := hne
  clear hne
  go_enter Ybaf.func9, Ybaf.ntmps9
  go_wp2
  go_region_held3 (fun w' => w'.cell? ⟨nb, 2, none⟩ = some (.int .i64 node) ∧ w'.cell? ⟨nb, 3, none⟩ = some (.iface 44 (.pointer (some ⟨wb, 0, none⟩)))) (simp [go_sem, World.cell?_alloc_past, *])
    (first
      | (go_at_call 12
         refine (println_any wb w.heap.size node k v name err _ (cell_later (behind_new w _) h0) (cell_later (behind_new w _) h1) (((behind_new w _).frozen hwb).trans hf) he (by simp)).mono ?_
         rintro e w1 ⟨⟨m, rfl⟩, hw⟩
         have HW : Hid (Wrote w.heap.size wb w w1) := hw.behind (behind_new w _)
         have j2 := (HW.out.cell 2 hnb HN.out).trans hn
         have j3 := (HW.out.cell 3 hnb HN.out).trans hh
         clear hw))
  go_wp2
  go_ret
  exact ⟨rfl, HW.out⟩
end Go.Proofs.YbulkbeqFmt
