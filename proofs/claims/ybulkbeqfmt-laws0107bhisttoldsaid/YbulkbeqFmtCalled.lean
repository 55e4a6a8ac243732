/-
  zzs0107bcalls AT A MEMORY THAT WAS ASKED Holds(name), THEN Unlock(name): true.
-/
import Derived.Test.YbulkbeqFmtMem
namespace Go.Proofs.YbulkbeqFmt
open Go.RowKit

set_option maxRecDepth 1000000 in
set_option maxHeartbeats 800000 in
theorem called_any (base b : Nat) (take : Int) (err : Value) (name : ByteArray) (w : World) (hm : MemAt w base b take err [.int .u8 104, .int .u8 117] [.string name, .string name]) :
    Calls Ybaf.prog 7 #[.pointer (some ⟨b, 0, none⟩), .string name] w fun e w' => e = .returned (.bool true) ∧ w' = w := by
  obtain ⟨hlt, hsize, c0, c1, f2, f3, ak, ck, an, cn, c2, c3, ok, on⟩ := hm
  obtain ⟨gk, k1, ek⟩ := owns_some ok (by simp)
  obtain ⟨gn, n1, en⟩ := owns_some on (by simp)
  rw [ek] at ok c2
  rw [en] at on c3
  have k0 : w.cell? ⟨gk, 0, none⟩ = some (.int .u8 104) := by rw [ok.cellAt 0 (by simp)]; rfl
  have k1 : w.cell? ⟨gk, 1, none⟩ = some (.int .u8 117) := by rw [ok.cellAt 1 (by simp)]; rfl
  have n0 : w.cell? ⟨gn, 0, none⟩ = some (.string name) := by rw [on.cellAt 0 (by simp)]; rfl
  have n1 : w.cell? ⟨gn, 1, none⟩ = some (.string name) := by rw [on.cellAt 1 (by simp)]; rfl
  clear ok on ek en c0 c1 f2 f3 hlt hsize
  simp only [List.length_cons, List.length_nil] at c2 c3
  go_enter Ybaf.func7, Ybaf.ntmps7
  go_wp2
  go_ret
  exact ⟨rfl, rfl⟩
end Go.Proofs.YbulkbeqFmt
