/-
  (*Node).Unlock OVER THE LAW's OWN MEMORY: a failing memory; a memory that succeeds, without a history writer.
-/
import Derived.Test.YbulkbeqFmtMem
namespace Go.Proofs.YbulkbeqFmt
open Go.RowKit

theorem method_holds (n : Nat) (v : Value) (w : World) : (Go.method (n + 1) 26 v "Holds").run Ybaf.prog w = .ok (31, v) w := by kernel_rfl
theorem method_unlock (n : Nat) (v : Value) (w : World) : (Go.method (n + 1) 26 v "Unlock").run Ybaf.prog w = .ok (32, v) w := by kernel_rfl
theorem ahead_holds (n : Nat) (a : Addr) (w : World) : (Go.nilAhead (n + 1) 26 (.pointer (some a)) "Holds").run Ybaf.prog w = .ok (some false) w := by kernel_rfl
theorem ahead_unlock (n : Nat) (a : Addr) (w : World) : (Go.nilAhead (n + 1) 26 (.pointer (some a)) "Unlock").run Ybaf.prog w = .ok (some false) w := by kernel_rfl

theorem Kept.cell {base b : Nat} {w w' : World} (h : Kept base b w w') {k : Nat} (j : Nat) (hk : k < base) (hb : k ≠ b) : w'.cell? ⟨k, j, none⟩ = w.cell? ⟨k, j, none⟩ := World.cell?_of_block (a := ⟨k, j, none⟩) (h.block k hk hb)
theorem Kept.frozen {base b : Nat} {w w' : World} (h : Kept base b w w') {k : Nat} (j : Nat) (hk : k < base) (hb : k ≠ b) : w'.frozen? ⟨k, j, none⟩ = w.frozen? ⟨k, j, none⟩ := World.frozen?_of_block (a := ⟨k, j, none⟩) (h.block k hk hb)
theorem Kept.trans {base b : Nat} {a w w' : World} (h : Kept base b a w) (k : Kept base b w w') : Kept base b a w' :=
  ⟨k.os.trans h.os, k.tape.trans h.tape, k.output.trans h.output, Nat.le_trans h.size k.size, fun i hi hb => (k.block i hi hb).trans (h.block i hi hb)⟩

/-- record, without a history writer: nil. -/
theorem record_nil (nb : Nat) (k : Int) (name : ByteArray) (v : Int) (w : World) (hc : w.cell? ⟨nb, 3, none⟩ = some .nilIface) :
    Calls Ybaf.prog 9 #[.pointer (some ⟨nb, 0, none⟩), .int .u8 k, .string name, .int .i64 v] w fun e w' => e = .returned .nilIface ∧ w' = w := by
  go_enter Ybaf.func9, Ybaf.ntmps9
  go_wp2
  go_ret
  exact ⟨rfl, rfl⟩

set_option maxRecDepth 1000000 in
set_option maxHeartbeats 800000 in
/-- The memory's Unlock fails. -/
theorem node_err (base nb b : Nat) (take : Int) (a : Addr) (name : ByteArray) (w : World) (hn : nb < base) (hnb : nb ≠ b) (hc : w.cell? ⟨nb, 1, none⟩ = some (.iface 26 (.pointer (some ⟨b, 0, none⟩))))
    (hm : MemAt w base b take (.iface 48 (.pointer (some a))) [] []) :
    Calls Ybaf.prog 6 #[.pointer (some ⟨nb, 0, none⟩), .string name] w fun e w' => e = .returned (.iface 48 (.pointer (some a))) ∧
      MemAt w' base b take (.iface 48 (.pointer (some a))) [.int .u8 104, .int .u8 117] [.string name, .string name] ∧ Kept base b w w' := by
  have HM : Hid _ := hm
  have HN : Hid (nb < base ∧ nb ≠ b) := ⟨hn, hnb⟩
  clear hm hn hnb
  have m1 := method_holds
  have m2 := method_unlock
  have a1 := ahead_holds
  have a2 := ahead_unlock
  go_enter Ybaf.func6, Ybaf.ntmps6
  go_wp2_with fail
  refine (holds_any base b take _ [] [] name _ HM.out (by simp) (by simp)).mono ?_
  rintro e w1 ⟨rfl, hm1, hk1⟩
  have HM1 : Hid (MemAt w1 base b take (.iface 48 (.pointer (some a))) [.int .u8 104] [.string name]) := hm1
  have HK1 : Hid (Kept base b w w1) := hk1
  have hc1 := (hk1.cell 1 HN.out.1 HN.out.2).trans hc
  clear hm1 hk1 hc
  go_wp2_with fail
  refine (unlock_any base b take _ [.int .u8 104] [.string name] name _ HM1.out (by simp) (by simp) rfl).mono ?_
  rintro e w2 ⟨rfl, hm2, hk2⟩
  have HM2 : Hid (MemAt w2 base b take (.iface 48 (.pointer (some a))) [.int .u8 104, .int .u8 117] [.string name, .string name]) := hm2
  have HK2 : Hid (Kept base b w1 w2) := hk2
  clear hm2 hk2
  go_wp2
  go_ret
  exact ⟨rfl, HM2.out, HK1.out.trans HK2.out⟩

set_option maxRecDepth 1000000 in
set_option maxHeartbeats 800000 in
/-- The memory's Unlock succeeds; there is no history writer. -/
theorem node_ok (base nb b : Nat) (take : Int) (name : ByteArray) (w : World) (hn : nb < base) (hnb : nb ≠ b) (hc : w.cell? ⟨nb, 1, none⟩ = some (.iface 26 (.pointer (some ⟨b, 0, none⟩)))) (hh : w.cell? ⟨nb, 3, none⟩ = some .nilIface)
    (hm : MemAt w base b take .nilIface [] []) :
    Calls Ybaf.prog 6 #[.pointer (some ⟨nb, 0, none⟩), .string name] w fun e w' => e = .returned .nilIface ∧
      MemAt w' base b take .nilIface [.int .u8 104, .int .u8 117] [.string name, .string name] ∧ Kept base b w w' := by
  have HM : Hid _ := hm
  have HN : Hid (nb < base ∧ nb ≠ b) := ⟨hn, hnb⟩
  clear hm hn hnb
  have m1 := method_holds
  have m2 := method_unlock
  have a1 := ahead_holds
  have a2 := ahead_unlock
  go_enter Ybaf.func6, Ybaf.ntmps6
  go_wp2_with fail
  refine (holds_any base b take _ [] [] name _ HM.out (by simp) (by simp)).mono ?_
  rintro e w1 ⟨rfl, hm1, hk1⟩
  have HM1 : Hid (MemAt w1 base b take .nilIface [.int .u8 104] [.string name]) := hm1
  have HK1 : Hid (Kept base b w w1) := hk1
  have hc1 := (hk1.cell 1 HN.out.1 HN.out.2).trans hc
  have hh1 := (hk1.cell 3 HN.out.1 HN.out.2).trans hh
  clear hm1 hk1 hc hh
  go_wp2_with fail
  refine (unlock_any base b take _ [.int .u8 104] [.string name] name _ HM1.out (by simp) (by simp) rfl).mono ?_
  rintro e w2 ⟨rfl, hm2, hk2⟩
  have HM2 : Hid (MemAt w2 base b take .nilIface [.int .u8 104, .int .u8 117] [.string name, .string name]) := hm2
  have HK2 : Hid (Kept base b w1 w2) := hk2
  have hh2 := (hk2.cell 3 HN.out.1 HN.out.2).trans hh1
  clear hm2 hk2 hh1
  go_wp2_with fail
  refine (record_nil nb _ name _ _ hh2).mono ?_
  rintro e w3 ⟨rfl, rfl⟩
  go_wp2
  go_ret
  exact ⟨rfl, HM2.out, HK1.out.trans HK2.out⟩
end Go.Proofs.YbulkbeqFmt
