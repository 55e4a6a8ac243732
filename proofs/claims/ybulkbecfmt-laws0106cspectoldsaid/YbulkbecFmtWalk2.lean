/-
  THE WALK OF (Hints).check, BY THE CONTRACTS OF MarshalText AND checkRange.
-/
import Derived.Test.YbulkbecFmtWalk1
namespace Go.Proofs.YbulkbecFmt
open Go.RowKit Go.Extern.Stop Go.Stop Go.Extern

set_option maxHeartbeats 400000 in
/-- check, an unknown mode: an error. -/
theorem check_bad (F : Interp) (m h items : Int) (w : World) (hF : F.answers w.tape) (hm : m < 0 ∨ 4 ≤ m) :
    Calls Ybaf.prog 7 #[.agg #[.int .i64 m, .int .i64 h], .int .i64 items] w fun e w' => (∃ a, e = .returned (.iface 43 (.pointer (some a)))) ∧ Below w.heap.size w w' := by
  have H : Hid (m < 0 ∨ 4 ≤ m) := hm
  clear hm
  go_enter Ybaf.func7, Ybaf.ntmps7
  go_wp2_with fail
  refine (marshal_bad F m h _ (by exact hF) H.out).mono ?_
  rintro e w' ⟨⟨a, rfl⟩, hb⟩
  go_wp2
  go_ret
  exact ⟨⟨_, rfl⟩, ((Below.refl _ _).alloc (Nat.le_refl _) _).trans (hb.mono (by simp))⟩

set_option maxHeartbeats 400000 in
/-- check, a named mode that is not hot: nil. -/
theorem check_named (m h items : Int) (s : ByteArray) (w : World) (h0 : 0 ≤ m) (h4 : m < 4) (h2 : (m == 2) = false) (hc : w.cell? ⟨0, m.toNat, none⟩ = some (.string s)) (hz : 0 < w.heap.size) :
    Calls Ybaf.prog 7 #[.agg #[.int .i64 m, .int .i64 h], .int .i64 items] w fun e w' => e = .returned .nilIface ∧ Below w.heap.size w w' := by
  go_enter Ybaf.func7, Ybaf.ntmps7
  go_wp2_with fail
  refine (marshal_named m h s _ h0 h4 h2 ?_ ?_).mono ?_
  · rw [((Below.refl w.heap.size w).alloc (Nat.le_refl _) _).cell hz]; exact hc
  · simp
  rintro e w' ⟨⟨v, rfl⟩, hb⟩
  have hc0 : w'.cell? ⟨w.heap.size, 0, none⟩ = some (.int .i64 m) := by rw [hb.cell (by simp)]; simp
  go_wp2
  go_ret
  exact ⟨rfl, ((Below.refl _ _).alloc (Nat.le_refl _) _).trans (hb.mono (by simp))⟩

set_option maxHeartbeats 400000 in
/-- check, hot, in the range: nil. -/
theorem check_hot_ok (F : Interp) (h items : Int) (T : ByteArray) (w : World) (hF : F.answers w.tape) (hT : FmtStop.textOf (F "fmt.Sprintf" [[104, 111, 116, 58, 37, 100], shape3, digits 8 (h % 18446744073709551616).toNat] 0) = T) (hs0 : 0 < T.size) (hs1 : T.size ≤ 1000) (h1 : 1 ≤ h) (h2 : h ≤ items) :
    Calls Ybaf.prog 7 #[.agg #[.int .i64 2, .int .i64 h], .int .i64 items] w fun e w' => e = .returned .nilIface ∧ Below w.heap.size w w' := by
  have HT := hT; have HT : Hid _ := HT; clear hT
  go_enter Ybaf.func7, Ybaf.ntmps7
  go_wp2_with fail
  refine (marshal_hot F h T _ (by exact hF) HT.out hs0 hs1).mono ?_
  rintro e w' ⟨⟨v, rfl⟩, hb⟩
  have hc0 : w'.cell? ⟨w.heap.size, 0, none⟩ = some (.int .i64 2) := by rw [hb.cell (by simp)]; simp
  have hc1 : w'.cell? ⟨w.heap.size, 1, none⟩ = some (.int .i64 h) := by rw [hb.cell (by simp)]; simp
  go_wp2_with fail
  refine (range_ok _ h 1 items _ h1 h2).mono ?_
  rintro e w'' ⟨rfl, rfl⟩
  go_wp2
  go_ret
  exact ⟨rfl, ((Below.refl _ _).alloc (Nat.le_refl _) _).trans (hb.mono (by simp))⟩

set_option maxHeartbeats 400000 in
/-- check, hot, out of the range: an error. -/
theorem check_hot_bad (F : Interp) (h items : Int) (T : ByteArray) (w : World) (hF : F.answers w.tape) (hT : FmtStop.textOf (F "fmt.Sprintf" [[104, 111, 116, 58, 37, 100], shape3, digits 8 (h % 18446744073709551616).toNat] 0) = T) (hs0 : 0 < T.size) (hs1 : T.size ≤ 1000) (hr : h < 1 ∨ items < h) :
    Calls Ybaf.prog 7 #[.agg #[.int .i64 2, .int .i64 h], .int .i64 items] w fun e w' => (∃ a, e = .returned (.iface 43 (.pointer (some a)))) ∧ Below w.heap.size w w' := by
  have HT := hT; have HT : Hid _ := HT; clear hT
  have HR : Hid _ := hr; clear hr
  go_enter Ybaf.func7, Ybaf.ntmps7
  go_wp2_with fail
  refine (marshal_hot F h T _ (by exact hF) HT.out hs0 hs1).mono ?_
  rintro e w' ⟨⟨v, rfl⟩, hb⟩
  have hc0 : w'.cell? ⟨w.heap.size, 0, none⟩ = some (.int .i64 2) := by rw [hb.cell (by simp)]; simp
  have hc1 : w'.cell? ⟨w.heap.size, 1, none⟩ = some (.int .i64 h) := by rw [hb.cell (by simp)]; simp
  go_wp2_with fail
  refine (range_bad F _ h 1 items _ (by rw [hb.tape]; exact hF) HR.out).mono ?_
  rintro e w'' ⟨⟨a, rfl⟩, hb2⟩
  go_wp2
  go_ret
  exact ⟨⟨_, rfl⟩, (((Below.refl _ _).alloc (Nat.le_refl _) _).trans (hb.mono (by simp))).trans (hb2.mono (by have := hb.size; simp at this; omega))⟩

end Go.Proofs.YbulkbecFmt
