/-
  THE WALKS OF checkRange AND MarshalText.
-/
import Derived.Test.YbulkbecFmtFacts
import Derived.WalkKit
import Derived.WalkSpells
import Derived.WalkLawsBesides
import Derived.Deep.AppendSrc
namespace Go.Proofs.YbulkbecFmt
open Go.RowKit Go.Extern.Stop Go.Stop Go.Extern

attribute [local go_sem] call11 call14 guard fmt0r fmt1 fmt2r op3_100 op3_100w op9_115w ptr43 elem43

set_option maxHeartbeats 400000 in
/-- checkRange, out of the range: an error of errors.New's make. -/
theorem range_bad (F : Interp) (s : ByteArray) (n lo hi : Int) (w : World) (hF : F.answers w.tape) (h : n < lo ∨ hi < n) :
    Calls Ybaf.prog 9 #[.string s, .int .i64 n, .int .i64 lo, .int .i64 hi] w fun e w' => (∃ a, e = .returned (.iface 43 (.pointer (some a)))) ∧ Below w.heap.size w w' := by
  have hF' := answers_open hF
  by_cases h1 : n < lo
  · go_enter Ybaf.func9, Ybaf.ntmps9
    go_wp2
    go_ret
    exact ⟨⟨_, rfl⟩, (((Below.refl _ _).alloc (Nat.le_refl _) _).alloc (by simp) _).drew⟩
  · have h2 : hi < n := by omega
    go_enter Ybaf.func9, Ybaf.ntmps9
    go_wp2
    go_ret
    exact ⟨⟨_, rfl⟩, (((Below.refl _ _).alloc (Nat.le_refl _) _).alloc (by simp) _).drew⟩

/-- checkRange, in the range: nil. -/
theorem range_ok (s : ByteArray) (n lo hi : Int) (w : World) (h1 : lo ≤ n) (h2 : n ≤ hi) :
    Calls Ybaf.prog 9 #[.string s, .int .i64 n, .int .i64 lo, .int .i64 hi] w fun e w' => e = .returned .nilIface ∧ w' = w := by
  go_enter Ybaf.func9, Ybaf.ntmps9
  go_wp2
  go_ret
  exact ⟨rfl, rfl⟩

set_option maxHeartbeats 400000 in
/-- MarshalText, an unknown mode: nil and an error. -/
theorem marshal_bad (F : Interp) (m h : Int) (w : World) (hF : F.answers w.tape) (hm : m < 0 ∨ 4 ≤ m) :
    Calls Ybaf.prog 10 #[.agg #[.int .i64 m, .int .i64 h]] w fun e w' => (∃ a, e = .returned (.tuple #[.slice none 0 0, .iface 43 (.pointer (some a))])) ∧ Below w.heap.size w w' := by
  have hF' := answers_open hF
  by_cases h1 : m < 0
  · go_enter Ybaf.func10, Ybaf.ntmps10
    go_wp2
    go_ret2
    exact ⟨⟨_, rfl⟩, ((((Below.refl _ _).alloc (Nat.le_refl _) _).alloc (by simp) _).alloc (by simp; omega) _).drew⟩
  · have h2 : 4 ≤ m := by omega
    go_enter Ybaf.func10, Ybaf.ntmps10
    go_wp2
    go_ret2
    exact ⟨⟨_, rfl⟩, ((((Below.refl _ _).alloc (Nat.le_refl _) _).alloc (by simp) _).alloc (by simp; omega) _).drew⟩

set_option maxHeartbeats 400000 in
/-- MarshalText, a named mode that is not hot: the bytes of the name. -/
theorem marshal_named (m h : Int) (s : ByteArray) (w : World) (h0 : 0 ≤ m) (h4 : m < 4) (h2 : (m == 2) = false) (hc : w.cell? ⟨0, m.toNat, none⟩ = some (.string s)) (hz : 0 < w.heap.size) :
    Calls Ybaf.prog 10 #[.agg #[.int .i64 m, .int .i64 h]] w fun e w' => (∃ v, e = .returned (.tuple #[v, .nilIface])) ∧ Below w.heap.size w w' := by
  have kc := fun (w : World) (s : ByteArray) => run_bytes_of_string (P := Ybaf.prog) w 9 35 5 s Ybaf.underlying9 Ybaf.underlying35 Ybaf.underlying5
  go_enter Ybaf.func10, Ybaf.ntmps10
  go_wp2
  go_ret2
  exact ⟨⟨_, rfl⟩, by repeat (first | exact Below.refl _ _ | apply Below.drew | (refine Below.alloc ?_ (by simp <;> omega) _))⟩

theorem next_cap (n : Nat) (h0 : 0 < n) (h1 : n ≤ 1000) : ¬ 281474976710656 < Builtin.nextslicecap n 0 * Ybaf.t5.bytes := by
  have e : Builtin.nextslicecap n 0 = n := by unfold Builtin.nextslicecap; simp; omega
  have e2 : Ybaf.t5.bytes = 1 := rfl
  rw [e, e2]; omega

set_option maxHeartbeats 400000 in
/-- MarshalText, hot: the text, as bytes. -/
theorem marshal_hot (F : Interp) (h : Int) (T : ByteArray) (w : World) (hF : F.answers w.tape) (hT : FmtStop.textOf (F "fmt.Sprintf" [[104, 111, 116, 58, 37, 100], shape3, digits 8 (h % 18446744073709551616).toNat] 0) = T) (hs0 : 0 < T.size) (hs1 : T.size ≤ 1000) :
    Calls Ybaf.prog 10 #[.agg #[.int .i64 2, .int .i64 h]] w fun e w' => (∃ v, e = .returned (.tuple #[v, .nilIface])) ∧ Below w.heap.size w w' := by
  have hF' := answers_open hF
  have hcap := next_cap T.size hs0 hs1
  go_enter Ybaf.func10, Ybaf.ntmps10
  go_wp2
  go_ret2
  exact ⟨⟨_, rfl⟩, by repeat (first | exact Below.refl _ _ | apply Below.drew | (refine Below.alloc ?_ (by simp <;> omega) _))⟩

end Go.Proofs.YbulkbecFmt
