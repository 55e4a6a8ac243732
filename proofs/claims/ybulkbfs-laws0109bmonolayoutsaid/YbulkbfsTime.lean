/-
  zzs0109bsec AND makeTime, BY THEIR CONTRACTS.
-/
import Derived.Test.YbulkbfsRows
import Derived.WalkKit
import Derived.WalkSpells
import Derived.WalkLawsBesides
import Derived.Laws.BitsAllLaws
namespace Go.Proofs.Ybulkbfs
open Go.RowKit

theorem wf_wrap64 (n : Int) : (Lit.int .i64 (wrap64 n)).wf = true := wrap64_wf n

set_option maxHeartbeats 400000 in
/-- zzs0109bsec: some int64. -/
theorem sec_any (sel raw : Int) (w : World) (w1 : (Lit.int .i64 raw).wf = true) :
    Calls Yba.prog 7 #[.int .u8 sel, .int .i64 raw] w fun e w' => (∃ s, e = .returned (.int .i64 s) ∧ (Lit.int .i64 s).wf = true) ∧ w' = w := by
  have W1 : Hid _ := w1
  clear w1
  go_enter Yba.func7, Yba.ntmps7
  go_wp2
  all_goals
    go_ret
    first
    | exact ⟨⟨_, rfl, wf_wrap64 _⟩, rfl⟩
    | exact ⟨⟨_, rfl, W1.out⟩, rfl⟩

set_option maxHeartbeats 400000 in
/-- makeTime without a monotonic reading. -/
theorem mk_plain (sec n mono : Int) (loc : Option Addr) (w : World) :
    Calls Yba.prog 8 #[.int .i64 sec, .int .i32 n, .int .i64 mono, .bool false, .pointer loc] w fun e w' =>
      e = .returned (.agg #[.int .u64 (IntKind.u64.wrap n), .int .i64 sec, .pointer loc]) ∧ ∃ o, w' = w.alloc (.cells o 32) := by
  go_enter Yba.func8, Yba.ntmps8
  go_wp2
  exact bodyPost_ret (v := .agg #[.int .u64 (IntKind.u64.wrap n), .int .i64 sec, .pointer loc]) (by simp [results, Yba.results8, go_sem]) rfl ⟨rfl, _, rfl⟩

set_option maxHeartbeats 400000 in
/-- makeTime with a monotonic reading, outside the span. -/
theorem mk_out (sec n mono : Int) (loc : Option Addr) (w : World) (h : 8589934592 ≤ IntKind.u64.wrap (wrap64 (sec - 59453308800))) :
    Calls Yba.prog 8 #[.int .i64 sec, .int .i32 n, .int .i64 mono, .bool true, .pointer loc] w fun e w' =>
      e = .returned (.agg #[.int .u64 (IntKind.u64.wrap n), .int .i64 sec, .pointer loc]) ∧ ∃ o, w' = w.alloc (.cells o 32) := by
  go_enter Yba.func8, Yba.ntmps8
  go_wp2
  exact bodyPost_ret (v := .agg #[.int .u64 (IntKind.u64.wrap n), .int .i64 sec, .pointer loc]) (by simp [results, Yba.results8, go_sem]) rfl ⟨rfl, _, rfl⟩

/-- The word that makeTime builds, as the walk writes it. -/
def wallRaw (sec n : Int) : Int :=
  bits BinOp.or IntKind.u64 (bits BinOp.or IntKind.u64 9223372036854775808 (IntKind.u64.wrap (IntKind.u64.wrap (wrap64 (sec - 59453308800)) * 1073741824))) (IntKind.u64.wrap n)

set_option maxHeartbeats 400000 in
/-- makeTime with a monotonic reading, inside the span. -/
theorem mk_in (sec n mono : Int) (loc : Option Addr) (w : World) (h : IntKind.u64.wrap (wrap64 (sec - 59453308800)) < 8589934592) :
    Calls Yba.prog 8 #[.int .i64 sec, .int .i32 n, .int .i64 mono, .bool true, .pointer loc] w fun e w' =>
      e = .returned (.agg #[.int .u64 (wallRaw sec n), .int .i64 mono, .pointer loc]) ∧ ∃ o, w' = w.alloc (.cells o 32) := by
  unfold wallRaw
  go_enter Yba.func8, Yba.ntmps8
  go_wp2
  exact bodyPost_ret (v := .agg #[.int .u64 (bits BinOp.or IntKind.u64 (bits BinOp.or IntKind.u64 9223372036854775808 (IntKind.u64.wrap (IntKind.u64.wrap (wrap64 (sec - 59453308800)) * 1073741824))) (IntKind.u64.wrap n)), .int .i64 mono, .pointer loc]) (by simp [results, Yba.results8, go_sem]) rfl ⟨rfl, _, rfl⟩

end Go.Proofs.Ybulkbfs
