/-
  bytes.Equal OF TWO ROWS OF THE CALL's OWN THAT HOLD THE SAME BYTES: true.
-/
import Derived.Test.YbulkbhiLabel
import Derived.Laws.BytesArg
namespace Go.Proofs.Ybulkbhi
open Go.RowKit

theorem conv_own {w : World} {B n : Nat} {v : Value} {zs : List Int} (h : w.ownsRow B 5 1 v n (zs.map (Value.int .u8))) : (convert 22 9 v).run Yba.prog w = .ok (.string (strOfNums zs)) w := by
  have hl : zs.length = n := by simpa using h.1
  rcases h.2 with ⟨rfl, h0⟩ | ⟨g, cap, cur, hv, hg, hh, r⟩
  · have hz : zs = [] := List.eq_nil_of_length_eq_zero (by omega)
    subst hz
    rw [run_convert_bytes_nil w 22 5 Yba.underlying22 Yba.underlying5 0 0 9 Yba.underlying9]
    rfl
  · subst hv
    refine run_convert_bytes_arg w 22 5 Yba.underlying22 Yba.underlying5 g 0 n cap zs hl (fun i hi => ?_) 9 Yba.underlying9
    have := h.cellAt i (by omega)
    rw [Nat.zero_add, this]
    simp [List.getD, List.getElem?_eq_getElem (show i < zs.length by omega)]

/-- bytes.Equal, where 'string(..)' of both is one string. -/
theorem equal_of (v v' : Value) (s : ByteArray) (w : World) (h1 : (convert 22 9 v).run Yba.prog w = .ok (.string s) w) (h2 : (convert 22 9 v').run Yba.prog w = .ok (.string s) w) :
    Calls Yba.prog 5 #[v, v'] w fun e w' => e = .returned (.bool true) ∧ w' = w := by
  go_enter Yba.func5, Yba.ntmps5
  go_wp2
  go_ret
  exact ⟨rfl, rfl⟩

theorem equal_same {w : World} {B B' n n' : Nat} {v v' : Value} {zs : List Int} (h : w.ownsRow B 5 1 v n (zs.map (Value.int .u8))) (h' : w.ownsRow B' 5 1 v' n' (zs.map (Value.int .u8))) :
    Calls Yba.prog 5 #[v, v'] w fun e w' => e = .returned (.bool true) ∧ w' = w :=
  equal_of v v' _ w (conv_own h) (conv_own h')
end Go.Proofs.Ybulkbhi
