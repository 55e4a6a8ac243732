/-
  appendLabel, BY ITS CONTRACT.
-/
import Derived.Test.YbulkbhiBlanks
import Derived.Lib.AppendStr
import Derived.Laws.AppendOwnNone
namespace Go.Proofs.Ybulkbhi
open Go.RowKit

/-- A slice that came in, as far as its elements go: nil, or cells in blocks below B. -/
def SrcIn (w : World) (B : Nat) (a : Option Addr) (len cap : Nat) (ys : List Value) : Prop :=
  (a = none ∧ len = 0 ∧ cap = 0 ∧ ys = []) ∨
  ∃ x, a = some x ∧ ys.length = len ∧ (∀ j u, ys[j]? = some u → w.cell? (x.add j) = some u ∧ (x.add j).block < B) ∧ ∀ u ∈ ys, u.oneCell' = true

theorem SrcIn.length {w : World} {B : Nat} {a : Option Addr} {len cap : Nat} {ys : List Value} (h : SrcIn w B a len cap ys) : ys.length = len := by
  rcases h with ⟨_, rfl, _, rfl⟩ | ⟨_, _, h, _⟩
  · rfl
  · exact h

theorem SrcIn.later {w w' : World} {B : Nat} {a : Option Addr} {len cap : Nat} {ys : List Value} (h : SrcIn w B a len cap ys) (hb : Below B w w') : SrcIn w' B a len cap ys := by
  rcases h with h | ⟨x, h1, h2, h3, h4⟩
  · exact Or.inl h
  · exact Or.inr ⟨x, h1, h2, fun j u hj => ⟨(hb.cell (p := x.add j) (h3 j u hj).2).trans (h3 j u hj).1, (h3 j u hj).2⟩, h4⟩

/-- What appendLabel appends. -/
def tailOf (m : Int) (s : ByteArray) (ys : List Value) : List Value := List.replicate m.toNat (.int .u8 32) ++ (Lib.strCells s ++ ys)

set_option maxRecDepth 1000000 in
set_option maxHeartbeats 800000 in
theorem label_any (B : Nat) (av : Option Addr) (n cv : Nat) (xs : List Value) (start : Int) (s : ByteArray) (a3 : Option Addr) (len3 cap3 : Nat) (ys : List Value) (w : World)
    (hown0 : w.ownsRow B 5 1 (.slice av n cv) n xs) (hB0 : B ≤ w.heap.size) (hsrc : SrcIn w B a3 len3 cap3 ys) (hn : n ≤ 2000) (hs0 : -5000 ≤ start) (hs1 : start ≤ 5000) (hl : s.size ≤ 2000) (h3 : len3 ≤ 2000) :
    Calls Yba.prog 4 #[.slice av n cv, .int .i64 start, .string s, .slice a3 len3 cap3] w fun e w' => ∃ v', e = .returned v' ∧
      w'.ownsRow B 5 1 v' (n + (start + 60 - n).toNat + s.size + len3) (xs ++ tailOf (start + 60 - n) s ys) ∧ Below B w w' ∧ B ≤ w'.heap.size := by
  obtain ⟨i5, hi5, z5, s5, b5⟩ := info_parts info5
  have O0 : Hid (w.ownsRow B 5 1 (.slice av n cv) n xs) := hown0
  have HB0 : Hid (B ≤ w.heap.size) := hB0
  have HS : Hid (SrcIn w B a3 len3 cap3 ys) := hsrc
  clear hown0 hB0 hsrc
  go_enter Yba.func4, Yba.ntmps4
  go_wp2_with fail
  refine (blanks_any B _ n xs (start + 60 - n) _ O0.out HB0.out (by omega) (by omega) (by omega)).mono ?_
  rintro e w1 ⟨v1, rfl, o1, b1, z1⟩
  have O1 : Hid (w1.ownsRow B 5 1 v1 (n + (start + 60 - n).toNat) (xs ++ List.replicate (start + 60 - n).toNat (.int .u8 32))) := o1
  have B1 : Hid (Below B w w1 ∧ B ≤ w1.heap.size) := ⟨b1, z1⟩
  clear o1 b1 z1
  go_wp2_with (at_builtin; refine Lib.wpList_append_own_string _ rfl (.tmp 16) (.tmp 17) 22 9 rfl B 5 i5 Yba.underlying22 Yba.underlying9 hi5 z5 s5 b5 _ _ _ rfl O1.out s rfl ?c3 ?c4 ?c5 ?on)
  case c3 => unfold maxLen; omega
  case c4 => omega
  case c5 => exact B1.out.2
  case on =>
    intro v2 w2 o2 g2 _
    have B2 : Hid (Below B w w2 ∧ B ≤ w2.heap.size) := grow_same B1.out.1 B1.out.2 O1.out g2
    have o2' : w2.ownsRow B 5 1 v2 (n + (start + 60 - n).toNat + s.size) (xs ++ (List.replicate (start + 60 - n).toNat (.int .u8 32) ++ Lib.strCells s)) := by simpa using o2
    have O2 : Hid (w2.ownsRow B 5 1 v2 (n + (start + 60 - n).toNat + s.size) (xs ++ (List.replicate (start + 60 - n).toNat (.int .u8 32) ++ Lib.strCells s))) := o2'
    clear o2 o2' g2
    rcases HS.out with ⟨rfl, rfl, rfl, rfl⟩ | ⟨x, rfl, hy, hc, h1⟩
    · go_wp2_with (at_builtin; refine wpList_append_own_none rfl (.tmp 19) (.tmp 20) 22 rfl B 5 i5 1 Yba.underlying22 hi5 _ _ _ rfl O2.out rfl ?_)
      go_wp2
      go_ret
      exact ⟨_, rfl, by simpa [tailOf] using O2.out, B2.out.1, B2.out.2⟩
    · have HY : Hid _ := hc
      have HY1 : Hid _ := h1
      have HL : Hid (ys.length = len3) := hy
      clear hc h1 hy
      go_wp2_with (at_builtin; refine wpList_append_own _ rfl (.tmp 19) (.tmp 20) 22 rfl B 5 i5 (.int .u8 0) 1 1 Yba.underlying22 hi5 z5 s5 b5 rfl (by decide) _ _ _ rfl O2.out x len3 cap3 ys rfl ?d0 ?d1 ?d2 ?d3 ?d4 ?d5 ?on3)
      case d0 => rw [HL.out]; omega
      case d1 => exact fun j u hj => (B2.out.1.cell (p := x.add j) (HY.out j u hj).2).trans (HY.out j u hj).1
      case d2 => exact HY1.out
      case d3 => unfold maxLen; omega
      case d4 => omega
      case d5 => exact B2.out.2
      case on3 =>
        intro v3 w3 o3 g3 _
        have B3 : Hid (Below B w w3 ∧ B ≤ w3.heap.size) := grow_same B2.out.1 B2.out.2 O2.out g3
        have o3' : w3.ownsRow B 5 1 v3 (n + (start + 60 - n).toNat + s.size + len3) (xs ++ tailOf (start + 60 - n) s ys) := by simpa [tailOf] using o3
        have O3 : Hid (w3.ownsRow B 5 1 v3 (n + (start + 60 - n).toNat + s.size + len3) (xs ++ tailOf (start + 60 - n) s ys)) := o3'
        clear o3 o3' g3
        go_wp2
        go_ret
        exact ⟨_, rfl, O3.out, B3.out.1, B3.out.2⟩
end Go.Proofs.Ybulkbhi
