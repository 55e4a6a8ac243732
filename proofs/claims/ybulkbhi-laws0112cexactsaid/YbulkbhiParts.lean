/-
  THE PARTS OF THE LAW's WALK: small laws on rows of the call's own.
-/
import Derived.Test.YbulkbhiEqual
import Derived.Laws.CopyOwn
namespace Go.Proofs.Ybulkbhi
open Go.RowKit

/-- 'append(own, src...)', src a slice that came in, nil or not: one law. -/
theorem append_in {w : World} {ops : Array Oper} {rest : List Oper} {o : Oper} {a : Act} {Q : Exit → Act → World → Prop} (hgd : o.guard = none) (s x : Operand)
    (ho : o.op = .call { callee := .builtin .append, args := #[s, x], argTypes := #[22, 22] }) (B : Nat) (v : Value) (n : Nat) (xs : List Value) (hs : a.eval s = v) (hown : w.ownsRow B 5 1 v n xs)
    (ax : Option Addr) (len cap : Nat) (ys : List Value) (hx : a.eval x = .slice ax len cap) (B' : Nat) (hsrc : SrcIn w B' ax len cap ys) (h63 : n + len ≤ 100000) (hB : B ≤ w.heap.size)
    (h : ∀ v' w', w'.ownsRow B 5 1 v' (n + len) (xs ++ ys) → w.grownBy w' v.ownBlock → wpList Yba.prog ops Q rest (a.put o.dst v') w') : wpList Yba.prog ops Q (o :: rest) a w := by
  obtain ⟨i5, hi5, z5, s5, b5⟩ := info_parts info5
  rcases hsrc with ⟨rfl, rfl, rfl, rfl⟩ | ⟨ad, rfl, hy, hc, h1⟩
  · refine wpList_append_own_none hgd s x 22 ho B 5 i5 1 Yba.underlying22 hi5 v n xs hs hown hx ?_
    exact h v w (by simpa using hown) ⟨rfl, rfl, rfl, Nat.le_refl _, fun _ _ _ => rfl⟩
  · exact wpList_append_own w hgd s x 22 ho B 5 i5 (.int .u8 0) 1 1 Yba.underlying22 hi5 z5 s5 b5 rfl (by decide) v n xs hs hown ad len cap ys hx (by omega) (fun j u hj => (hc j u hj).1) h1 (by unfold maxLen; omega) (by omega) hB
      fun v' w' h2 h3 _ => h v' w' h2 h3

/-- A new row of zeros, under a name. -/
def zeroRow (n : Nat) : List Value := List.replicate n (.int .u8 0)

theorem run_make8 (n : Nat) (hn : n ≤ 100000) (w : World) : (Instr.makeSlice 22 (.int .i64 (n : Int)) (.int .i64 (n : Int))).run Yba.prog w = .ok (.slice (some ⟨w.heap.size, 0, none⟩) n n) (w.alloc (.cells (zeroRow n).toArray 5)) := by
  obtain ⟨i5, hi5, z5, s5, b5⟩ := info_parts info5
  rw [run_make (P := Yba.prog) w 22 5 i5 (.int .u8 0) Yba.underlying22 hi5 z5 .i64 .i64 n n (by omega) (by omega) (by rw [b5]; omega) (by omega)]
  have e : madeCells (Value.cells (.int .u8 0)) ((n : Int).toNat * i5.size) = (zeroRow n).toArray := by
    apply Array.ext'
    rw [s5]
    simp only [Int.toNat_natCast, Nat.mul_one]
    exact toList_madeCells_one (.int .u8 0) n
  rw [e]
  simp

theorem run_make8_0 (C : Nat) (c : Int) (hc : c = C) (hn : C ≤ 100000) (w : World) : (Instr.makeSlice 22 (.int .i64 0) (.int .i64 c)).run Yba.prog w = .ok (.slice (some ⟨w.heap.size, 0, none⟩) 0 C) (w.alloc (.cells (zeroRow C).toArray 5)) := by
  obtain ⟨i5, hi5, z5, s5, b5⟩ := info_parts info5
  subst hc
  rw [run_make (P := Yba.prog) w 22 5 i5 (.int .u8 0) Yba.underlying22 hi5 z5 .i64 .i64 0 C (by omega) (by omega) (by rw [b5]; omega) (by omega)]
  have e : madeCells (Value.cells (.int .u8 0)) ((C : Int).toNat * i5.size) = (zeroRow C).toArray := by
    apply Array.ext'
    rw [s5]
    simp only [Int.toNat_natCast, Nat.mul_one]
    exact toList_madeCells_one (.int .u8 0) C
  rw [e]
  simp

theorem zeroRow_length (n : Nat) : (zeroRow n).length = n := by simp [zeroRow]

/-- A row of the call's own stays while only blocks from the heap's end on are turned. -/
theorem own_below {w w' : World} {B B' n : Nat} {v : Value} {xs : List Value} (h : w.ownsRow B 5 1 v n xs) (hb : Below B' w w') (hB : w.heap.size ≤ B') : w'.ownsRow B 5 1 v n xs := by
  refine ⟨h.1, ?_⟩
  rcases h.2 with a | ⟨g, cap, cur, hv, hg, hh, r⟩
  · exact Or.inl a
  · refine Or.inr ⟨g, cap, cur, hv, hg, ?_, r⟩
    have hlt : g < w.heap.size := by
      rcases Nat.lt_or_ge g w.heap.size with a | a
      · exact a
      · rw [Array.getElem?_eq_none a] at hh; cases hh
    rw [hb.block g (by omega)]; exact hh

/-- The row behind the copy. -/
theorem own_copied {w : World} {B g n : Nat} {xs : List Value} (hg : w.heap[g]? = some (.cells (splice (zeroRow n) 0 xs).toArray 5 (0, 0))) (hx : xs.length = n) (hn : n ≤ 100000) (hB : B ≤ g) : w.ownsRow B 5 1 (.slice (some ⟨g, 0, none⟩) n n) n xs := by
  have e : splice (zeroRow n) 0 xs = xs := by simp [splice, zeroRow, hx]
  rw [e] at hg
  exact ⟨by omega, Or.inr ⟨g, n, xs.toArray, rfl, hB, hg, Nat.le_refl _, by unfold maxLen; omega, by simp [hx], by simp [← hx]⟩⟩

/-- The row behind 'make([]byte, 0, C)'. -/
theorem own_made {w : World} {B C : Nat} (hB : B ≤ w.heap.size) (hC : C ≤ 100000) : (w.alloc (.cells (zeroRow C).toArray 5)).ownsRow B 5 1 (.slice (some ⟨w.heap.size, 0, none⟩) 0 C) 0 [] :=
  World.ownsRow_made w _ C hB (by unfold maxLen; omega) (by simp [zeroRow])

theorem SrcIn.hpos {w w' : World} {B : Nat} {a : Option Addr} {len cap : Nat} {ys : List Value} (h : SrcIn w B a len cap ys) (hb : Below B w w') : 0 < ys.length → ∃ ad, a = some ad ∧ ∀ j v, ys[j]? = some v → w'.cell? (ad.add j) = some v := by
  intro hp
  rcases h.later hb with ⟨_, _, _, rfl⟩ | ⟨x, h1, _, h3, _⟩
  · simp at hp
  · exact ⟨x, h1, fun j v hj => (h3 j v hj).1⟩

theorem SrcIn.one {w : World} {B : Nat} {a : Option Addr} {len cap : Nat} {ys : List Value} (h : SrcIn w B a len cap ys) : ∀ v ∈ ys, v.oneCell' = true := by
  rcases h with ⟨_, _, _, rfl⟩ | ⟨x, _, _, _, h4⟩
  · intro v hv; cases hv
  · exact h4

end Go.Proofs.Ybulkbhi
