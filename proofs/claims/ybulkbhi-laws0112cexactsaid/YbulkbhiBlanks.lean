/-
  appendBlanks, BY ITS CONTRACT: onto a row of the call's own.
-/
import Derived.Test.YbulkbhiRows
import Derived.WalkKit
import Derived.WalkSpells
import Derived.WalkLawsBesides
namespace Go.Proofs.Ybulkbhi
open Go.RowKit

theorem info5 : (Yba.prog.info? 5).map (fun i => (i.zero, i.size, i.bytes)) = some (some (.int .u8 0), 1, 1) := by kernel_rfl

theorem grow_new {B : Nat} {w wr w1 : World} {v : Value} {n : Nat} {xs : List Value} {o : Obj} (hb : Below B w wr) (hB : B ≤ wr.heap.size) (hown : wr.ownsRow B 5 1 v n xs) (hg : (wr.alloc o).grownBy w1 v.ownBlock) : Below B w w1 ∧ B ≤ w1.heap.size :=
  ⟨(hb.alloc hB o).grown hg (by simp; omega) (fun k h => (hown.lt k h).1), by have := hg.size; simp at this; omega⟩

theorem grow_same {B : Nat} {w wr w1 : World} {v : Value} {n : Nat} {xs : List Value} (hb : Below B w wr) (hB : B ≤ wr.heap.size) (hown : wr.ownsRow B 5 1 v n xs) (hg : wr.grownBy w1 v.ownBlock) : Below B w w1 ∧ B ≤ w1.heap.size :=
  ⟨hb.grown hg hB (fun k h => (hown.lt k h).1), Nat.le_trans hB hg.size⟩

set_option maxRecDepth 1000000 in
set_option maxHeartbeats 800000 in
theorem blanks_any (B : Nat) (v : Value) (n : Nat) (xs : List Value) (m : Int) (w : World) (hown0 : w.ownsRow B 5 1 v n xs) (hB0 : B ≤ w.heap.size) (hn : n ≤ 100000) (hm0 : -100000 ≤ m) (hm : m ≤ 100000) :
    Calls Yba.prog 6 #[v, .int .i64 m] w fun e w' => ∃ v', e = .returned v' ∧ w'.ownsRow B 5 1 v' (n + m.toNat) (xs ++ List.replicate m.toNat (.int .u8 32)) ∧ Below B w w' ∧ B ≤ w'.heap.size := by
  obtain ⟨i5, hi5, z5, s5, b5⟩ := info_parts info5
  have O0 : Hid (w.ownsRow B 5 1 v n xs) := hown0
  have HB0 : Hid (B ≤ w.heap.size) := hB0
  clear hown0 hB0
  go_enter Yba.func6, Yba.ntmps6
  go_wp2
  go_loopw [0, 6] (fun v' i wr => ∃ k : Nat, k ≤ m.toNat ∧ i = .int .i64 k ∧ Hid (wr.ownsRow B 5 1 v' (n + k) (xs ++ List.replicate k (.int .u8 32))) ∧ Hid (Below B w wr ∧ B ≤ wr.heap.size)) (fun _ i _ => m.toNat - (intOf i).toNat)
  case atStart => exact ⟨0, Nat.zero_le _, rfl, by simpa using O0, ⟨Below.refl _ _, HB0.out⟩⟩
  case round =>
    obtain ⟨k, hk, rfl, HO, HBl⟩ := hrel
    by_cases hlt : (k : Int) < m
    · go_wp2_with (at_builtin; refine wpList_append_own _ rfl (.tmp 8) (.tmp 9) 22 rfl B 5 i5 (.int .u8 0) 1 1 Yba.underlying22 hi5 z5 s5 b5 rfl (by decide) _ _ _ rfl (HO.out.alloc _) ⟨wr.heap.size, 0, none⟩ 1 1 [.int .u8 32] rfl rfl ?c1 ?c2 ?c3 ?c4 ?c5 ?on)
      case c1 => intro j u hj; match j, hj with | 0, hj => simp at hj; subst hj; simp [Addr.add]
      case c2 => intro u hu; simp at hu; subst hu; rfl
      case c3 => unfold maxLen; omega
      case c4 => omega
      case c5 => have := HBl.out.2; simp; omega
      case on =>
        intro v1 w1 o1 g1 _
        have HBl1 : Hid (Below B w w1 ∧ B ≤ w1.heap.size) := grow_new HBl.out.1 HBl.out.2 HO.out g1
        rw [← List.replicate_succ'] at o1
        have O1 : Hid (w1.ownsRow B 5 1 v1 (n + (k + 1)) (xs ++ List.replicate (k + 1) (.int .u8 32))) := o1
        clear o1 g1
        go_wp2
        go_roundw
        case rel => exact ⟨k + 1, by omega, by go_num, O1, HBl1⟩
        case measure => simp [intOf]; omega
    · have hkm : k = m.toNat := by omega
      have HK : Hid (k = m.toNat) := hkm
      clear hkm
      go_wp2
      go_ret
      have HOo := HO.out
      rw [HK.out] at HOo
      exact ⟨_, rfl, HOo, HBl.out.1, HBl.out.2⟩
end Go.Proofs.Ybulkbhi
