/-
  THE LAW's WALK, the lengths within its bounds.
-/
import Derived.Test.YbulkbhiParts
namespace Go.Proofs.Ybulkbhi
open Go.RowKit

set_option maxRecDepth 1000000 in
set_option maxHeartbeats 1600000 in
theorem main_walk (a0 : Option Addr) (len0 cap0 : Nat) (start : Int) (s : ByteArray) (a3 : Option Addr) (len3 cap3 : Nat) (xs ys : List Value) (zs : List Int) (w : World)
    (hx : SrcIn w w.heap.size a0 len0 cap0 xs) (hy : SrcIn w w.heap.size a3 len3 cap3 ys) (hz : xs ++ tailOf (start + 60 - len0) s ys = zs.map (Value.int .u8))
    (n0 : len0 ≤ 1024) (n2 : s.size ≤ 1024) (n3 : len3 ≤ 1024) (s0 : -4096 ≤ start) (s1 : start ≤ 4096) :
    Calls Yba.prog 3 #[.slice a0 len0 cap0, .int .i64 start, .string s, .slice a3 len3 cap3] w fun e w' => e = .returned (.bool true) ∧ Below w.heap.size w w' := by
  obtain ⟨i5, hi5, z5, s5, b5⟩ := info_parts info5
  have HX : Hid (SrcIn w w.heap.size a0 len0 cap0 xs) := hx
  have HY : Hid (SrcIn w w.heap.size a3 len3 cap3 ys) := hy
  have HZ : Hid (xs ++ tailOf (start + 60 - len0) s ys = zs.map (Value.int .u8)) := hz
  clear hx hy hz
  have mk1 := run_make8 len0 (by omega)
  have mk2 := run_make8_0 (len0 + s.size + len3 + 4200) ((len0 : Int) + (s.size : Int) + (len3 : Int) + 4200) (by omega) (by omega)
  have t1 : decide (1024 < (len0 : Int)) = false := by simp; omega
  have t2 : decide (1024 < (s.size : Int)) = false := by simp; omega
  have t3 : decide (1024 < (len3 : Int)) = false := by simp; omega
  have t4 : decide (start < -4096) = false := by simp; omega
  have t5 : decide (4096 < start) = false := by simp; omega
  have hsz : (Yba.prog.info? 5).map (·.size) = some 1 := by kernel_rfl
  have hb1 : Below w.heap.size w (w.alloc (.cells (zeroRow len0).toArray 5)) := (Below.refl _ _).alloc (Nat.le_refl _) _
  have HB1 : Hid (Below w.heap.size w (w.alloc (.cells (zeroRow len0).toArray 5))) := hb1
  have HG1 : Hid ((w.alloc (.cells (zeroRow len0).toArray 5)).heap[w.heap.size]? = some (.cells (zeroRow len0).toArray 5 (0, 0))) := heap_alloc_new w _
  have HL : Hid (xs.length = len0) := HX.out.length
  clear hb1
  go_enter Yba.func3, Yba.ntmps3
  go_wp2_with (refine wpList_copy_splice rfl (.tmp 38) (.tmp 39) 22 22 rfl 5 Yba.underlying22 hsz _ _ _ _ _ _ rfl rfl w.heap.size 0 (zeroRow len0) 5 HG1.out xs ?k1 (fun hp => ⟨rfl, HX.out.hpos HB1.out hp⟩) ?k2 HX.out.one w.heap.size w HB1.out (Nat.le_refl _) ?on)
  case k1 => rw [HL.out]; simp
  case k2 => rw [HL.out, zeroRow_length]; omega
  case on =>
    intro w1 G1 B1
    have O1 : Hid (w1.ownsRow w.heap.size 5 1 (.slice (some ⟨w.heap.size, 0, none⟩) len0 len0) len0 xs) := own_copied G1.out HL.out (by omega) (Nat.le_refl _)
    have HB2 : Hid (Below w.heap.size w w1) := B1
    clear G1 B1 HG1 HB1
    go_wp2_with fail
    refine (label_any w.heap.size _ len0 _ xs start s a3 len3 cap3 ys w1 O1.out HB2.out.size (HY.out.later HB2.out) (by omega) (by omega) (by omega) (by omega) (by omega)).mono ?_
    rintro e w2 ⟨got, rfl, og, bg, zg⟩
    have OG : Hid (w2.ownsRow w.heap.size 5 1 got (len0 + (start + 60 - len0).toNat + s.size + len3) (xs ++ tailOf (start + 60 - len0) s ys)) := og
    have HB3 : Hid (Below w.heap.size w w2) := HB2.out.trans bg
    clear og bg zg
    have HB4 : Hid (Below w.heap.size w (w2.alloc (.cells (zeroRow (len0 + s.size + len3 + 4200)).toArray 5))) := HB3.out.alloc HB3.out.size _
    have OM : Hid ((w2.alloc (.cells (zeroRow (len0 + s.size + len3 + 4200)).toArray 5)).ownsRow w2.heap.size 5 1 (.slice (some ⟨w2.heap.size, 0, none⟩) 0 (len0 + s.size + len3 + 4200)) 0 []) := own_made (Nat.le_refl _) (by omega)
    have HN : Hid (Below w2.heap.size w2 (w2.alloc (.cells (zeroRow (len0 + s.size + len3 + 4200)).toArray 5)) ∧ w2.heap.size ≤ (w2.alloc (.cells (zeroRow (len0 + s.size + len3 + 4200)).toArray 5)).heap.size) := ⟨(Below.refl _ _).alloc (Nat.le_refl _) _, by simp⟩
    go_wp2_with (at_builtin; refine append_in rfl (.tmp 56) (.tmp 57) rfl w2.heap.size _ 0 [] rfl OM.out a0 len0 cap0 xs rfl w.heap.size (HX.out.later HB4.out) ?e1 HN.out.2 ?on4)
    case e1 => omega
    case on4 =>
      intro v4 w4 o4 g4
      have HN4 : Hid (Below w2.heap.size w2 w4 ∧ w2.heap.size ≤ w4.heap.size) := grow_same HN.out.1 HN.out.2 OM.out g4
      have o4' : w4.ownsRow w2.heap.size 5 1 v4 len0 xs := by simpa using o4
      have O4 : Hid (w4.ownsRow w2.heap.size 5 1 v4 len0 xs) := o4'
      clear o4 o4' g4 OM HN HB4
      go_wp2
      go_loopw [11, 13] (fun v' i wr => ∃ k : Nat, k ≤ (start + 60 - len0).toNat ∧ i = .int .i64 k ∧ Hid (wr.ownsRow w2.heap.size 5 1 v' (len0 + k) (xs ++ List.replicate k (.int .u8 32))) ∧ Hid (Below w2.heap.size w2 wr ∧ w2.heap.size ≤ wr.heap.size)) (fun _ i _ => (start + 60 - len0).toNat - (intOf i).toNat)
      case atStart => exact ⟨0, Nat.zero_le _, rfl, by simpa using O4, HN4⟩
      case round =>
        obtain ⟨k, hk, rfl, HO, HBl⟩ := hrel
        by_cases hlt : (k : Int) < start + 60 - len0
        · go_wp2_with (at_builtin; refine wpList_append_own _ rfl (.tmp 69) (.tmp 70) 22 rfl w2.heap.size 5 i5 (.int .u8 0) 1 1 Yba.underlying22 hi5 z5 s5 b5 rfl (by decide) _ _ _ rfl (HO.out.alloc _) ⟨wr.heap.size, 0, none⟩ 1 1 [.int .u8 32] rfl rfl ?c1 ?c2 ?c3 ?c4 ?c5 ?on5)
          case c1 => intro j u hj; match j, hj with | 0, hj => simp at hj; subst hj; simp [Addr.add]
          case c2 => intro u hu; simp at hu; subst hu; rfl
          case c3 => unfold maxLen; omega
          case c4 => omega
          case c5 => have := HBl.out.2; simp; omega
          case on5 =>
            intro v5 w5 o5 g5 _
            have HBl5 : Hid (Below w2.heap.size w2 w5 ∧ w2.heap.size ≤ w5.heap.size) := grow_new HBl.out.1 HBl.out.2 HO.out g5
            rw [← List.replicate_succ'] at o5
            have O5 : Hid (w5.ownsRow w2.heap.size 5 1 v5 (len0 + (k + 1)) (xs ++ List.replicate (k + 1) (.int .u8 32))) := o5
            clear o5 g5
            go_wp2
            go_roundw
            case rel => exact ⟨k + 1, by omega, by go_num, O5, HBl5⟩
            case measure => simp [intOf]; omega
        · have HK : Hid (k = (start + 60 - len0).toNat) := show _ = _ by omega
          have hk2 : k ≤ 10000 := by omega
          go_wp2_with (at_builtin; refine Lib.wpList_append_own_string _ rfl (.tmp 72) (.tmp 73) 22 9 rfl w2.heap.size 5 i5 Yba.underlying22 Yba.underlying9 hi5 z5 s5 b5 _ _ _ rfl HO.out s rfl ?f3 ?f4 HBl.out.2 ?on6)
          case f3 => unfold maxLen; omega
          case f4 => omega
          case on6 =>
            intro v6 w6 o6 g6 _
            have HB6 : Hid (Below w2.heap.size w2 w6 ∧ w2.heap.size ≤ w6.heap.size) := grow_same HBl.out.1 HBl.out.2 HO.out g6
            have o6' : w6.ownsRow w2.heap.size 5 1 v6 (len0 + k + s.size) (xs ++ (List.replicate k (.int .u8 32) ++ Lib.strCells s)) := by simpa using o6
            have O6 : Hid (w6.ownsRow w2.heap.size 5 1 v6 (len0 + k + s.size) (xs ++ (List.replicate k (.int .u8 32) ++ Lib.strCells s))) := o6'
            have HC6 : Hid (Below w.heap.size w w6) := HB3.out.trans (HB6.out.1.mono HB3.out.size)
            clear o6 o6' g6
            go_wp2_with (at_builtin; refine append_in rfl (.tmp 75) (.tmp 76) rfl w2.heap.size _ _ _ rfl O6.out a3 len3 cap3 ys rfl w.heap.size (HY.out.later HC6.out) ?e7 HB6.out.2 ?on7)
            case e7 => omega
            case on7 =>
              intro v7 w7 o7 g7
              have HB7 : Hid (Below w2.heap.size w2 w7 ∧ w2.heap.size ≤ w7.heap.size) := grow_same HB6.out.1 HB6.out.2 O6.out g7
              have o7' : w7.ownsRow w2.heap.size 5 1 v7 (len0 + k + s.size + len3) (xs ++ tailOf (start + 60 - len0) s ys) := by
                unfold tailOf
                rw [← HK.out]
                simpa using o7
              have O7 : Hid (w7.ownsRow w2.heap.size 5 1 v7 (len0 + k + s.size + len3) (zs.map (Value.int .u8))) := by rw [HZ.out] at o7'; exact o7'
              have o2' := own_below OG.out HB7.out.1 (Nat.le_refl _)
              have O2 : Hid (w7.ownsRow w.heap.size 5 1 got (len0 + (start + 60 - len0).toNat + s.size + len3) (zs.map (Value.int .u8))) := by rw [HZ.out] at o2'; exact o2'
              have HC7 : Hid (Below w.heap.size w w7) := HB3.out.trans (HB7.out.1.mono HB3.out.size)
              clear o7 o7' o2' g7
              go_wp2_with fail
              refine (equal_same O2.out O7.out).mono ?_
              rintro e w8 ⟨rfl, rfl⟩
              go_wp2
              go_ret
              exact ⟨rfl, HC7.out⟩
end Go.Proofs.Ybulkbhi
