/-
  THE LAW's WALK, BY check's CONTRACTS.
-/
import Derived.Test.YbulkbecFmtWalk2
namespace Go.Proofs.YbulkbecFmt
open Go.RowKit Go.Extern.Stop Go.Stop Go.Extern

set_option maxHeartbeats 400000 in
theorem law_walk (F : Interp) (m h items : Int) (T : ByteArray) (w : World) (hF : F.answers w.tape) (hT : FmtStop.textOf (F "fmt.Sprintf" [[104, 111, 116, 58, 37, 100], shape3, digits 8 (h % 18446744073709551616).toNat] 0) = T) (hs0 : 0 < T.size) (hs1 : T.size ≤ 1000)
    (hcs : ∀ k, k < 4 → ∃ s, w.cell? ⟨0, k, none⟩ = some (.string s)) (hz : 0 < w.heap.size) :
    Calls Ybaf.prog 5 #[.int .i64 m, .int .i64 h, .int .i64 items] w fun e w' => e = .returned (.bool true) ∧ Below w.heap.size w w' := by
  have HT : Hid _ := hT; clear hT
  have HC : Hid _ := hcs; clear hcs
  by_cases m0 : m < 0
  · go_enter Ybaf.func5, Ybaf.ntmps5
    go_wp2_with fail
    refine (check_bad F m h items _ (by exact hF) (Or.inl m0)).mono ?_
    rintro e w' ⟨⟨a, rfl⟩, hb⟩
    go_wp2
    go_ret
    exact ⟨rfl, ((Below.refl _ _).alloc (Nat.le_refl _) _).trans (hb.mono (by simp))⟩
  by_cases m4 : 4 ≤ m
  · go_enter Ybaf.func5, Ybaf.ntmps5
    go_wp2_with fail
    refine (check_bad F m h items _ (by exact hF) (Or.inr m4)).mono ?_
    rintro e w' ⟨⟨a, rfl⟩, hb⟩
    go_wp2
    go_ret
    exact ⟨rfl, ((Below.refl _ _).alloc (Nat.le_refl _) _).trans (hb.mono (by simp))⟩
  by_cases m2 : m = 2
  · subst m2
    by_cases h1 : h < 1
    · go_enter Ybaf.func5, Ybaf.ntmps5
      go_wp2_with fail
      refine (check_hot_bad F h items T _ (by exact hF) HT.out hs0 hs1 (Or.inl h1)).mono ?_
      rintro e w' ⟨⟨a, rfl⟩, hb⟩
      go_wp2
      go_ret
      exact ⟨rfl, ((Below.refl _ _).alloc (Nat.le_refl _) _).trans (hb.mono (by simp))⟩
    by_cases h2 : items < h
    · have h3 : decide (h ≤ items) = false := by simp; omega
      go_enter Ybaf.func5, Ybaf.ntmps5
      go_wp2_with fail
      refine (check_hot_bad F h items T _ (by exact hF) HT.out hs0 hs1 (Or.inr h2)).mono ?_
      rintro e w' ⟨⟨a, rfl⟩, hb⟩
      go_wp2
      go_ret
      exact ⟨rfl, ((Below.refl _ _).alloc (Nat.le_refl _) _).trans (hb.mono (by simp))⟩
    · go_enter Ybaf.func5, Ybaf.ntmps5
      go_wp2_with fail
      refine (check_hot_ok F h items T _ (by exact hF) HT.out hs0 hs1 (by omega) (by omega)).mono ?_
      rintro e w' ⟨rfl, hb⟩
      go_wp2
      go_ret
      exact ⟨rfl, ((Below.refl _ _).alloc (Nat.le_refl _) _).trans (hb.mono (by simp))⟩
  · have h2 : (m == 2) = false := by simpa using m2
    obtain ⟨s, hs⟩ := HC.out m.toNat (by omega)
    have HS : Hid _ := hs; clear hs
    clear m2
    go_enter Ybaf.func5, Ybaf.ntmps5
    go_wp2_with fail
    refine (check_named m h items s _ (by omega) (by omega) h2 ?_ ?_).mono ?_
    · rw [((Below.refl w.heap.size w).alloc (Nat.le_refl _) _).cell hz]; exact HS.out
    · simp
    rintro e w' ⟨rfl, hb⟩
    go_wp2
    go_ret
    exact ⟨rfl, ((Below.refl _ _).alloc (Nat.le_refl _) _).trans (hb.mono (by simp))⟩

end Go.Proofs.YbulkbecFmt
