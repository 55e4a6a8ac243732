/-
  LawS0109BMonoLayout, PROVED: the given frame, its walk filled.
-/
import Derived.Test.YbulkbfsRows
import Derived.Test.YbulkbfsWall
import Derived.Laws.Pointers
import Derived.Lib.Builder
import Derived.WalkKit
import Derived.ProofKit
import Derived.OpenShut
import Derived.ShutString
namespace Go.Proofs.Ybulkbfs.lawS0109BMonoLayout
open Go.ChangeShapes Go.WideShapes Go.ChangeAt Go.RowKit
open Go.ChangeMaps (open_string shut_string)
set_option linter.unusedVariables false      -- a walk need not use every 'w<i>' (that an integer argument fits its kind)

theorem own : ownKnob Yba.prog.godebug = none := by kernel_rfl

/-! ### STEP 1: THE WALK, one theorem a way -/
set_option maxHeartbeats 800000 in
/-- A monotonic reading, the seconds in the span or not. -/
theorem walk_mono (sel raw nsec mono : Int) (own : Bool) (w : World) (w1 : (Lit.int .i64 raw).wf = true) (n0 : 0 ≤ nsec) (n1 : nsec ≤ 4294967295) :
    Calls Yba.prog 3 #[.int .u8 sel, .int .i64 raw, .int .u32 nsec, .int .i64 mono, .bool true, .bool own] w fun e w' => e = .returned (.bool true) ∧ Grown w w' := by
  have W1 : Hid _ := w1
  clear w1
  have hne := fun (w : World) (a : Addr) => Lib.run_neq_ptr_same (P := Yba.prog) w a Yba.underlying24 (show Yba.prog.info? 29 = some Yba.t29 from rfl)
  cases own
  all_goals
    go_enter Yba.func3, Yba.ntmps3
    go_wp2_with fail
    refine (sec_any sel raw _ W1.out).mono ?_
    rintro e w' ⟨⟨s, rfl, ws⟩, rfl⟩
    have WS := bounds_i64 ws
    have WS : Hid (-9223372036854775808 ≤ s ∧ s ≤ 9223372036854775807) := WS
    clear ws
    by_cases c : 59453308800 ≤ s ∧ s < 68043243392
    · obtain ⟨c1, c2⟩ := c
      go_wp2_with fail
      refine (mk_in s _ mono _ _ (in_span_lt s c1 c2)).mono ?_
      rintro e w' ⟨rfl, o, rfl⟩
      have hX := wall_eq s (nsec % 1000000000) c1 c2 (by omega) (by omega)
      have t1 := top_bit _ s _ hX c1 c2 (by omega) (by omega)
      have t2 := mid_bits _ s _ hX c1 c2 (by omega) (by omega)
      have t3 := low_bits _ s _ hX c1 c2 (by omega) (by omega)
      clear hX
      generalize wallRaw s (nsec % 1000000000) = X at t1 t2 t3 ⊢
      go_wp2
      go_ret
      exact ⟨rfl, by repeat (first | exact Grown.refl _ | apply Grown.drew | apply Grown.alloc)⟩
    · have hout := out_span s WS.out.1 WS.out.2 (by omega)
      by_cases c1 : s < 59453308800
      · clear c
        go_wp2_with fail
        refine (mk_out s _ mono _ _ hout).mono ?_
        rintro e w' ⟨rfl, o, rfl⟩
        clear hout
        go_wp2
        go_ret
        exact ⟨rfl, by repeat (first | exact Grown.refl _ | apply Grown.drew | apply Grown.alloc)⟩
      · have c2 : 68043243392 ≤ s := by omega
        clear c
        go_wp2_with fail
        refine (mk_out s _ mono _ _ hout).mono ?_
        rintro e w' ⟨rfl, o, rfl⟩
        clear hout
        go_wp2
        go_ret
        exact ⟨rfl, by repeat (first | exact Grown.refl _ | apply Grown.drew | apply Grown.alloc)⟩

set_option maxHeartbeats 800000 in
/-- No monotonic reading. -/
theorem walk_plain (sel raw nsec mono : Int) (own : Bool) (w : World) (w1 : (Lit.int .i64 raw).wf = true) (n0 : 0 ≤ nsec) (n1 : nsec ≤ 4294967295) :
    Calls Yba.prog 3 #[.int .u8 sel, .int .i64 raw, .int .u32 nsec, .int .i64 mono, .bool false, .bool own] w fun e w' => e = .returned (.bool true) ∧ Grown w w' := by
  have W1 : Hid _ := w1
  clear w1
  have hne := fun (w : World) (a : Addr) => Lib.run_neq_ptr_same (P := Yba.prog) w a Yba.underlying24 (show Yba.prog.info? 29 = some Yba.t29 from rfl)
  cases own
  all_goals
    go_enter Yba.func3, Yba.ntmps3
    go_wp2_with fail
    refine (sec_any sel raw _ W1.out).mono ?_
    rintro e w' ⟨⟨s, rfl, _⟩, rfl⟩
    by_cases c1 : s < 59453308800
    · go_wp2_with fail
      refine (mk_plain s _ mono _ _).mono ?_
      rintro e w' ⟨rfl, o, rfl⟩
      go_wp2
      go_ret
      exact ⟨rfl, by repeat (first | exact Grown.refl _ | apply Grown.drew | apply Grown.alloc)⟩
    · go_wp2_with fail
      refine (mk_plain s _ mono _ _).mono ?_
      rintro e w' ⟨rfl, o, rfl⟩
      go_wp2
      all_goals
        go_ret
        exact ⟨rfl, by repeat (first | exact Grown.refl _ | apply Grown.drew | apply Grown.alloc)⟩

theorem walk (a0 : Int) (a1 : Int) (a2 : Int) (a3 : Int) (a4 : Bool) (a5 : Bool) (w0 : (Lit.int .u8 a0).wf = true) (w1 : (Lit.int .i64 a1).wf = true) (w2 : (Lit.int .u32 a2).wf = true) (w3 : (Lit.int .i64 a3).wf = true) (w : World) :
    Calls Yba.prog 3 #[.int .u8 a0, .int .i64 a1, .int .u32 a2, .int .i64 a3, .bool a4, .bool a5] w fun e w' => e = .returned (.bool true) ∧ Grown w w' := by
  have b := bounds_u32 w2
  cases a4
  · exact walk_plain a0 a1 a2 a3 a5 w w1 b.1 b.2
  · exact walk_mono a0 a1 a2 a3 a5 w w1 b.1 b.2

/-! ### THE ROW's STEP: WRITTEN OUT: LEAVE IT -/
set_option maxRecDepth 100000 in
theorem lifted (os : Os) (started : os.Started) (H : Type) (enc : TypeId × Value → H) :
    ReturnsInHanded {} Yba.checked os 3 .any (Rows.lawS0109BMonoLayoutSpec.pre6 enc Yba.prog Yba.f3 Rows.lawS0109BMonoLayoutRow.domain false) (Rows.lawS0109BMonoLayoutSpec.post enc Yba.prog Yba.f3 false true false false) := by
  refine returnsInHanded_of_change (C := Yba.checked) own started (by kernel_rfl) Yba.func3
    (ChangeSpec.witness6 (enc := enc) (C := Yba.checked) false ⟨#[], #[.int .u8 0, .int .i64 0, .int .u32 0, .int .i64 0, .bool false, .bool false], []⟩ 8 (by kernel_rfl) (by kernel_rfl) (by kernel_rfl) (by kernel_rfl)) ?_
  intro W base args ds gs before hval0 hW hcnd _
  have hval : ∀ (j : Nat) t v, Yba.f3.params[j]? = some t → args[j]? = some v → Value.okWide Yba.prog W .any base t v := hval0
  have hW' := hW
  obtain ⟨p, q, hA0, hV, rfl, hfz, hnd⟩ := hW
  have hA : DataW.TrodAll enc Yba.prog W 0 (fun _ => true) true Yba.f3.params.toList args.toList ds p := hA0
  rw [Yba.params3] at hA hval
  obtain ⟨v0, vs0, d0, ds0, p0, q0, hargs, rfl, rfl, h0, r0⟩ := trodAll_cons hA
  obtain ⟨v1, vs1, d1, ds1, p1, q1, rfl, rfl, rfl, h1, r1⟩ := trodAll_cons r0
  obtain ⟨v2, vs2, d2, ds2, p2, q2, rfl, rfl, rfl, h2, r2⟩ := trodAll_cons r1
  obtain ⟨v3, vs3, d3, ds3, p3, q3, rfl, rfl, rfl, h3, r3⟩ := trodAll_cons r2
  obtain ⟨v4, vs4, d4, ds4, p4, q4, rfl, rfl, rfl, h4, r4⟩ := trodAll_cons r3
  obtain ⟨v5, vs5, d5, ds5, p5, q5, rfl, rfl, rfl, h5, r5⟩ := trodAll_cons r4
  obtain ⟨rfl, rfl, rfl⟩ := trodAll_nil r5
  obtain rfl : args = #[v0, v1, v2, v3, v4, v5] := by cases args; simp_all
  obtain ⟨rfl, rfl⟩ := trodVars_none hV
  obtain ⟨a0, rfl, rfl, rfl, w0⟩ := open_int Yba.underlying5 (hval 0 5 v0 rfl rfl) h0
  obtain ⟨a1, rfl, rfl, rfl, w1⟩ := open_int Yba.underlying2 (hval 1 2 v1 rfl rfl) h1
  obtain ⟨a2, rfl, rfl, rfl, w2⟩ := open_int Yba.underlying22 (hval 2 22 v2 rfl rfl) h2
  obtain ⟨a3, rfl, rfl, rfl, w3⟩ := open_int Yba.underlying2 (hval 3 2 v3 rfl rfl) h3
  obtain ⟨a4, rfl, rfl, rfl⟩ := open_bool Yba.underlying4 (hval 4 4 v4 rfl rfl) h4
  obtain ⟨a5, rfl, rfl, rfl⟩ := open_bool Yba.underlying4 (hval 5 4 v5 rfl rfl) h5
  clear hA0 hval0
  simp only [List.append_nil] at hW'
  refine (walk a0 a1 a2 a3 a4 a5 w0 w1 w2 w3 W).mono fun e W' ⟨he, hg⟩ => ?_
  subst he
  exact ⟨_, rfl, post_of_same (pa := []) (pv := []) hW' (fun _ _ _ => (trodAll_cons_mk (shut_bool Yba.underlying4 _) trodAll_mk0)) (fun sp _ => (trodAll_cons_mk (shut_int Yba.underlying5 w0) (trodAll_cons_mk (shut_int Yba.underlying2 w1) (trodAll_cons_mk (shut_int Yba.underlying22 w2) (trodAll_cons_mk (shut_int Yba.underlying2 w3) (trodAll_cons_mk (shut_bool Yba.underlying4 _) (trodAll_cons_mk (shut_bool Yba.underlying4 _) trodAll_mk0))))))) (fun _ _ => rfl) rfl
    (hg.frame _) hg.2.1 (ok_one (by kernel_rfl) rfl (okWide_bool_mk Yba.underlying4 _))⟩

theorem over : Rows.lawS0109BMonoLayoutRow.holds Yba.pinned (OpenSpec.ofChange Rows.lawS0109BMonoLayoutSpec) :=
  OpenClaim.holds_of_wide 3 Yba.f3 rfl rfl rfl rfl rfl rfl rfl ⟨rfl, rfl, rfl, rfl, rfl⟩ rfl rfl rfl rfl rfl (by kernel_rfl) Yba.func3 (by kernel_rfl)
    (of_decide_eq_true (by kernel_rfl)) (by unfold Func.isWrapper; first | (rw [if_pos (by decide +kernel)]; kernel_rfl) | (rw [if_neg (by decide +kernel)]; exact ⟨rfl, rfl⟩))
    (fun os started H enc _ => lifted os started H enc)

/-- ████ THE STATEMENT ████ -/
theorem proved : Rows.LawS0109BMonoLayoutSaid :=
  over
#print axioms proved
end Go.Proofs.Ybulkbfs.lawS0109BMonoLayout
