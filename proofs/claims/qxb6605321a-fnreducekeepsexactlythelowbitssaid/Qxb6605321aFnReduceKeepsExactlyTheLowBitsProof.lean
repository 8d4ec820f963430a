/-
  'Rows.FnReduceKeepsExactlyTheLowBitsSaid': the walk and the row (the row's step after the given shell).
-/
import Derived.Test.Qxb6605321aRows
import Derived.Test.Qxb6605321aBitsPlain
import Derived.WalkKit
import Derived.ProofKit
import Derived.OpenShut
namespace Go.Proofs.Qxb6605321a.fnReduceKeepsExactlyTheLowBits
open Go.ChangeShapes Go.WideShapes Go.ChangeAt Go.RowKit
open Go.Proofs.Qxb6605321a.Reduce
set_option linter.unusedVariables false      -- a walk need not use every 'w<i>' (that an integer argument fits its kind)

theorem own : ownKnob Try.prog.godebug = none := by kernel_rfl

/-! ### STEP 1: THE WALK -/
set_option maxHeartbeats 1000000 in
set_option maxRecDepth 100000 in
theorem walk_in (u : Nat) (a1 a2 a3 : Int) (hu : u < 160) (x0 : 0 ≤ a1) (x1 : a1 ≤ 4294967295) (y0 : 0 ≤ a2) (y1 : a2 ≤ 18446744073709551615) (z0 : 0 ≤ a3) (z1 : a3 ≤ 18446744073709551615) (w : World) :
    Calls Try.prog 3 #[.int .i64 u, .int .u32 a1, .int .u64 a2, .int .u64 a3] w fun e w' => e = .returned (.bool true) ∧ Grown w w' := by
  obtain ⟨p0, p1⟩ := rH_bd u a1 x0
  obtain ⟨q0, q1⟩ := rM_bd u a2 y0
  obtain ⟨s0, s1⟩ := rL_bd u a3 z0
  have t1 : rH u a1 ≤ 4294967295 := by omega
  have t2 : rM u a2 ≤ 18446744073709551615 := by omega
  have t3 : rL u a3 ≤ 18446744073709551615 := by omega
  have v0 : ¬ (u : Int) < 0 := by omega
  have v1 : ¬ (159 : Int) < u := by omega
  go_enter Try.func3, Try.ntmps3
  go_wp2_with fail
  refine (zzReduce_any u a1 a2 a3 hu x0 x1 y0 y1 z0 z1 _).mono ?_
  rintro e w1 ⟨rfl, hg⟩
  have HG : Hid (Grown w w1) := hg
  clear hg
  go_wp2_with fail
  go_loop [13] (fun t => ∃ k : Nat, k ≤ 160 ∧ t = .int .i64 k) (fun t => 160 - (intOf t).toNat)
  case atStart => exact ⟨0, by omega, rfl⟩
  case round =>
    obtain ⟨k, hk, rfl⟩ := hrel
    by_cases hlt : k < 160
    · have HK : Hid (bit (rH u a1) (rM u a2) (rL u a3) k = if k < 160 - u then bit a1 a2 a3 k else 0) := keeps u a1 a2 a3 hu x0 y0 z0 k hlt
      by_cases hm : k < 160 - u
      · have hm' : (k : Int) < 160 - u := by omega
        rw [if_pos hm] at HK
        go_wp2_with fail
        refine (bitOf_any a1 a2 a3 k hlt x0 x1 y0 y1 z0 z1 _).mono ?_
        rintro e w' ⟨rfl, rfl⟩
        go_wp2_with fail
        refine (bitOf_any _ _ _ k hlt p0 t1 q0 t2 s0 t3 _).mono ?_
        rintro e w' ⟨he, rfl⟩
        rw [HK.out] at he
        subst he
        go_wp2
        go_round
        case rel => exact ⟨k + 1, by omega, by go_num⟩
        case measure => simp [intOf]; omega
      · have hm' : ¬ (k : Int) < 160 - u := by omega
        rw [if_neg hm] at HK
        go_wp2_with fail
        refine (bitOf_any _ _ _ k hlt p0 t1 q0 t2 s0 t3 _).mono ?_
        rintro e w' ⟨he, rfl⟩
        rw [HK.out] at he
        subst he
        go_wp2
        go_round
        case rel => exact ⟨k + 1, by omega, by go_num⟩
        case measure => simp [intOf]; omega
    · go_wp2
      go_ret
      exact ⟨rfl, HG.out⟩

theorem walk (a0 : Int) (a1 : Int) (a2 : Int) (a3 : Int) (w0 : (Lit.int .i64 a0).wf = true) (w1 : (Lit.int .u32 a1).wf = true) (w2 : (Lit.int .u64 a2).wf = true) (w3 : (Lit.int .u64 a3).wf = true) (w : World) :
    Calls Try.prog 3 #[.int .i64 a0, .int .u32 a1, .int .u64 a2, .int .u64 a3] w fun e w' => e = .returned (.bool true) ∧ Grown w w' := by
  by_cases h0 : a0 < 0
  · go_enter Try.func3, Try.ntmps3
    go_wp2
    go_ret
    exact ⟨rfl, Grown.refl _⟩
  · by_cases h1 : 159 < a0
    · go_enter Try.func3, Try.ntmps3
      go_wp2
      go_ret
      exact ⟨rfl, Grown.refl _⟩
    · obtain ⟨u, rfl⟩ := Int.eq_ofNat_of_zero_le (show 0 ≤ a0 by omega)
      exact walk_in u a1 a2 a3 (by omega) (bounds_u32 w1).1 (bounds_u32 w1).2 (bounds_u64 w2).1 (bounds_u64 w2).2 (bounds_u64 w3).1 (bounds_u64 w3).2 w

/-! ### THE ROW's STEP: WRITTEN OUT: LEAVE IT -/
set_option maxRecDepth 100000 in
theorem lifted (os : Os) (started : os.Started) (H : Type) (enc : TypeId × Value → H) :
    ReturnsInHanded {} Try.checked os 3 .any (Rows.fnReduceKeepsExactlyTheLowBitsSpec.pre6 enc Try.prog Try.f3 Rows.fnReduceKeepsExactlyTheLowBitsRow.domain false) (Rows.fnReduceKeepsExactlyTheLowBitsSpec.post enc Try.prog Try.f3 false true false false) := by
  refine returnsInHanded_of_change (C := Try.checked) own started (by kernel_rfl) Try.func3
    (ChangeSpec.witness6 (enc := enc) (C := Try.checked) false ⟨#[], #[.int .i64 0, .int .u32 0, .int .u64 0, .int .u64 0], []⟩ 8 (by kernel_rfl) (by kernel_rfl) (by kernel_rfl) (by kernel_rfl)) ?_
  intro W base args ds gs before hval0 hW hcnd _
  have hval : ∀ (j : Nat) t v, Try.f3.params[j]? = some t → args[j]? = some v → Value.okWide Try.prog W .any base t v := hval0
  have hW' := hW
  obtain ⟨p, q, hA0, hV, rfl, hfz, hnd⟩ := hW
  have hA : DataW.TrodAll enc Try.prog W 0 (fun _ => true) true Try.f3.params.toList args.toList ds p := hA0
  rw [Try.params3] at hA hval
  obtain ⟨v0, vs0, d0, ds0, p0, q0, hargs, rfl, rfl, h0, r0⟩ := trodAll_cons hA
  obtain ⟨v1, vs1, d1, ds1, p1, q1, rfl, rfl, rfl, h1, r1⟩ := trodAll_cons r0
  obtain ⟨v2, vs2, d2, ds2, p2, q2, rfl, rfl, rfl, h2, r2⟩ := trodAll_cons r1
  obtain ⟨v3, vs3, d3, ds3, p3, q3, rfl, rfl, rfl, h3, r3⟩ := trodAll_cons r2
  obtain ⟨rfl, rfl, rfl⟩ := trodAll_nil r3
  obtain rfl : args = #[v0, v1, v2, v3] := by cases args; simp_all
  obtain ⟨rfl, rfl⟩ := trodVars_none hV
  obtain ⟨a0, rfl, rfl, rfl, w0⟩ := open_int Try.underlying3 (hval 0 3 v0 rfl rfl) h0
  obtain ⟨a1, rfl, rfl, rfl, w1⟩ := open_int Try.underlying22 (hval 1 22 v1 rfl rfl) h1
  obtain ⟨a2, rfl, rfl, rfl, w2⟩ := open_int Try.underlying23 (hval 2 23 v2 rfl rfl) h2
  obtain ⟨a3, rfl, rfl, rfl, w3⟩ := open_int Try.underlying23 (hval 3 23 v3 rfl rfl) h3
  clear hA0 hval0
  simp only [List.append_nil] at hW'
  refine (walk a0 a1 a2 a3 w0 w1 w2 w3 W).mono fun e W' ⟨he, hg⟩ => ?_
  subst he
  exact ⟨_, rfl, post_of_same (pa := []) (pv := []) hW' (fun _ _ _ => (trodAll_cons_mk (shut_bool Try.underlying4 _) trodAll_mk0)) (fun sp _ => (trodAll_cons_mk (shut_int Try.underlying3 w0) (trodAll_cons_mk (shut_int Try.underlying22 w1) (trodAll_cons_mk (shut_int Try.underlying23 w2) (trodAll_cons_mk (shut_int Try.underlying23 w3) trodAll_mk0))))) (fun _ _ => rfl) rfl
    (hg.frame _) hg.2.1 (ok_one (by kernel_rfl) rfl (okWide_bool_mk Try.underlying4 _))⟩

theorem over : Rows.fnReduceKeepsExactlyTheLowBitsRow.holds Try.pinned (OpenSpec.ofChange Rows.fnReduceKeepsExactlyTheLowBitsSpec) :=
  OpenClaim.holds_of_wide 3 Try.f3 rfl rfl rfl rfl rfl rfl rfl ⟨rfl, rfl, rfl, rfl, rfl⟩ rfl rfl rfl rfl rfl (by kernel_rfl) Try.func3 (by kernel_rfl)
    (of_decide_eq_true (by kernel_rfl)) (by unfold Func.isWrapper; first | (rw [if_pos (by decide +kernel)]; kernel_rfl) | (rw [if_neg (by decide +kernel)]; exact ⟨rfl, rfl⟩))
    (fun os started H enc _ => lifted os started H enc)

/-- ████ THE STATEMENT ████ -/
theorem proved : Rows.FnReduceKeepsExactlyTheLowBitsSaid :=
  over
end Go.Proofs.Qxb6605321a.fnReduceKeepsExactlyTheLowBits
