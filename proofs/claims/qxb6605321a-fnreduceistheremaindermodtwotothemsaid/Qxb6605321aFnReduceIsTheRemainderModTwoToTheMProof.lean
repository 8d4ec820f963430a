/-
  'Rows.FnReduceIsTheRemainderModTwoToTheMSaid': the walk and the row (the row's step after the given shell).
-/
import Derived.Test.Qxb6605321aRows
import Derived.Test.Qxb6605321aBitsPlain
import Derived.WalkKit
import Derived.ProofKit
import Derived.OpenShut
namespace Go.Proofs.Qxb6605321a.fnReduceIsTheRemainderModTwoToTheM
open Go.ChangeShapes Go.WideShapes Go.ChangeAt Go.RowKit
open Go.Proofs.Qxb6605321a.Reduce
set_option linter.unusedVariables false      -- a walk need not use every 'w<i>' (that an integer argument fits its kind)

theorem own : ownKnob Try.prog.godebug = none := by kernel_rfl

/-! ### STEP 1: THE WALK -/
set_option maxRecDepth 100000 in
set_option maxHeartbeats 1000000 in
/-- sub160 where no word borrows. -/
theorem sub160_plain (ah am al bh bm bl : Int) (a1 : ah ≤ 4294967295) (b0 : 0 ≤ bh) (b1 : bh ≤ ah) (c1 : am ≤ 18446744073709551615) (d0 : 0 ≤ bm) (d1 : bm ≤ am) (e1 : al ≤ 18446744073709551615) (f0 : 0 ≤ bl) (f1 : bl ≤ al) (w : World) :
    Calls Try.prog 11 #[.int .u32 ah, .int .u64 am, .int .u64 al, .int .u32 bh, .int .u64 bm, .int .u64 bl] w fun e w' =>
      e = .returned (.tuple #[.int .u32 (ah - bh), .int .u64 (am - bm), .int .u64 (al - bl)]) ∧ w' = w := by
  have g1 : ¬ al < bl := by omega
  have g2 : ¬ am < bm := by omega
  have u1 : IntKind.u64.wrap (al - bl) = al - bl := by rw [IntKind.wrap_u64]; omega
  have u2 : IntKind.u64.wrap (am - bm) = am - bm := by rw [IntKind.wrap_u64]; omega
  have u3 : IntKind.u32.wrap (ah - bh) = ah - bh := by rw [IntKind.wrap_u32]; omega
  by_cases q : am = bm
  · have q' : (am == bm) = true := by simp [q]
    go_enter Try.func11, Try.ntmps11
    go_wp2
    all_goals go_ret3
    all_goals exact ⟨by simp, rfl⟩
  · have q' : (am == bm) = false := by simp [q]
    go_enter Try.func11, Try.ntmps11
    go_wp2
    all_goals go_ret3
    all_goals exact ⟨by simp, rfl⟩

theorem grown_trans {a b c : World} (h : Grown a b) (k : Grown b c) : Grown a c :=
  ⟨World.keptBut_trans h.1 (World.keptBut_mono (fun _ f => f.elim) k.1), fun x => (k.2.1 x).trans (h.2.1 x), Nat.le_trans h.2.2 k.2.2⟩

set_option maxRecDepth 100000 in
set_option maxHeartbeats 1000000 in
theorem walk_in (u : Nat) (a1 a2 a3 : Int) (hu : u < 160) (x0 : 0 ≤ a1) (x1 : a1 ≤ 4294967295) (y0 : 0 ≤ a2) (y1 : a2 ≤ 18446744073709551615) (z0 : 0 ≤ a3) (z1 : a3 ≤ 18446744073709551615) (w : World) :
    Calls Try.prog 4 #[.int .i64 u, .int .u32 a1, .int .u64 a2, .int .u64 a3] w fun e w' => e = .returned (.bool true) ∧ Grown w w' := by
  obtain ⟨p0, p1⟩ := rH_bd u a1 x0
  obtain ⟨q0, q1⟩ := rM_bd u a2 y0
  obtain ⟨s0, s1⟩ := rL_bd u a3 z0
  have t1 : rH u a1 ≤ 4294967295 := by omega
  have t2 : rM u a2 ≤ 18446744073709551615 := by omega
  have t3 : rL u a3 ≤ 18446744073709551615 := by omega
  have v0 : ¬ (u : Int) < 0 := by omega
  have v1 : ¬ (159 : Int) < u := by omega
  have KEEP : Hid (∀ i, i < 160 → bit (rH u a1) (rM u a2) (rL u a3) i = if i < 160 - u then bit a1 a2 a3 i else 0) := fun i hi => keeps u a1 a2 a3 hu x0 y0 z0 i hi
  have DIFF : Hid (∀ i, i < 160 - u → bit (a1 - rH u a1) (a2 - rM u a2) (a3 - rL u a3) i = 0) := fun i hi => diff_bits u a1 a2 a3 i hi
  have AH : Hid (rH u (rH u a1) = rH u a1) := rH_again u a1
  have AM : Hid (rM u (rM u a2) = rM u a2) := rM_again u a2
  have AL : Hid (rL u (rL u a3) = rL u a3) := rL_again u a3
  go_enter Try.func4, Try.ntmps4
  go_wp2_with fail
  refine (zzReduce_any u a1 a2 a3 hu x0 x1 y0 y1 z0 z1 _).mono ?_
  rintro e w1 ⟨rfl, hg⟩
  have HG : Hid (Grown w w1) := hg
  clear hg
  generalize hrh : rH u a1 = rh at *
  generalize hrm : rM u a2 = rm at *
  generalize hrl : rL u a3 = rl at *
  clear hrh hrm hrl
  go_wp2_with fail
  refine (sub160_plain a1 a2 a3 rh rm rl x1 p0 p1 y1 q0 q1 z1 s0 s1 _).mono ?_
  rintro e w' ⟨rfl, rfl⟩
  obtain ⟨dh, hdh⟩ : ∃ d, a1 - rh = d := ⟨_, rfl⟩
  obtain ⟨dm, hdm⟩ : ∃ d, a2 - rm = d := ⟨_, rfl⟩
  obtain ⟨dl, hdl⟩ : ∃ d, a3 - rl = d := ⟨_, rfl⟩
  rw [hdh, hdm, hdl] at DIFF
  rw [hdh, hdm, hdl]
  have g1 : 0 ≤ dh := by omega
  have g2 : dh ≤ 4294967295 := by omega
  have g3 : 0 ≤ dm := by omega
  have g4 : dm ≤ 18446744073709551615 := by omega
  have g5 : 0 ≤ dl := by omega
  have g6 : dl ≤ 18446744073709551615 := by omega
  clear hdh hdm hdl
  go_wp2_with fail
  go_loop [16] (fun t => ∃ k : Nat, k ≤ 160 ∧ t = .int .i64 k) (fun t => 160 - (intOf t).toNat)
  case atStart => exact ⟨0, by omega, rfl⟩
  case round =>
    obtain ⟨k, hk, rfl⟩ := hrel
    by_cases hlt : k < 160
    · by_cases hm : k < 160 - u
      · have hm' : (k : Int) < 160 - u := by omega
        have HK : Hid (bit dh dm dl k = 0) := DIFF.out k hm
        go_wp2_with fail
        refine (bitOf_any dh dm dl k hlt g1 g2 g3 g4 g5 g6 _).mono ?_
        rintro e w' ⟨he, rfl⟩
        rw [HK.out] at he
        subst he
        go_wp2
        go_round
        case rel => exact ⟨k + 1, by omega, by go_num⟩
        case measure => simp [intOf]; omega
      · have hm' : ¬ (k : Int) < 160 - u := by omega
        have HK : Hid (bit rh rm rl k = 0) := by have := KEEP.out k hlt; rw [if_neg hm] at this; exact this
        go_wp2_with fail
        refine (bitOf_any rh rm rl k hlt p0 t1 q0 t2 s0 t3 _).mono ?_
        rintro e w' ⟨he, rfl⟩
        rw [HK.out] at he
        subst he
        go_wp2
        go_round
        case rel => exact ⟨k + 1, by omega, by go_num⟩
        case measure => simp [intOf]; omega
    · go_wp2_with fail
      refine (zzReduce_any u rh rm rl hu p0 t1 q0 t2 s0 t3 _).mono ?_
      rintro e w2 ⟨he, hg2⟩
      rw [AH.out, AM.out, AL.out] at he
      subst he
      have HG2 : Hid (Grown _ w2) := hg2
      clear hg2
      go_wp2
      go_ret
      exact ⟨rfl, grown_trans HG.out HG2.out⟩

theorem walk (a0 : Int) (a1 : Int) (a2 : Int) (a3 : Int) (w0 : (Lit.int .i64 a0).wf = true) (w1 : (Lit.int .u32 a1).wf = true) (w2 : (Lit.int .u64 a2).wf = true) (w3 : (Lit.int .u64 a3).wf = true) (w : World) :
    Calls Try.prog 4 #[.int .i64 a0, .int .u32 a1, .int .u64 a2, .int .u64 a3] w fun e w' => e = .returned (.bool true) ∧ Grown w w' := by
  by_cases h0 : a0 < 0
  · go_enter Try.func4, Try.ntmps4
    go_wp2
    go_ret
    exact ⟨rfl, Grown.refl _⟩
  · by_cases h1 : 159 < a0
    · go_enter Try.func4, Try.ntmps4
      go_wp2
      go_ret
      exact ⟨rfl, Grown.refl _⟩
    · obtain ⟨u, rfl⟩ := Int.eq_ofNat_of_zero_le (show 0 ≤ a0 by omega)
      exact walk_in u a1 a2 a3 (by omega) (bounds_u32 w1).1 (bounds_u32 w1).2 (bounds_u64 w2).1 (bounds_u64 w2).2 (bounds_u64 w3).1 (bounds_u64 w3).2 w

/-! ### THE ROW's STEP: WRITTEN OUT: LEAVE IT -/
set_option maxRecDepth 100000 in
theorem lifted (os : Os) (started : os.Started) (H : Type) (enc : TypeId × Value → H) :
    ReturnsInHanded {} Try.checked os 4 .any (Rows.fnReduceIsTheRemainderModTwoToTheMSpec.pre6 enc Try.prog Try.f4 Rows.fnReduceIsTheRemainderModTwoToTheMRow.domain false) (Rows.fnReduceIsTheRemainderModTwoToTheMSpec.post enc Try.prog Try.f4 false true false false) := by
  refine returnsInHanded_of_change (C := Try.checked) own started (by kernel_rfl) Try.func4
    (ChangeSpec.witness6 (enc := enc) (C := Try.checked) false ⟨#[], #[.int .i64 0, .int .u32 0, .int .u64 0, .int .u64 0], []⟩ 8 (by kernel_rfl) (by kernel_rfl) (by kernel_rfl) (by kernel_rfl)) ?_
  intro W base args ds gs before hval0 hW hcnd _
  have hval : ∀ (j : Nat) t v, Try.f4.params[j]? = some t → args[j]? = some v → Value.okWide Try.prog W .any base t v := hval0
  have hW' := hW
  obtain ⟨p, q, hA0, hV, rfl, hfz, hnd⟩ := hW
  have hA : DataW.TrodAll enc Try.prog W 0 (fun _ => true) true Try.f4.params.toList args.toList ds p := hA0
  rw [Try.params4] at hA hval
  obtain ⟨v0, vs0, d0, ds0, p0, q0, hargs, rfl, rfl, h0, r0⟩ := trodAll_cons hA
  obtain ⟨v1, vs1, d1, ds1, p1, q1, rfl, rfl, rfl, h1, r1⟩ := trodAll_cons r0
  obtain ⟨v2, vs2, d2, ds2, p2, q2, rfl, rfl, rfl, h2, r2⟩ := trodAll_cons r1
  obtain ⟨v3, vs3, d3, ds3, p3, q3, rfl, rfl, rfl, h3, r3⟩ := trodAll_cons r2
  obtain ⟨rfl, rfl, rfl⟩ := trodAll_nil r3
  obtain rfl : args = #[v0, v1, v2, v3] := by cases args; simp_all
  obtain ⟨rfl, rfl⟩ := trodVars_none hV
  obtain ⟨a0, rfl, rfl, rfl, w0⟩ := open_int Try.underlying3 (hval 0 3 v0 rfl rfl) h0
  obtain ⟨a1, rfl, rfl, rfl, w1⟩ := open_int Try.underlying22 (hval 1 22 v1 rfl rfl) h1
  obtain ⟨a2, rfl, rfl, rfl, w2⟩ := open_int Try.underlying23 (hval 2 23 v2 rfl rfl) h2
  obtain ⟨a3, rfl, rfl, rfl, w3⟩ := open_int Try.underlying23 (hval 3 23 v3 rfl rfl) h3
  clear hA0 hval0
  simp only [List.append_nil] at hW'
  refine (walk a0 a1 a2 a3 w0 w1 w2 w3 W).mono fun e W' ⟨he, hg⟩ => ?_
  subst he
  exact ⟨_, rfl, post_of_same (pa := []) (pv := []) hW' (fun _ _ _ => (trodAll_cons_mk (shut_bool Try.underlying4 _) trodAll_mk0)) (fun sp _ => (trodAll_cons_mk (shut_int Try.underlying3 w0) (trodAll_cons_mk (shut_int Try.underlying22 w1) (trodAll_cons_mk (shut_int Try.underlying23 w2) (trodAll_cons_mk (shut_int Try.underlying23 w3) trodAll_mk0))))) (fun _ _ => rfl) rfl
    (hg.frame _) hg.2.1 (ok_one (by kernel_rfl) rfl (okWide_bool_mk Try.underlying4 _))⟩

theorem over : Rows.fnReduceIsTheRemainderModTwoToTheMRow.holds Try.pinned (OpenSpec.ofChange Rows.fnReduceIsTheRemainderModTwoToTheMSpec) :=
  OpenClaim.holds_of_wide 4 Try.f4 rfl rfl rfl rfl rfl rfl rfl ⟨rfl, rfl, rfl, rfl, rfl⟩ rfl rfl rfl rfl rfl (by kernel_rfl) Try.func4 (by kernel_rfl)
    (of_decide_eq_true (by kernel_rfl)) (by unfold Func.isWrapper; first | (rw [if_pos (by decide +kernel)]; kernel_rfl) | (rw [if_neg (by decide +kernel)]; exact ⟨rfl, rfl⟩))
    (fun os started H enc _ => lifted os started H enc)

/-- ████ THE STATEMENT ████ -/
theorem proved : Rows.FnReduceIsTheRemainderModTwoToTheMSaid :=
  over
end Go.Proofs.Qxb6605321a.fnReduceIsTheRemainderModTwoToTheM
