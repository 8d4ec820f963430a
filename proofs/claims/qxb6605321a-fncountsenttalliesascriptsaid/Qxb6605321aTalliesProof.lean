/-
  THE ROW of 'Rows.FnCountSentTalliesAScriptSaid'.
-/
import Derived.Test.Qxb6605321aTalliesWalk
import Derived.Test.Qxb6605321aCounts
import Derived.Deep.Grids
import Derived.ShutString
import Derived.ChangeOld
import Derived.Below
namespace Go.Proofs.Qxb6605321a.Tallies
open Go.ChangeShapes Go.WideShapes Go.ChangeAt Go.RowKit
open Go.Proofs.Qxb6605321a.Count

theorem cells5 : Try.prog.cellsOf 5 = 1 := by kernel_rfl
theorem cells4 : Try.prog.cellsOf 4 = 1 := by kernel_rfl

theorem open_u8s {H : Type} {enc : TypeId × Value → H} {W : World} {base : Nat} {v : Value} {d : DataW H} {p : List MemPlace}
    (hv : Value.okWide Try.prog W .any base 43 v) (h : DataW.Trod enc Try.prog W 0 (fun _ => true) true 43 v d p) :
    ∃ (a : Option Addr) (l c : Nat) (f : Nat → Int), v = .slice a l c ∧ Given W a l c (fun j => .int .u8 (f j)) ∧ ∀ j, j < l → 0 ≤ f j ∧ f j ≤ 255 := by
  obtain ⟨a0, len, cap, rfl⟩ := okWide_slice Try.underlying43 hv
  obtain ⟨fuel, hf⟩ := h
  rcases open_ints Try.underlying43 Try.underlying5 cells5 hf with ⟨hcs, _⟩ | ⟨x, l, c, zs, hcs, _, hl, hm, hz, _, hcell, hwz⟩
  · simp [Value.cells] at hcs
    obtain ⟨rfl, rfl, rfl⟩ := hcs
    exact ⟨none, 0, 0, fun _ => 0, rfl, .inl ⟨rfl, rfl, rfl⟩, fun j hj => by omega⟩
  · simp [Value.cells] at hcs
    obtain ⟨rfl, rfl, rfl⟩ := hcs
    simp only [if_true] at hz
    refine ⟨some x, len, cap, fun j => zs.getD j 0, rfl, .inr ⟨x, rfl, hl, hm, fun j hj => hcell j (by omega)⟩, fun j hj => ?_⟩
    have hj' : j < zs.length := by omega
    have e : zs.getD j 0 = zs[j] := by simp [List.getD, hj']
    show 0 ≤ zs.getD j 0 ∧ zs.getD j 0 ≤ 255
    rw [e]
    exact bounds_u8 (hwz _ (List.getElem_mem hj'))

theorem open_bls {H : Type} {enc : TypeId × Value → H} {W : World} {base : Nat} {v : Value} {d : DataW H} {p : List MemPlace}
    (hv : Value.okWide Try.prog W .any base 44 v) (h : DataW.Trod enc Try.prog W 0 (fun _ => true) true 44 v d p) :
    ∃ (a : Option Addr) (l c : Nat) (f : Nat → Bool), v = .slice a l c ∧ Given W a l c (fun j => .bool (f j)) := by
  obtain ⟨a0, len, cap, rfl⟩ := okWide_slice Try.underlying44 hv
  obtain ⟨fuel, hf⟩ := h
  rcases Go.Deep.open_bools Try.underlying44 Try.underlying4 cells4 hf with ⟨hcs, _⟩ | ⟨x, l, c, B, hcs, _, hl, hm, _, hcell⟩
  · simp [Value.cells] at hcs
    obtain ⟨rfl, rfl, rfl⟩ := hcs
    exact ⟨none, 0, 0, fun _ => false, rfl, .inl ⟨rfl, rfl, rfl⟩⟩
  · simp [Value.cells] at hcs
    obtain ⟨rfl, rfl, rfl⟩ := hcs
    exact ⟨some x, len, cap, B, rfl, .inr ⟨x, rfl, hl, hm, fun j hj => hcell j (by omega)⟩⟩

theorem Given.len {w : World} {a : Option Addr} {n cap : Nat} {f : Nat → Value} (h : Given w a n cap f) : n ≤ maxLen := by
  rcases h with ⟨_, rfl, _⟩ | ⟨_, _, hl, hm, _⟩
  · exact Nat.zero_le _
  · exact Nat.le_trans hl hm

set_option maxRecDepth 100000 in
set_option maxHeartbeats 2000000 in
/-- A slice of more than 65536: true at once. -/
theorem walk_big (x0 x1 x2 x3 x4 x5 : Int) (a1 a2 a3 : Option Addr) (l1 c1 l2 c2 l3 c3 : Nat) (w : World) (m1 : l1 ≤ maxLen) (m2 : l2 ≤ maxLen) (m3 : l3 ≤ maxLen)
    (h : ¬ (l1 ≤ 65536 ∧ l2 ≤ 65536 ∧ l3 ≤ 65536)) :
    Calls Try.prog 7 #[.agg #[.int .u64 x0, .int .u64 x1, .int .u64 x2, .int .u64 x3, .int .u64 x4, .int .u64 x5], .slice a1 l1 c1, .slice a2 l2 c2, .slice a3 l3 c3] w fun e w' =>
      e = .returned (.bool true) ∧ Below w.heap.size w w' := by
  have key : ∀ b1 b2 b3 : Bool, decide ((65536 : Int) < l1) = b1 → decide ((65536 : Int) < l2) = b2 → decide ((65536 : Int) < l3) = b3 → (b1 || b2 || b3) = true →
      Calls Try.prog 7 #[.agg #[.int .u64 x0, .int .u64 x1, .int .u64 x2, .int .u64 x3, .int .u64 x4, .int .u64 x5], .slice a1 l1 c1, .slice a2 l2 c2, .slice a3 l3 c3] w fun e w' =>
      e = .returned (.bool true) ∧ Below w.heap.size w w' := by
    intro b1 b2 b3 e1 e2 e3 hb
    have M1 := hide m1
    have M2 := hide m2
    have M3 := hide m3
    clear h m1 m2 m3
    go_enter Try.func7, Try.ntmps7
    go_wp2_with fail
    refine (bytes_any _ a1 a2 a3 l1 c1 l2 c2 l3 c3 M1.out M2.out M3.out _).mono ?_
    rintro e w' ⟨⟨bb, rfl⟩, cc, rfl⟩
    cases bb with
    | false =>
      go_wp2
      go_ret
      exact ⟨rfl, by go_grown⟩
    | true =>
      cases b1
      · cases b2
        · cases b3
          · cases hb
          · go_wp2
            go_ret
            exact ⟨rfl, by go_grown⟩
        · go_wp2
          go_ret
          exact ⟨rfl, by go_grown⟩
      · go_wp2
        go_ret
        exact ⟨rfl, by go_grown⟩
  refine key _ _ _ rfl rfl rfl ?_
  simp
  omega

theorem walk (x0 x1 x2 x3 x4 x5 : Int) (a1 a2 a3 : Option Addr) (l1 c1 l2 c2 l3 c3 : Nat) (K O : Nat → Int) (C : Nat → Bool) (w : World)
    (hK : ∀ j, j < l1 → 0 ≤ K j ∧ K j ≤ 255)
    (y0 : 0 ≤ x0 ∧ x0 ≤ 18446744073709551615) (y2 : 0 ≤ x2 ∧ x2 ≤ 18446744073709551615) (y3 : 0 ≤ x3 ∧ x3 ≤ 18446744073709551615) (y4 : 0 ≤ x4 ∧ x4 ≤ 18446744073709551615) (y5 : 0 ≤ x5 ∧ x5 ≤ 18446744073709551615)
    (g1 : Given w a1 l1 c1 (fun j => .int .u8 (K j))) (g2 : Given w a2 l2 c2 (fun j => .int .u8 (O j))) (g3 : Given w a3 l3 c3 (fun j => .bool (C j))) :
    Calls Try.prog 7 #[.agg #[.int .u64 x0, .int .u64 x1, .int .u64 x2, .int .u64 x3, .int .u64 x4, .int .u64 x5], .slice a1 l1 c1, .slice a2 l2 c2, .slice a3 l3 c3] w fun e w' =>
      e = .returned (.bool true) ∧ Below w.heap.size w w' := by
  by_cases h : l1 ≤ 65536 ∧ l2 ≤ 65536 ∧ l3 ≤ 65536
  · exact walk_in x0 x1 x2 x3 x4 x5 a1 a2 a3 l1 c1 l2 c2 l3 c3 K O C w hK y0 y2 y3 y4 y5 h.1 h.2.1 h.2.2 g1 g2 g3
  · exact walk_big x0 x1 x2 x3 x4 x5 a1 a2 a3 l1 c1 l2 c2 l3 c3 w g1.len g2.len g3.len h

set_option maxRecDepth 100000 in
theorem lifted (os : Os) (started : os.Started) (H : Type) (enc : TypeId × Value → H) :
    ReturnsInHanded {} Try.checked os 7 .any (Rows.fnCountSentTalliesAScriptSpec.pre6 enc Try.prog Try.f7 Rows.fnCountSentTalliesAScriptRow.domain false) (Rows.fnCountSentTalliesAScriptSpec.post enc Try.prog Try.f7 false true false false) := by
  refine returnsInHanded_of_change (C := Try.checked) own started (by kernel_rfl) Try.func7
    (ChangeSpec.witness6 (enc := enc) (C := Try.checked) false ⟨#[], #[.agg #[.int .u64 0, .int .u64 0, .int .u64 0, .int .u64 0, .int .u64 0, .int .u64 0], .slice none 0 0, .slice none 0 0, .slice none 0 0], []⟩ 8 (by kernel_rfl) (by kernel_rfl) (by kernel_rfl) (by kernel_rfl)) ?_
  intro W base args ds gs before hval0 hW hcnd _
  have hval : ∀ (j : Nat) t v, Try.f7.params[j]? = some t → args[j]? = some v → Value.okWide Try.prog W .any base t v := hval0
  have hW' := hW
  obtain ⟨p, q, hA0, hV, rfl, hfz, hnd⟩ := hW
  have hA : DataW.TrodAll enc Try.prog W 0 (fun _ => true) true Try.f7.params.toList args.toList ds p := hA0
  rw [Try.params7] at hA hval
  obtain ⟨v0, vs0, d0, ds0, p0, q0, hargs, rfl, rfl, h0, r0⟩ := trodAll_cons hA
  obtain ⟨v1, vs1, d1, ds1, p1, q1, rfl, rfl, rfl, h1, r1⟩ := trodAll_cons r0
  obtain ⟨v2, vs2, d2, ds2, p2, q2, rfl, rfl, rfl, h2, r2⟩ := trodAll_cons r1
  obtain ⟨v3, vs3, d3, ds3, p3, q3, rfl, rfl, rfl, h3, r3⟩ := trodAll_cons r2
  obtain ⟨rfl, rfl, rfl⟩ := trodAll_nil r3
  obtain rfl : args = #[v0, v1, v2, v3] := by cases args; simp_all
  obtain ⟨rfl, rfl⟩ := trodVars_none hV
  have k0 := h0
  have lt0 : ∀ x ∈ p0, x.block < W.heap.size := by obtain ⟨m, hm⟩ := k0; exact DataW.trod_lt m _ _ _ hm
  obtain ⟨x0, x1, x2, x3, x4, x5, rfl, y0, y1, y2, y3, y4, y5⟩ := open_counts (hval 0 42 v0 rfl rfl) h0
  have k1 := h1
  have lt1 : ∀ x ∈ p1, x.block < W.heap.size := by obtain ⟨m, hm⟩ := k1; exact DataW.trod_lt m _ _ _ hm
  obtain ⟨a1, l1, c1, F1, rfl, g1, hw1⟩ := open_u8s (hval 1 43 v1 rfl rfl) h1
  have k2 := h2
  have lt2 : ∀ x ∈ p2, x.block < W.heap.size := by obtain ⟨m, hm⟩ := k2; exact DataW.trod_lt m _ _ _ hm
  obtain ⟨a2, l2, c2, F2, rfl, g2, hw2⟩ := open_u8s (hval 2 43 v2 rfl rfl) h2
  have k3 := h3
  have lt3 : ∀ x ∈ p3, x.block < W.heap.size := by obtain ⟨m, hm⟩ := k3; exact DataW.trod_lt m _ _ _ hm
  obtain ⟨a3, l3, c3, F3, rfl, g3⟩ := open_bls (hval 3 44 v3 rfl rfl) h3
  clear hA0 hval0
  refine (walk x0 x1 x2 x3 x4 x5 a1 a2 a3 l1 c1 l2 c2 l3 c3 F1 F2 F3 W hw1 (bounds_u64 y0) (bounds_u64 y2) (bounds_u64 y3) (bounds_u64 y4) (bounds_u64 y5) g1 g2 g3).mono fun e W' ⟨he, bel⟩ => ?_
  subst he
  exact ⟨_, rfl, _, _, _, [], _, [], hW', trodAll_mk1 (shut_bool Try.underlying4 _), (trodAll_cons_mk (Below.trod laidOut (by kernel_rfl) (of_decide_eq_true (by kernel_rfl)) k0 bel lt0) (trodAll_cons_mk (Below.trod laidOut (by kernel_rfl) (of_decide_eq_true (by kernel_rfl)) k1 bel lt1) (trodAll_cons_mk (Below.trod laidOut (by kernel_rfl) (of_decide_eq_true (by kernel_rfl)) k2 bel lt2) (trodAll_cons_mk (Below.trod laidOut (by kernel_rfl) (of_decide_eq_true (by kernel_rfl)) k3 bel lt3) trodAll_mk0)))), rfl, bel.frame _, fun h => by cases h⟩

theorem over : Rows.fnCountSentTalliesAScriptRow.holds Try.pinned (OpenSpec.ofChange Rows.fnCountSentTalliesAScriptSpec) :=
  OpenClaim.holds_of_wide 7 Try.f7 rfl rfl rfl rfl rfl rfl rfl ⟨rfl, rfl, rfl, rfl, rfl⟩ rfl rfl rfl rfl rfl (by kernel_rfl) Try.func7 (by kernel_rfl)
    (of_decide_eq_true (by kernel_rfl)) (by unfold Func.isWrapper; first | (rw [if_pos (by decide +kernel)]; kernel_rfl) | (rw [if_neg (by decide +kernel)]; exact ⟨rfl, rfl⟩))
    (fun os started H enc _ => lifted os started H enc)

/-- THE STATEMENT -/
theorem proved : Rows.FnCountSentTalliesAScriptSaid := over
end Go.Proofs.Qxb6605321a.Tallies
