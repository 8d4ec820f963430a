/-
  A Counts argument (six uint64, by value) opened; closed facts shared by this seat's two laws over countSent.
-/
import Derived.Test.Qxb6605321aRows
import Derived.ProofKit
import Derived.OpenShut
namespace Go.Proofs.Qxb6605321a.Count
open Go.ChangeShapes Go.WideShapes Go.ChangeAt Go.RowKit

theorem own : ownKnob Try.prog.godebug = none := by kernel_rfl
theorem laidOut : laidOutB Try.prog = true := by kernel_rfl
theorem cells42 : Try.prog.cellsOf 42 = 6 := by kernel_rfl
theorem cells23 : Try.prog.cellsOf 23 = 1 := by kernel_rfl

theorem open_counts {H : Type} {enc : TypeId × Value → H} {W : World} {base : Nat} {v : Value} {d : DataW H} {p : List MemPlace}
    (hv : Value.okWide Try.prog W .any base 42 v) (h : DataW.Trod enc Try.prog W 0 (fun _ => true) true 42 v d p) :
    ∃ x0 x1 x2 x3 x4 x5 : Int, v = .agg #[.int .u64 x0, .int .u64 x1, .int .u64 x2, .int .u64 x3, .int .u64 x4, .int .u64 x5] ∧
      (Lit.int .u64 x0).wf = true ∧ (Lit.int .u64 x1).wf = true ∧ (Lit.int .u64 x2).wf = true ∧ (Lit.int .u64 x3).wf = true ∧ (Lit.int .u64 x4).wf = true ∧ (Lit.int .u64 x5).wf = true := by
  obtain ⟨cs, rfl, hsz⟩ := okWide_struct Try.underlying42 hv
  rw [cells42] at hsz
  obtain ⟨cs⟩ := cs
  match cs, hsz with
  | [c0, c1, c2, c3, c4, c5], _ =>
    obtain ⟨fuel, hf⟩ := h
    obtain ⟨xs, n, _, _, hl, hlen, hg⟩ := DataW.trod_struct Try.underlying42 hf
    match xs, hlen with
    | [y0, y1, y2, y3, y4, y5], _ =>
      obtain ⟨a0, e0, _, q0⟩ := DataW.trod_int Try.underlying23 (hg 0 _ rfl)
      obtain ⟨a1, e1, _, q1⟩ := DataW.trod_int Try.underlying23 (hg 1 _ rfl)
      obtain ⟨a2, e2, _, q2⟩ := DataW.trod_int Try.underlying23 (hg 2 _ rfl)
      obtain ⟨a3, e3, _, q3⟩ := DataW.trod_int Try.underlying23 (hg 3 _ rfl)
      obtain ⟨a4, e4, _, q4⟩ := DataW.trod_int Try.underlying23 (hg 4 _ rfl)
      obtain ⟨a5, e5, _, q5⟩ := DataW.trod_int Try.underlying23 (hg 5 _ rfl)
      simp [Value.cells, cells23] at e0 e1 e2 e3 e4 e5
      subst e0; subst e1; subst e2; subst e3; subst e4; subst e5
      exact ⟨a0, a1, a2, a3, a4, a5, rfl, q0, q1, q2, q3, q4, q5⟩

end Go.Proofs.Qxb6605321a.Count
