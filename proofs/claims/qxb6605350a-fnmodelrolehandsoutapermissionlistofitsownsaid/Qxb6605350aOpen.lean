/-
  ARGUMENTS OPENED: a slice of strings, a slice of bools; closed facts of this seat's program.
-/
import Derived.Test.Qxb6605350aBase
import Derived.Deep.Grids
import Derived.ShutString
import Derived.ChangeOld
namespace Go.Proofs.Qxb6605350a
open Go.ChangeShapes Go.WideShapes Go.ChangeAt Go.RowKit

theorem own : ownKnob Try.prog.godebug = none := by kernel_rfl
theorem laidOut : laidOutB Try.prog = true := by kernel_rfl
theorem cells9 : Try.prog.cellsOf 9 = 1 := by kernel_rfl
theorem cells4 : Try.prog.cellsOf 4 = 1 := by kernel_rfl
theorem cells22 : Try.prog.cellsOf 22 = 1 := by kernel_rfl

theorem row_of {W : World} {x : Addr} {n : Nat} {f : Nat → Value} (hc : ∀ j, j < n → W.cell? (x.add j) = some (f j)) : Row W (some x) n f := by
  by_cases h0 : n = 0
  · exact .inl h0
  · obtain ⟨b, off, spot⟩ := x
    have hspot : spot = none := by simpa [Addr.add] using World.cell?_spot (hc 0 (by omega))
    subst hspot
    exact .inr ⟨b, off, rfl, fun j hj => by rw [← add_plain]; exact hc j hj⟩

theorem open_strs_cells {H : Type} {enc : TypeId × Value → H} {W : World} {fuel : Nat} {a0 : Option Addr} {len cap : Nat} {y : DataW H × List MemPlace}
    (hf : DataW.trod enc Try.prog W 0 (fun _ => true) true fuel 22 [.slice a0 len cap] = some y) :
    ∃ f : Nat → ByteArray, Row W a0 len (fun j => .string (f j)) ∧ len ≤ cap ∧ cap ≤ maxLen ∧ (a0 = none → len = 0 ∧ cap = 0) := by
  rcases open_strings Try.underlying22 Try.underlying9 cells9 hf with ⟨hcs, _⟩ | ⟨x, l, c, ss, hcs, _, hl, hm, hz, _, hcell, _⟩
  · simp at hcs
    obtain ⟨rfl, rfl, rfl⟩ := hcs
    exact ⟨fun _ => ByteArray.empty, .inl rfl, Nat.le_refl _, Nat.zero_le _, fun _ => ⟨rfl, rfl⟩⟩
  · simp at hcs
    obtain ⟨rfl, rfl, rfl⟩ := hcs
    simp only [if_true] at hz
    exact ⟨fun j => ss.getD j ByteArray.empty, row_of (fun j hj => hcell j (by omega)), hl, hm, fun h => by cases h⟩

theorem open_strs {H : Type} {enc : TypeId × Value → H} {W : World} {base : Nat} {v : Value} {d : DataW H} {p : List MemPlace}
    (hv : Value.okWide Try.prog W .any base 22 v) (h : DataW.Trod enc Try.prog W 0 (fun _ => true) true 22 v d p) :
    ∃ (a : Option Addr) (l c : Nat) (f : Nat → ByteArray), v = .slice a l c ∧ Row W a l (fun j => .string (f j)) ∧ l ≤ c ∧ c ≤ maxLen ∧ (a = none → l = 0 ∧ c = 0) := by
  obtain ⟨a0, len, cap, rfl⟩ := okWide_slice Try.underlying22 hv
  obtain ⟨fuel, hf⟩ := h
  obtain ⟨f, h1, h2, h3, h4⟩ := open_strs_cells (by simpa [Value.cells] using hf)
  exact ⟨a0, len, cap, f, rfl, h1, h2, h3, h4⟩

theorem open_bls {H : Type} {enc : TypeId × Value → H} {W : World} {base : Nat} {v : Value} {d : DataW H} {p : List MemPlace}
    (hv : Value.okWide Try.prog W .any base 23 v) (h : DataW.Trod enc Try.prog W 0 (fun _ => true) true 23 v d p) :
    ∃ (a : Option Addr) (l c : Nat) (f : Nat → Bool), v = .slice a l c ∧ Row W a l (fun j => .bool (f j)) ∧ l ≤ c ∧ c ≤ maxLen := by
  obtain ⟨a0, len, cap, rfl⟩ := okWide_slice Try.underlying23 hv
  obtain ⟨fuel, hf⟩ := h
  rcases Go.Deep.open_bools Try.underlying23 Try.underlying4 cells4 hf with ⟨hcs, _⟩ | ⟨x, l, c, B, hcs, _, hl, hm, _, hcell⟩
  · simp [Value.cells] at hcs
    obtain ⟨rfl, rfl, rfl⟩ := hcs
    exact ⟨none, 0, 0, fun _ => false, rfl, .inl rfl, Nat.le_refl _, Nat.zero_le _⟩
  · simp [Value.cells] at hcs
    obtain ⟨rfl, rfl, rfl⟩ := hcs
    exact ⟨some x, len, cap, B, rfl, row_of (fun j hj => hcell j (by omega)), hl, hm⟩
end Go.Proofs.Qxb6605350a
