/-
  A SLICE OF SLICES OF STRINGS among the arguments, opened.
-/
import Derived.Test.Qxb6605350aOpen
import Derived.Test.Qxb6605350aRoleSmall
import Derived.Deep.Slices
namespace Go.Proofs.Qxb6605350a.Role
open Go.ChangeShapes Go.WideShapes Go.ChangeAt Go.RowKit

/-- The string that lies j cells behind a. -/
def strCell (W : World) (a : Option Addr) (j : Nat) : ByteArray :=
  match a with
  | some x => match W.cell? (x.add j) with
    | some (.string s) => s
    | _ => ByteArray.empty
  | none => ByteArray.empty

theorem strCell_row {W : World} {a : Option Addr} {n : Nat} {f : Nat → ByteArray} (h : Row W a n (fun j => .string (f j))) : Row W a n (fun j => .string (strCell W a j)) := by
  rcases h with h | ⟨b, off, rfl, hc⟩
  · exact .inl h
  · refine .inr ⟨b, off, rfl, fun j hj => ?_⟩
    have e := hc j hj
    have : strCell W (some ⟨b, off, none⟩) j = f j := by
      unfold strCell
      simp only [add_plain, e]
    show W.cell? ⟨b, off + j, none⟩ = some (.string (strCell W (some ⟨b, off, none⟩) j))
    rw [this]; exact e

def slA (v : Value) : Option Addr := match v with | .slice a _ _ => a | _ => none
def slL (v : Value) : Nat := match v with | .slice _ l _ => l | _ => 0
def slC (v : Value) : Nat := match v with | .slice _ _ c => c | _ => 0

theorem open_perms {H : Type} {enc : TypeId × Value → H} {W : World} {base : Nat} {v : Value} {d : DataW H} {p : List MemPlace}
    (hv : Value.okWide Try.prog W .any base 37 v) (h : DataW.Trod enc Try.prog W 0 (fun _ => true) true 37 v d p) :
    ∃ (a : Option Addr) (n c : Nat) (A : Nat → Option Addr) (L C : Nat → Nat) (P : Nat → Nat → ByteArray), v = .slice a n c ∧ Perms W a n A L C P ∧ (a = none → n = 0 ∧ c = 0) := by
  obtain ⟨a0, len, cap, rfl⟩ := okWide_slice Try.underlying37 hv
  obtain ⟨fuel, hf⟩ := h
  rcases Go.Deep.open_slice1 Try.underlying37 cells22 hf with ⟨hcs, _⟩ | ⟨x, l, c, m, n, V, D, Pl, hcs, _, hl, hm, hmm, _, hx⟩
  · simp [Value.cells] at hcs
    obtain ⟨rfl, rfl, rfl⟩ := hcs
    exact ⟨none, 0, 0, fun _ => none, fun _ => 0, fun _ => 0, fun _ _ => ByteArray.empty, rfl, ⟨.inl rfl, fun i hi => by omega, fun i hi => by omega⟩, fun _ => ⟨rfl, rfl⟩⟩
  · simp [Value.cells] at hcs
    obtain ⟨rfl, rfl, rfl⟩ := hcs
    simp only [if_true] at hmm
    subst hmm
    have key : ∀ i, i < len → V i = .slice (slA (V i)) (slL (V i)) (slC (V i)) ∧ (∃ f : Nat → ByteArray, Row W (slA (V i)) (slL (V i)) (fun j => .string (f j))) ∧ (slA (V i) = none → slL (V i) = 0 ∧ slC (V i) = 0) := by
      intro i hi
      obtain ⟨_, ht⟩ := hx i (by omega)
      rcases DataW.trod_slice Try.underlying22 ht with ⟨h0, _⟩ | ⟨a, l2, c2, _, _, _, _, h0, _⟩
      · have e : V i = .slice none 0 0 := by simpa using h0
        rw [e]
        exact ⟨rfl, ⟨fun _ => ByteArray.empty, .inl rfl⟩, fun _ => ⟨rfl, rfl⟩⟩
      · have e : V i = .slice (some a) l2 c2 := by simpa using h0
        rw [e] at ht ⊢
        obtain ⟨f, h1, _, _, h4⟩ := open_strs_cells ht
        exact ⟨rfl, ⟨f, h1⟩, h4⟩
    refine ⟨some x, len, _, fun i => slA (V i), fun i => slL (V i), fun i => slC (V i), fun i j => strCell W (slA (V i)) j, rfl, ⟨row_of (fun j hj => ?_), fun i hi => ?_, fun i hi => (key i hi).2.2⟩, fun h => by cases h⟩
    · rw [(hx j (by omega)).1]
      exact congrArg some (key j hj).1
    · obtain ⟨f, hr⟩ := (key i hi).2.1
      exact strCell_row hr
end Go.Proofs.Qxb6605350a.Role
