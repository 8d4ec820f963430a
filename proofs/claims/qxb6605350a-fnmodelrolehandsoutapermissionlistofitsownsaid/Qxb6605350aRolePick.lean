/-
  WHAT THE LAW LOOKS AT: the role and the permission lists at the last place of the query. No Go in sight.
-/
import Derived.Test.Qxb6605350aRoleGet
namespace Go.Proofs.Qxb6605350a.Role
open Go.RowKit

/-- The picture at place κ: the wanted list, the held list, the role. -/
structure Pic (W : World) (κ : Int) (A A' : Nat → Option Addr) (L C C' : Nat → Nat) (n5 : Nat) (o : Option Value) (s1 s2 s3 : ByteArray) (b4 okb : Bool) (wa pa : Option Addr) (wl wc pc : Nat) (PP : Nat → ByteArray) : Prop where
  want : permsAt A L C n5 κ = .slice wa wl wc
  held : permsAt A' L C' n5 κ = .slice pa wl pc
  wrow : Row W wa wl (fun j => .string (PP j))
  prow : Row W pa wl (fun j => .string (PP j))
  pnil : pa = none → wl = 0 ∧ pc = 0
  small : wl ≤ 1048576
  sizes : ∀ j, j < wl → (PP j).size ≤ 1048576
  val : o.getD zero47 = .agg #[.string s1, .string s2, .string s3, .bool b4, .slice pa wl pc]
  ok : o.isSome = okb
  at0 : decide ((0 : Int) ≤ κ) = okb

theorem pick {W : World} {κ : Int} {f0 f1 f2 f3 : Nat → ByteArray} {n0 n1 n2 n3 n4 n5 : Nat} {q : ByteArray} {B : Nat → Bool} {a5 a' : Option Addr} {A A' : Nat → Option Addr} {L C C' : Nat → Nat} {P : Nat → Nat → ByteArray}
    (hl : IsLast f0 n0 q κ) (po : Perms W a5 n5 A L C P) (ph : Perms W a' n5 A' L C' P) (hs : ∀ i, i < n5 → L i ≤ 1048576 ∧ ∀ j, j < L i → (P i j).size ≤ 1048576) :
    ∃ s1 s2 s3 b4 okb wa pa wl wc pc PP, Pic W κ A A' L C C' n5 (FR f0 (roleVal f1 f2 f3 n1 n2 n3 B n4 A' L C' n5) n0 q) s1 s2 s3 b4 okb wa pa wl wc pc PP := by
  rcases hl with ⟨rfl, hno⟩ | ⟨j, rfl, hj, hq, hlast⟩
  · refine ⟨ByteArray.empty, ByteArray.empty, ByteArray.empty, false, false, none, none, 0, 0, 0, fun _ => ByteArray.empty, ?_⟩
    rw [FR_none f0 _ n0 q hno]
    exact ⟨if_neg (by omega), if_neg (by omega), .inl rfl, .inl rfl, fun _ => ⟨rfl, rfl⟩, by omega, fun j hj => by omega, rfl, rfl, rfl⟩
  · rw [FR_last f0 _ n0 j q hj hq hlast]
    by_cases c : j < n5
    · refine ⟨strAt f1 n1 j, strAt f2 n2 j, strAt f3 n3 j, boolAt B n4 j, true, A j, A' j, L j, C j, C' j, P j, ?_⟩
      exact ⟨by unfold permsAt; rw [if_pos (by omega)]; simp, by unfold permsAt; rw [if_pos (by omega)]; simp, po.rows j c, ph.rows j c, ph.nils j c, (hs j c).1, (hs j c).2, by simp [roleVal, atA, atN, c], rfl, by simp⟩
    · refine ⟨strAt f1 n1 j, strAt f2 n2 j, strAt f3 n3 j, boolAt B n4 j, true, none, none, 0, 0, 0, fun _ => ByteArray.empty, ?_⟩
      exact ⟨if_neg (by omega), if_neg (by omega), .inl rfl, .inl rfl, fun _ => ⟨rfl, rfl⟩, by omega, fun i hi => by omega, by simp [roleVal, atA, atN, c], rfl, by simp⟩
end Go.Proofs.Qxb6605350a.Role
