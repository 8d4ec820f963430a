/-
  THE SMALL CALLEES of FnModelRoleHandsOutAPermissionListOfItsOwn: permsAtB1 (22), strAtB1 (26), boolAtB1 (27), sameStringsB1 (24), lastIndexB1 (21), ZZModelWithRoles (19).
-/
import Derived.Test.Qxb6605350aBase
import Derived.Deep.DeepCutAuto
namespace Go.Proofs.Qxb6605350a.Role
open Go.ChangeShapes Go.WideShapes Go.ChangeAt Go.RowKit
open Go.Proofs.Qxb6605350a.SM

/-- A slice of slices of strings: row i is '.slice (A i) (L i) (C i)' and holds P i 0, P i 1, .. -/
structure Perms (w : World) (a : Option Addr) (n : Nat) (A : Nat → Option Addr) (L C : Nat → Nat) (P : Nat → Nat → ByteArray) : Prop where
  row : Row w a n (fun i => .slice (A i) (L i) (C i))
  rows : ∀ i, i < n → Row w (A i) (L i) (fun j => .string (P i j))
  nils : ∀ i, i < n → A i = none → L i = 0 ∧ C i = 0

theorem Perms.kept {w w' : World} {a : Option Addr} {n : Nat} {A : Nat → Option Addr} {L C : Nat → Nat} {P : Nat → Nat → ByteArray} (h : Perms w a n A L C P) (hb : Below w.heap.size w w') : Perms w' a n A L C P :=
  ⟨h.row.kept hb, fun i hi => (h.rows i hi).kept hb, h.nils⟩

def strAt (f : Nat → ByteArray) (n k : Nat) : ByteArray := if k < n then f k else ByteArray.empty
def boolAt (f : Nat → Bool) (n k : Nat) : Bool := if k < n then f k else false
/-- p[i], nil where i is no index. -/
def permsAt (A : Nat → Option Addr) (L C : Nat → Nat) (n : Nat) (k : Int) : Value := if 0 ≤ k ∧ k < n then .slice (A k.toNat) (L k.toNat) (C k.toNat) else .slice none 0 0

set_option maxHeartbeats 1000000 in
theorem permsAt22_any (a : Option Addr) (n cap : Nat) (A : Nat → Option Addr) (L C : Nat → Nat) (k : Int) (w : World) (h : Row w a n (fun i => .slice (A i) (L i) (C i))) :
    Calls Try.prog 22 #[.slice a n cap, .int .i64 k] w fun e w' => e = .returned (permsAt A L C n k) ∧ w' = w := by
  by_cases c0 : k < 0
  · rw [show permsAt A L C n k = .slice none 0 0 from if_neg (by omega)]
    clear h
    go_enter Try.func22, Try.ntmps22
    go_wp2
    go_ret
    exact ⟨rfl, rfl⟩
  · obtain ⟨j, rfl⟩ := Int.eq_ofNat_of_zero_le (show 0 ≤ k by omega)
    by_cases c1 : j < n
    · rw [show permsAt A L C n (j : Int) = .slice (A j) (L j) (C j) from by unfold permsAt; rw [if_pos (by omega)]; simp]
      obtain ⟨b, off, rfl, _, hc⟩ := h.cell c1
      clear h
      have c2 : (j : Int) < n := by omega
      go_enter Try.func22, Try.ntmps22
      go_wp2
      go_ret
      exact ⟨rfl, rfl⟩
    · rw [show permsAt A L C n (j : Int) = .slice none 0 0 from if_neg (by omega)]
      clear h
      have c2 : ¬ (j : Int) < n := by omega
      go_enter Try.func22, Try.ntmps22
      go_wp2
      go_ret
      exact ⟨rfl, rfl⟩

set_option maxHeartbeats 1000000 in
theorem strAt26_any (a : Option Addr) (n cap : Nat) (f : Nat → ByteArray) (j : Nat) (w : World) (h : Row w a n (fun i => .string (f i))) :
    Calls Try.prog 26 #[.slice a n cap, .int .i64 (j : Int)] w fun e w' => e = .returned (.string (strAt f n j)) ∧ w' = w := by
  by_cases c1 : j < n
  · rw [show strAt f n j = f j from if_pos c1]
    obtain ⟨b, off, rfl, _, hc⟩ := h.cell c1
    clear h
    have c2 : (j : Int) < n := by omega
    go_enter Try.func26, Try.ntmps26
    go_wp2
    go_ret
    exact ⟨rfl, rfl⟩
  · rw [show strAt f n j = ByteArray.empty from if_neg c1]
    clear h
    have c2 : ¬ (j : Int) < n := by omega
    go_enter Try.func26, Try.ntmps26
    go_wp2
    go_ret
    exact ⟨rfl, rfl⟩

set_option maxHeartbeats 1000000 in
theorem boolAt27_any (a : Option Addr) (n cap : Nat) (f : Nat → Bool) (j : Nat) (w : World) (h : Row w a n (fun i => .bool (f i))) :
    Calls Try.prog 27 #[.slice a n cap, .int .i64 (j : Int)] w fun e w' => e = .returned (.bool (boolAt f n j)) ∧ w' = w := by
  by_cases c1 : j < n
  · rw [show boolAt f n j = f j from if_pos c1]
    obtain ⟨b, off, rfl, _, hc⟩ := h.cell c1
    clear h
    have c2 : (j : Int) < n := by omega
    go_enter Try.func27, Try.ntmps27
    go_wp2
    go_ret
    exact ⟨rfl, rfl⟩
  · rw [show boolAt f n j = false from if_neg c1]
    clear h
    have c2 : ¬ (j : Int) < n := by omega
    go_enter Try.func27, Try.ntmps27
    go_wp2
    go_ret
    exact ⟨rfl, rfl⟩

set_option maxHeartbeats 1000000 in
/-- Two slices of the same strings. -/
theorem same24_any (a a2 : Option Addr) (n c c2 : Nat) (f : Nat → ByteArray) (w : World) (h : Row w a n (fun j => .string (f j))) (h2 : Row w a2 n (fun j => .string (f j))) (hn : n ≤ 1048576) :
    Calls Try.prog 24 #[.slice a n c, .slice a2 n c2] w fun e w' => e = .returned (.bool true) ∧ Below w.heap.size w w' ∧ w'.heap = w.heap := by
  have HR := hide h
  have HR2 := hide h2
  clear h h2
  go_enter Try.func24, Try.ntmps24
  go_wp2_with fail
  go_loopw [5] (fun i wr => ∃ k q : Nat, k ≤ n ∧ i = .int .i64 k ∧ wr = w.drewN q) (fun i _ => n - (intOf i).toNat)
  case atStart => exact ⟨0, 0, by omega, rfl, rfl⟩
  case round =>
    obtain ⟨k, q, hk, rfl, hw⟩ := hrel
    subst hw
    by_cases hlt : k < n
    · obtain ⟨b, off, rfl, hb, hc⟩ := HR.out.cell hlt
      obtain ⟨b2, off2, rfl, hb2, hc2⟩ := HR2.out.cell hlt
      have hi : (k : Int) < n := by omega
      generalize f k = s at hc hc2
      have e2 : (s.toList == s.toList) = true := by simp
      go_upto_region 6 with fail
      go_quiet (fail)
      go_wp2
      go_roundw
      case rel => exact ⟨k + 1, _, by omega, by go_num, rfl⟩
      case measure => simp [intOf]; omega
    · go_wp2
      go_ret
      exact ⟨rfl, below_drewN (Below.refl _ _) _, rfl⟩

/-- The last place of q, or -1. -/
def IsLast (f : Nat → ByteArray) (n : Nat) (q : ByteArray) (k : Int) : Prop :=
  (k = -1 ∧ ∀ i, i < n → f i ≠ q) ∨ ∃ j : Nat, k = j ∧ j < n ∧ f j = q ∧ ∀ i, j < i → i < n → f i ≠ q

set_option maxHeartbeats 1000000 in
theorem last21_any (a : Option Addr) (n c : Nat) (f : Nat → ByteArray) (s : ByteArray) (w : World) (h : Row w a n (fun j => .string (f j))) (hn : n ≤ 1048576) :
    Calls Try.prog 21 #[.slice a n c, .string s] w fun e w' => (∃ k : Int, e = .returned (.int .i64 k) ∧ IsLast f n s k) ∧ w' = w := by
  have HR := hide h
  clear h
  go_enter Try.func21, Try.ntmps21
  go_wp2_with fail
  go_loop [5] (fun i => ∃ k : Nat, k ≤ n ∧ i = .int .i64 ((k : Int) - 1) ∧ ∀ i, k ≤ i → i < n → f i ≠ s) (fun i => (intOf i + 1).toNat)
  case atStart => exact ⟨n, Nat.le_refl _, rfl, fun i h1 h2 => by omega⟩
  case round =>
    obtain ⟨k, hk, rfl, hno⟩ := hrel
    have HN := hide hno
    clear hno
    by_cases h0 : k = 0
    · subst h0
      go_wp2
      go_ret
      exact ⟨⟨-1, rfl, .inl ⟨rfl, fun i hi => HN.out i (by omega) hi⟩⟩, rfl⟩
    · obtain ⟨j, rfl⟩ : ∃ j, k = j + 1 := ⟨k - 1, by omega⟩
      obtain ⟨b, off, rfl, hb, hc⟩ := HR.out.cell (k := j) (by omega)
      have hi : (j : Int) < n := by omega
      by_cases e1 : f j = s
      · have e2 := beq_yes e1
        have E1 := hide e1
        clear e1 h0
        rw [show (((j + 1 : Nat) : Int) - 1) = (j : Int) from by omega]
        go_wp2
        go_ret
        exact ⟨⟨(j : Int), rfl, .inr ⟨j, rfl, by omega, E1.out, fun i h1 h2 => HN.out i (by omega) h2⟩⟩, rfl⟩
      · have e2 := beq_no e1
        have E1 := hide e1
        clear e1 h0
        rw [show (((j + 1 : Nat) : Int) - 1) = (j : Int) from by omega]
        go_wp2
        go_round
        case rel => exact ⟨j, by omega, rfl, fun i h1 h2 => by
          by_cases e : i = j
          · subst e; exact E1.out
          · exact HN.out i (by omega) h2⟩
        case measure => simp [intOf]

set_option maxHeartbeats 1000000 in
theorem model19_any (r : Option Nat) (w : World) :
    Calls Try.prog 19 #[.map r] w fun e w' => e = .returned (.pointer (some ⟨w.heap.size, 0, none⟩)) ∧ w' = w.alloc (.cells #[.slice none 0 0, .map r, .slice none 0 0] 54) := by
  go_enter Try.func19, Try.ntmps19
  go_wp2
  go_ret
  exact ⟨rfl, rfl⟩
end Go.Proofs.Qxb6605350a.Role
