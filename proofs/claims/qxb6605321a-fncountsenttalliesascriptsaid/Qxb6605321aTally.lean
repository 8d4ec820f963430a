/-
  THE PLAIN COUNTS behind FnCountSentTalliesAScript: K: the kinds, O: the ops, C: the clients of the messages 0, 1, ..
-/
import Derived.Test.Qxb6605321aCount
namespace Go.Proofs.Qxb6605321a.Tallies
open Go.Proofs.Qxb6605321a.Count

/-- Of the first k messages: those counted, of kind j. -/
def N (K : Nat → Int) (C : Nat → Bool) : Nat → Nat → Nat
  | 0, _ => 0
  | k + 1, j => N K C k j + if cnt (K k) (C k) && K k == (j : Int) then 1 else 0
/-- Of the first k messages: those counted, of kind j and op lookup. -/
def L (K O : Nat → Int) (C : Nat → Bool) : Nat → Nat → Nat
  | 0, _ => 0
  | k + 1, j => L K O C k j + if (cnt (K k) (C k) && O k == 3) && K k == (j : Int) then 1 else 0
def sumTo (f : Nat → Nat) : Nat → Nat
  | 0 => 0
  | m + 1 => sumTo f m + f m
/-- The kinds that are no check, no answer, no correction. -/
def plain (j : Nat) : Bool := !((j : Int) == 13) && !((j : Int) == 16) && !((j : Int) == 17)
def LL (K O : Nat → Int) (C : Nat → Bool) (k j : Nat) : Nat := if plain j then L K O C k j else 0

theorem N_le (K : Nat → Int) (C : Nat → Bool) (k j : Nat) : N K C k j ≤ k := by
  induction k with
  | zero => exact Nat.le_refl _
  | succ k ih => simp only [N]; split <;> omega
theorem L_le (K O : Nat → Int) (C : Nat → Bool) (k j : Nat) : L K O C k j ≤ k := by
  induction k with
  | zero => exact Nat.le_refl _
  | succ k ih => simp only [L]; split <;> omega
theorem LL_le (K O : Nat → Int) (C : Nat → Bool) (k j : Nat) : LL K O C k j ≤ k := by
  unfold LL; split
  · exact L_le K O C k j
  · omega
theorem sumTo_le (f : Nat → Nat) (B : Nat) (h : ∀ j, f j ≤ B) (m : Nat) : sumTo f m ≤ m * B := by
  induction m with
  | zero => simp [sumTo]
  | succ m ih => simp only [sumTo, Nat.succ_mul]; have := h m; omega

theorem sumTo_hit (f g : Nat → Nat) (x : Nat) (b : Bool) (h : ∀ j, g j = f j + if b && x == j then 1 else 0) (m : Nat) :
    sumTo g m = sumTo f m + if b && decide (x < m) then 1 else 0 := by
  induction m with
  | zero => simp [sumTo]
  | succ m ih =>
    simp only [sumTo, ih, h m]
    cases b with
    | false => simp
    | true =>
      by_cases e : x = m
      · subst e; simp; omega
      · by_cases c : x < m
        · have : x < m + 1 := by omega
          simp [c, this, e]; omega
        · have : ¬ x < m + 1 := by omega
          simp [c, this, e]

theorem cast_beq (x j : Nat) : (((x : Int) == (j : Int)) : Bool) = (x == j) := by
  rw [Bool.eq_iff_iff]; simp; omega

theorem sum_step (K : Nat → Int) (C : Nat → Bool) (k x : Nat) (hx : K k = x) (h : x < 256) :
    sumTo (N K C (k + 1)) 256 = sumTo (N K C k) 256 + if cnt (K k) (C k) then 1 else 0 := by
  rw [sumTo_hit (N K C k) (N K C (k + 1)) x (cnt (K k) (C k)) (fun j => by simp only [N]; rw [show (K k == (j : Int)) = (x == j) from by rw [hx]; exact cast_beq x j]) 256]
  simp [h]

theorem look_step (K O : Nat → Int) (C : Nat → Bool) (k x : Nat) (hx : K k = x) (h : x < 256) :
    sumTo (LL K O C (k + 1)) 256 = sumTo (LL K O C k) 256 + if isLook (K k) (O k) (C k) then 1 else 0 := by
  rw [sumTo_hit (LL K O C k) (LL K O C (k + 1)) x (isLook (K k) (O k) (C k)) (fun j => by
    simp only [LL, L]
    rw [show (K k == (j : Int)) = (x == j) from by rw [hx]; exact cast_beq x j]
    by_cases e : x = j
    · subst e
      have ep : plain x = (!(K k == 13) && !(K k == 16) && !(K k == 17)) := by unfold plain; rw [hx]
      rw [ep]
      unfold isLook
      cases (cnt (K k) (C k)) <;> cases (K k == 13) <;> cases (K k == 16) <;> cases (K k == 17) <;> cases (O k == 3) <;> simp
    · have e' : (x == j) = false := by simp [e]
      rw [e']
      simp) 256]
  simp [h]

theorem up_wrap (b : Bool) (x : Int) (m : Nat) : up b (IntKind.u64.wrap (x + m)) = IntKind.u64.wrap (x + ((m + if b then 1 else 0 : Nat) : Int)) := by
  unfold up
  cases b with
  | true =>
    simp only [if_true, IntKind.wrap_u64]
    omega
  | false => simp

/-- The Traffic's block behind the first k messages. -/
def TT (K O : Nat → Int) (C : Nat → Bool) (x0 x1 x2 x3 x4 x5 : Int) (k : Nat) : Obj :=
  T6 (IntKind.u64.wrap (x0 + (sumTo (N K C k) 256 : Nat))) x1 (IntKind.u64.wrap (x2 + (N K C k 13 : Nat))) (IntKind.u64.wrap (x3 + (N K C k 16 : Nat))) (IntKind.u64.wrap (x4 + (sumTo (LL K O C k) 256 : Nat))) (IntKind.u64.wrap (x5 + (N K C k 17 : Nat)))

theorem TT_step (K O : Nat → Int) (C : Nat → Bool) (x0 x1 x2 x3 x4 x5 : Int) (k x : Nat) (hx : K k = x) (h : x < 256) :
    T6up (K k) (O k) (C k) (IntKind.u64.wrap (x0 + (sumTo (N K C k) 256 : Nat))) x1 (IntKind.u64.wrap (x2 + (N K C k 13 : Nat))) (IntKind.u64.wrap (x3 + (N K C k 16 : Nat))) (IntKind.u64.wrap (x4 + (sumTo (LL K O C k) 256 : Nat))) (IntKind.u64.wrap (x5 + (N K C k 17 : Nat)))
      = TT K O C x0 x1 x2 x3 x4 x5 (k + 1) := by
  unfold T6up TT
  rw [up_wrap, up_wrap, up_wrap, up_wrap, up_wrap, sum_step K C k x hx h, look_step K O C k x hx h]
  rfl

theorem wrap_in (x : Int) (h0 : 0 ≤ x) (h1 : x ≤ 18446744073709551615) : IntKind.u64.wrap (x + ((0 : Nat) : Int)) = x := by
  rw [IntKind.wrap_u64]; omega

theorem sumTo_zero (f : Nat → Nat) (h : ∀ j, f j = 0) (m : Nat) : sumTo f m = 0 := by
  induction m with
  | zero => rfl
  | succ m ih => simp [sumTo, ih, h m]

theorem TT_zero (K O : Nat → Int) (C : Nat → Bool) (x0 x1 x2 x3 x4 x5 : Int) (a0 : 0 ≤ x0) (b0 : x0 ≤ 18446744073709551615) (a2 : 0 ≤ x2) (b2 : x2 ≤ 18446744073709551615)
    (a3 : 0 ≤ x3) (b3 : x3 ≤ 18446744073709551615) (a4 : 0 ≤ x4) (b4 : x4 ≤ 18446744073709551615) (a5 : 0 ≤ x5) (b5 : x5 ≤ 18446744073709551615) :
    T6 x0 x1 x2 x3 x4 x5 = TT K O C x0 x1 x2 x3 x4 x5 0 := by
  unfold TT
  rw [sumTo_zero (N K C 0) (fun _ => rfl), sumTo_zero (LL K O C 0) (fun j => by unfold LL; split <;> rfl)]
  simp only [N]
  rw [wrap_in x0 a0 b0, wrap_in x2 a2 b2, wrap_in x3 a3 b3, wrap_in x4 a4 b4, wrap_in x5 a5 b5]
end Go.Proofs.Qxb6605321a.Tallies
