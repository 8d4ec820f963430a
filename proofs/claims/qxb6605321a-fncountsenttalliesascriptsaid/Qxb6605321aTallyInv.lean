/-
  THE LOOP's INVARIANT of FnCountSentTalliesAScript, over worlds: three blocks from s + 1 + 1 on: the Traffic, 'counted', 'lookupOps'.
-/
import Derived.Test.Qxb6605321aTally
import Derived.Test.Qxb6605321aClone
namespace Go.Proofs.Qxb6605321a.Tallies
open Go.ChangeShapes Go.WideShapes Go.ChangeAt Go.RowKit
open Go.Proofs.Qxb6605321a.Count

/-- 256 counters in one block. -/
def Arr (w : World) (b : Nat) (f : Nat → Nat) : Prop := ∃ arr, w.heap[b]? = some (.cells arr 50) ∧ arr.size = 256 ∧ ∀ j, j < 256 → arr[j]? = some (.int .u64 ((f j : Nat) : Int))

theorem Arr.cell {w : World} {b : Nat} {f : Nat → Nat} (h : Arr w b f) {j : Nat} (hj : j < 256) : w.cell? ⟨b, j, none⟩ = some (.int .u64 ((f j : Nat) : Int)) := by
  obtain ⟨arr, ha, _, hc⟩ := h
  rw [cell_of_row w b j _ _ _ ha]; exact hc j hj
theorem Arr.frozen {w : World} {b : Nat} {f : Nat → Nat} (h : Arr w b f) (j : Nat) : w.frozen? ⟨b, j, none⟩ = false := by
  obtain ⟨arr, ha, _, _⟩ := h
  exact frozen_of_row w b j _ _ ha
theorem Arr.kept {w w' : World} {b : Nat} {f : Nat → Nat} (h : Arr w b f) (e : w'.heap[b]? = w.heap[b]?) : Arr w' b f := by
  obtain ⟨arr, ha, hs, hc⟩ := h
  exact ⟨arr, e.trans ha, hs, hc⟩
theorem Arr.lt {w : World} {b : Nat} {f : Nat → Nat} (h : Arr w b f) : b < w.heap.size := by
  obtain ⟨arr, ha, _, _⟩ := h
  exact (Array.getElem?_eq_some_iff.1 ha).1
theorem Arr.set {w : World} {b : Nat} {f g : Nat → Nat} (h : Arr w b f) {m : Nat} (hm : m < 256) (hg : ∀ j, g j = if m = j then f j + 1 else f j) :
    Arr (w.setCell ⟨b, m, none⟩ (.int .u64 ((f m : Nat) + 1 : Int))) b g := by
  obtain ⟨arr, ha, hs, hc⟩ := h
  refine ⟨_, heap_setCell_same w b m arr 50 _ ha, by simpa using hs, fun j hj => ?_⟩
  rw [hg j, Array.getElem?_setIfInBounds]
  by_cases e : m = j
  · subst e
    simp [hs, hm]
  · rw [if_neg e, if_neg e]; exact hc j hj

/-- The state: the Traffic behind kt messages, 'counted' behind kc, 'lookupOps' behind kl. -/
structure Inv (W : World) (K O : Nat → Int) (C : Nat → Bool) (x0 x1 x2 x3 x4 x5 : Int) (wr : World) (kt kc kl : Nat) : Prop where
  below : Below W.heap.size W wr
  size : W.heap.size + 5 ≤ wr.heap.size
  tt : wr.heap[W.heap.size + 1 + 1]? = some (TT K O C x0 x1 x2 x3 x4 x5 kt)
  cc : Arr wr (W.heap.size + 1 + 1 + 1) (N K C kc)
  ll : Arr wr (W.heap.size + 1 + 1 + 1 + 1) (L K O C kl)

variable {W wr w1 : World} {K O : Nat → Int} {C : Nat → Bool} {x0 x1 x2 x3 x4 x5 : Int} {k kt kc kl : Nat}

theorem Inv.call (h : Inv W K O C x0 x1 x2 x3 x4 x5 wr k kc kl) (hg : wr.grownBy w1 (some (W.heap.size + 1 + 1))) (ht : w1.heap[W.heap.size + 1 + 1]? = some (TT K O C x0 x1 x2 x3 x4 x5 (k + 1))) :
    Inv W K O C x0 x1 x2 x3 x4 x5 w1 (k + 1) kc kl :=
  ⟨h.below.grown hg (by have := h.size; omega) (by intro q e; cases e; omega), Nat.le_trans h.size hg.size, ht,
   h.cc.kept (hg.block _ h.cc.lt (by simp)), h.ll.kept (hg.block _ h.ll.lt (by intro e; have := Option.some.inj e; omega))⟩

theorem Inv.drew (h : Inv W K O C x0 x1 x2 x3 x4 x5 wr kt kc kl) : Inv W K O C x0 x1 x2 x3 x4 x5 wr.drew kt kc kl := ⟨h.below.drew, h.size, h.tt, h.cc, h.ll⟩

theorem N_same (h : cnt (K k) (C k) = false) : N K C (k + 1) = N K C k := by
  funext j; simp [N, h]
theorem L_same (h : (cnt (K k) (C k) && O k == 3) = false) : L K O C (k + 1) = L K O C k := by
  funext j; simp only [L, h]; simp

theorem Inv.skip (h : Inv W K O C x0 x1 x2 x3 x4 x5 wr (k + 1) k k) (hc : cnt (K k) (C k) = false) : Inv W K O C x0 x1 x2 x3 x4 x5 wr (k + 1) (k + 1) (k + 1) :=
  ⟨h.below, h.size, h.tt, by rw [N_same hc]; exact h.cc, by rw [L_same (by simp [hc])]; exact h.ll⟩

theorem Inv.count (h : Inv W K O C x0 x1 x2 x3 x4 x5 wr (k + 1) k k) (hc : cnt (K k) (C k) = true) {m : Nat} (hm : K k = m) (hm' : m < 256) :
    Inv W K O C x0 x1 x2 x3 x4 x5 (wr.setCell ⟨W.heap.size + 1 + 1 + 1, m, none⟩ (.int .u64 ((N K C k m : Nat) + 1 : Int))) (k + 1) (k + 1) k :=
  ⟨h.below.setCell (by simp; omega) _, by simpa using h.size, by rw [heap_setCell_other _ _ _ _ (by simp)]; exact h.tt,
   h.cc.set hm' (fun j => by
     simp only [N, hc, Bool.true_and]
     rw [hm, cast_beq]
     by_cases e : m = j <;> simp [e]),
   h.ll.kept (heap_setCell_other _ _ _ _ (by simp))⟩

theorem Inv.nolook (h : Inv W K O C x0 x1 x2 x3 x4 x5 wr (k + 1) (k + 1) k) (ho : (O k == 3) = false) : Inv W K O C x0 x1 x2 x3 x4 x5 wr (k + 1) (k + 1) (k + 1) :=
  ⟨h.below, h.size, h.tt, h.cc, by rw [L_same (by simp [ho])]; exact h.ll⟩

theorem Inv.look (h : Inv W K O C x0 x1 x2 x3 x4 x5 wr (k + 1) (k + 1) k) (hc : cnt (K k) (C k) = true) (ho : (O k == 3) = true) {m : Nat} (hm : K k = m) (hm' : m < 256) :
    Inv W K O C x0 x1 x2 x3 x4 x5 (wr.setCell ⟨W.heap.size + 1 + 1 + 1 + 1, m, none⟩ (.int .u64 ((L K O C k m : Nat) + 1 : Int))) (k + 1) (k + 1) (k + 1) :=
  ⟨h.below.setCell (by simp; omega) _, by simpa using h.size, by rw [heap_setCell_other _ _ _ _ (by simp)]; exact h.tt,
   h.cc.kept (heap_setCell_other _ _ _ _ (by simp)),
   h.ll.set hm' (fun j => by
     simp only [L, hc, ho, Bool.true_and]
     rw [hm, cast_beq]
     by_cases e : m = j <;> simp [e])⟩

theorem count_step (b k m : Nat) (hm : K k = m) (hm' : m < 256) (w : World) (hb : w.heap[b]? = some (TT K O C x0 x1 x2 x3 x4 x5 k)) :
    Calls Try.prog 27 #[.pointer (some ⟨b, 0, none⟩), .int .u8 (m : Int), .int .u8 (O k), .int .u8 0, .bool false, .bool (C k), .bool false, .int .u64 0, .int .u64 0] w fun e w' =>
      e = .returned (.tuple #[]) ∧ w.grownBy w' (some b) ∧ w'.heap[b]? = some (TT K O C x0 x1 x2 x3 x4 x5 (k + 1)) := by
  rw [← TT_step K O C x0 x1 x2 x3 x4 x5 k m hm hm', ← hm]
  exact zzCountSent_any b _ _ _ _ _ _ (K k) (O k) 0 0 0 false (C k) false w hb
end Go.Proofs.Qxb6605321a.Tallies
