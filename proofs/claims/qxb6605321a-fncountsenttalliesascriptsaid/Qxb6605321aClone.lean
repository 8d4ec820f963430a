/-
  CONTRACTS: zzBytes_FnCountSentTalliesAScript (23), cloneU8 (24), cloneBools (25).
-/
import Derived.Test.Qxb6605321aRows
import Derived.WalkKit
import Derived.ProofKit
import Derived.OpenShut
import Derived.Handy
import Derived.WalkSpells
import Derived.WalkLawsBesides
namespace Go.Proofs.Qxb6605321a.Tallies
open Go.ChangeShapes Go.WideShapes Go.ChangeAt Go.RowKit

/-- What is known of a slice that came in: nil; or a row of cells, the first n of them f 0, f 1, .. -/
def Given (w : World) (a : Option Addr) (n cap : Nat) (f : Nat → Value) : Prop :=
  (a = none ∧ n = 0 ∧ cap = 0) ∨ ∃ x, a = some x ∧ n ≤ cap ∧ cap ≤ maxLen ∧ ∀ j, j < n → w.cell? (x.add j) = some (f j)

/-- A slice of n elements f 0, f 1, .. at the head of a block; or of no element. -/
def Own (w : World) (a : Option Addr) (n : Nat) (f : Nat → Value) : Prop :=
  n = 0 ∨ ∃ g arr t, a = some ⟨g, 0, none⟩ ∧ w.heap[g]? = some (.cells arr t) ∧ ∀ j, j < n → arr[j]? = some (f j)

theorem Own.kept {w w' : World} {a : Option Addr} {n : Nat} {f : Nat → Value} (h : Own w a n f) (hb : Below w.heap.size w w') : Own w' a n f := by
  rcases h with h | ⟨g, arr, t, ha, hg, hc⟩
  · exact .inl h
  · exact .inr ⟨g, arr, t, ha, (hb.block g (Array.getElem?_eq_some_iff.1 hg).1).trans hg, hc⟩

theorem Own.cell {w : World} {a : Option Addr} {n : Nat} {f : Nat → Value} (h : Own w a n f) {k : Nat} (hk : k < n) : ∃ g, a = some ⟨g, 0, none⟩ ∧ g < w.heap.size ∧ w.cell? ⟨g, k, none⟩ = some (f k) := by
  rcases h with h | ⟨g, arr, t, ha, hg, hc⟩
  · omega
  · exact ⟨g, ha, (Array.getElem?_eq_some_iff.1 hg).1, by rw [cell_of_row w g k _ _ _ hg]; exact hc k hk⟩

set_option maxHeartbeats 1000000 in
theorem bytes_any (cs : Array Value) (a1 a2 a3 : Option Addr) (l1 c1 l2 c2 l3 c3 : Nat) (h1 : l1 ≤ maxLen) (h2 : l2 ≤ maxLen) (h3 : l3 ≤ maxLen) (w : World) :
    Calls Try.prog 23 #[.agg cs, .slice a1 l1 c1, .slice a2 l2 c2, .slice a3 l3 c3] w fun e w' =>
      (∃ b, e = .returned (.bool b)) ∧ ∃ c, w' = w.alloc (.cells c 42) := by
  unfold maxLen at h1 h2 h3
  go_enter Try.func23, Try.ntmps23
  go_wp2
  all_goals go_ret
  all_goals exact ⟨⟨_, rfl⟩, _, rfl⟩


theorem Try.info5 : (Try.prog.info? 5).map (fun i => (i.zero, i.size, i.bytes)) = some (some (.int .u8 0), 1, 1) := by kernel_rfl
theorem Try.info4 : (Try.prog.info? 4).map (fun i => (i.zero, i.size, i.bytes)) = some (some (.bool false), 1, 1) := by kernel_rfl

theorem set_arr {arr : Array Value} {k n : Nat} {f : Nat → Value} (hs : arr.size = n) (hk : k < n) (h : ∀ j, j < k → arr[j]? = some (f j)) :
    (arr.setIfInBounds k (f k)).size = n ∧ ∀ j, j < k + 1 → (arr.setIfInBounds k (f k))[j]? = some (f j) := by
  refine ⟨by simpa using hs, fun j hj => ?_⟩
  by_cases e : k = j
  · subst e; simp [hs, hk]
  · rw [Array.getElem?_setIfInBounds, if_neg e]; exact h j (by omega)

set_option maxHeartbeats 1000000 in
theorem clone24 (b off n cap : Nat) (f : Nat → Int) (w : World) (hn : n ≤ 65536) (hcell : ∀ j, j < n → w.cell? ⟨b, off + j, none⟩ = some (Value.int .u8 (f j))) :
    Calls Try.prog 24 #[.slice (some ⟨b, off, none⟩) n cap] w fun e w' =>
      e = .returned (.slice (some ⟨w.heap.size, 0, none⟩) n n) ∧ Below w.heap.size w w' ∧ w'.heap.size = w.heap.size + 1 ∧
        ∃ arr, w'.heap[w.heap.size]? = some (.cells arr 5) ∧ ∀ j, j < n → arr[j]? = some (Value.int .u8 (f j)) := by
  obtain ⟨i5, hi, hz0, hz1, hz2⟩ := info_parts Try.info5
  have hmk : ∀ W : World, (Instr.makeSlice 43 (.int .i64 (n : Int)) (.int .i64 (n : Int))).run Try.prog W = .ok (.slice (some ⟨W.heap.size, 0, none⟩) n n) (W.alloc (.cells (madeCells #[.int .u8 0] n) 5)) := by
    intro W
    have := run_make W 43 5 i5 _ Try.underlying43 hi hz0 .i64 .i64 (n : Int) (n : Int) (by omega) (by omega) (by rw [hz2]; omega) (by omega)
    simpa [hz1, Value.cells] using this
  have HC : Hid (∀ j, j < n → w.cell? ⟨b, off + j, none⟩ = some (Value.int .u8 (f j))) := hcell
  have hnil := fun W => Lib.run_eql_slice_nil (P := Try.prog) W 43 5 (some ⟨b, off, none⟩) n cap 0 0 Try.underlying43
  clear hcell hi hz0 hz1 hz2
  go_enter Try.func24, Try.ntmps24
  go_wp2
  go_loopw [4] (fun t wr => ∃ k : Nat, k ≤ n ∧ t = .int .i64 k ∧ Below w.heap.size w wr ∧ wr.heap.size = w.heap.size + 1 ∧ ∃ arr, wr.heap[w.heap.size]? = some (.cells arr 5) ∧ arr.size = n ∧ ∀ j, j < k → arr[j]? = some (Value.int .u8 (f j))) (fun t _ => n - (intOf t).toNat)
  case atStart => exact ⟨0, by omega, rfl, (Below.refl _ _).alloc (Nat.le_refl _) _, by simp, _, heap_alloc_new _ _, by simp [size_madeCells], by intro j hj; omega⟩
  case round =>
    obtain ⟨k, hk, rfl, hB, hsz, arr, harr, has, hdone⟩ := hrel
    have HA : Hid (wr.heap[w.heap.size]? = some (.cells arr 5)) := harr
    have HD : Hid (∀ j, j < k → arr[j]? = some (Value.int .u8 (f j))) := hdone
    have HS : Hid (wr.heap.size = w.heap.size + 1) := hsz
    have HZ : Hid (arr.size = n) := has
    clear harr hdone hsz has
    by_cases hlt : k < n
    · have h1 : wr.cell? ⟨b, off + k, none⟩ = some (Value.int .u8 (f k)) := by
        have h0 := HC.out k hlt
        rw [hB.cell (World.block_lt_of_cell? w _ h0)]; exact h0
      obtain ⟨old, h2⟩ : ∃ old, wr.cell? ⟨w.heap.size, k, none⟩ = some old := ⟨_, by rw [cell_of_row wr _ k _ _ _ HA.out]; exact Array.getElem?_eq_getElem (by rw [HZ.out]; exact hlt)⟩
      have h3 : wr.frozen? ⟨w.heap.size, k, none⟩ = false := frozen_of_row wr _ k _ _ HA.out
      go_wp2
      go_roundw
      case rel =>
        obtain ⟨s1, s2⟩ := set_arr (f := fun j => Value.int .u8 (f j)) HZ.out hlt HD.out
        exact ⟨k + 1, by omega, by go_num, hB.setCell (Nat.le_refl _) _, by rw [World.size_setCell]; exact HS.out, _, heap_setCell_same wr _ _ _ _ _ HA.out, s1, s2⟩
      case measure => simp [intOf]; omega
    · go_wp2
      go_ret
      exact ⟨rfl, hB, HS.out, arr, HA.out, fun j hj => HD.out j (by omega)⟩

set_option maxHeartbeats 1000000 in
/-- A nil slice, or one of no element. -/
theorem clone24_nil (w : World) : Calls Try.prog 24 #[.slice none 0 0] w fun e w' => e = .returned (.slice none 0 0) ∧ w' = w := by
  have hnil := fun W => Lib.run_eql_slice_nil (P := Try.prog) W 43 5 none 0 0 0 0 Try.underlying43
  go_enter Try.func24, Try.ntmps24
  go_wp2
  go_ret
  exact ⟨rfl, rfl⟩

set_option maxHeartbeats 1000000 in
theorem clone24_zero (x : Addr) (cap : Nat) (w : World) : Calls Try.prog 24 #[.slice (some x) 0 cap] w fun e w' => (∃ a c, e = .returned (.slice a 0 c)) ∧ Below w.heap.size w w' := by
  obtain ⟨i5, hi, hz0, hz1, hz2⟩ := info_parts Try.info5
  have hmk : ∀ W : World, (Instr.makeSlice 43 (.int .i64 0) (.int .i64 0)).run Try.prog W = .ok (.slice (some ⟨W.heap.size, 0, none⟩) 0 0) (W.alloc (.cells (madeCells #[.int .u8 0] 0) 5)) := by
    intro W
    have := run_make W 43 5 i5 _ Try.underlying43 hi hz0 .i64 .i64 0 0 (by omega) (by omega) (by rw [hz2]; omega) (by omega)
    simpa [hz1, Value.cells] using this
  have hnil := fun W => Lib.run_eql_slice_nil (P := Try.prog) W 43 5 (some x) 0 cap 0 0 Try.underlying43
  clear hi hz0 hz1 hz2
  go_enter Try.func24, Try.ntmps24
  go_wp2
  refine wp_loop_rounds 1 ?_
  rw [rounds_succ]
  go_wp2
  go_ret
  exact ⟨⟨_, _, rfl⟩, (Below.refl _ _).alloc (Nat.le_refl _) _⟩

/-- clone24, whatever comes in: the copy is the call's own. -/
theorem clone24_any (a : Option Addr) (n cap : Nat) (f : Nat → Int) (w : World) (hn : n ≤ 65536) (h : Given w a n cap (fun j => Value.int .u8 (f j))) :
    Calls Try.prog 24 #[.slice a n cap] w fun e w' => ∃ a' c', e = .returned (.slice a' n c') ∧ Below w.heap.size w w' ∧ Own w' a' n (fun j => Value.int .u8 (f j)) := by
  rcases h with ⟨rfl, rfl, rfl⟩ | ⟨x, rfl, _, _, hc⟩
  · refine (clone24_nil w).mono ?_
    rintro e w' ⟨rfl, rfl⟩
    exact ⟨none, 0, rfl, Below.refl _ _, .inl rfl⟩
  · by_cases h0 : n = 0
    · subst h0
      refine (clone24_zero x cap w).mono ?_
      rintro e w' ⟨⟨a, c, rfl⟩, hB⟩
      exact ⟨a, c, rfl, hB, .inl rfl⟩
    · obtain ⟨b, off, spot⟩ := x
      have hspot : spot = none := by simpa [Addr.add] using World.cell?_spot (hc 0 (by omega))
      subst hspot
      have hc' : ∀ j, j < n → w.cell? ⟨b, off + j, none⟩ = some (Value.int .u8 (f j)) := fun j hj => by rw [← add_plain]; exact hc j hj
      refine (clone24 b off n cap f w hn hc').mono ?_
      rintro e w' ⟨rfl, hB, _, arr, harr, hd⟩
      exact ⟨_, _, rfl, hB, .inr ⟨_, arr, _, rfl, harr, hd⟩⟩

set_option maxHeartbeats 1000000 in
theorem clone25 (b off n cap : Nat) (f : Nat → Bool) (w : World) (hn : n ≤ 65536) (hcell : ∀ j, j < n → w.cell? ⟨b, off + j, none⟩ = some (Value.bool (f j))) :
    Calls Try.prog 25 #[.slice (some ⟨b, off, none⟩) n cap] w fun e w' =>
      e = .returned (.slice (some ⟨w.heap.size, 0, none⟩) n n) ∧ Below w.heap.size w w' ∧ w'.heap.size = w.heap.size + 1 ∧
        ∃ arr, w'.heap[w.heap.size]? = some (.cells arr 4) ∧ ∀ j, j < n → arr[j]? = some (Value.bool (f j)) := by
  obtain ⟨i5, hi, hz0, hz1, hz2⟩ := info_parts Try.info4
  have hmk : ∀ W : World, (Instr.makeSlice 44 (.int .i64 (n : Int)) (.int .i64 (n : Int))).run Try.prog W = .ok (.slice (some ⟨W.heap.size, 0, none⟩) n n) (W.alloc (.cells (madeCells #[.bool false] n) 4)) := by
    intro W
    have := run_make W 44 4 i5 _ Try.underlying44 hi hz0 .i64 .i64 (n : Int) (n : Int) (by omega) (by omega) (by rw [hz2]; omega) (by omega)
    simpa [hz1, Value.cells] using this
  have HC : Hid (∀ j, j < n → w.cell? ⟨b, off + j, none⟩ = some (Value.bool (f j))) := hcell
  have hnil := fun W => Lib.run_eql_slice_nil (P := Try.prog) W 44 4 (some ⟨b, off, none⟩) n cap 0 0 Try.underlying44
  clear hcell hi hz0 hz1 hz2
  go_enter Try.func25, Try.ntmps25
  go_wp2
  go_loopw [4] (fun t wr => ∃ k : Nat, k ≤ n ∧ t = .int .i64 k ∧ Below w.heap.size w wr ∧ wr.heap.size = w.heap.size + 1 ∧ ∃ arr, wr.heap[w.heap.size]? = some (.cells arr 4) ∧ arr.size = n ∧ ∀ j, j < k → arr[j]? = some (Value.bool (f j))) (fun t _ => n - (intOf t).toNat)
  case atStart => exact ⟨0, by omega, rfl, (Below.refl _ _).alloc (Nat.le_refl _) _, by simp, _, heap_alloc_new _ _, by simp [size_madeCells], by intro j hj; omega⟩
  case round =>
    obtain ⟨k, hk, rfl, hB, hsz, arr, harr, has, hdone⟩ := hrel
    have HA : Hid (wr.heap[w.heap.size]? = some (.cells arr 4)) := harr
    have HD : Hid (∀ j, j < k → arr[j]? = some (Value.bool (f j))) := hdone
    have HS : Hid (wr.heap.size = w.heap.size + 1) := hsz
    have HZ : Hid (arr.size = n) := has
    clear harr hdone hsz has
    by_cases hlt : k < n
    · have h1 : wr.cell? ⟨b, off + k, none⟩ = some (Value.bool (f k)) := by
        have h0 := HC.out k hlt
        rw [hB.cell (World.block_lt_of_cell? w _ h0)]; exact h0
      obtain ⟨old, h2⟩ : ∃ old, wr.cell? ⟨w.heap.size, k, none⟩ = some old := ⟨_, by rw [cell_of_row wr _ k _ _ _ HA.out]; exact Array.getElem?_eq_getElem (by rw [HZ.out]; exact hlt)⟩
      have h3 : wr.frozen? ⟨w.heap.size, k, none⟩ = false := frozen_of_row wr _ k _ _ HA.out
      go_wp2
      go_roundw
      case rel =>
        obtain ⟨s1, s2⟩ := set_arr (f := fun j => Value.bool (f j)) HZ.out hlt HD.out
        exact ⟨k + 1, by omega, by go_num, hB.setCell (Nat.le_refl _) _, by rw [World.size_setCell]; exact HS.out, _, heap_setCell_same wr _ _ _ _ _ HA.out, s1, s2⟩
      case measure => simp [intOf]; omega
    · go_wp2
      go_ret
      exact ⟨rfl, hB, HS.out, arr, HA.out, fun j hj => HD.out j (by omega)⟩

set_option maxHeartbeats 1000000 in
/-- A nil slice, or one of no element. -/
theorem clone25_nil (w : World) : Calls Try.prog 25 #[.slice none 0 0] w fun e w' => e = .returned (.slice none 0 0) ∧ w' = w := by
  have hnil := fun W => Lib.run_eql_slice_nil (P := Try.prog) W 44 4 none 0 0 0 0 Try.underlying44
  go_enter Try.func25, Try.ntmps25
  go_wp2
  go_ret
  exact ⟨rfl, rfl⟩

set_option maxHeartbeats 1000000 in
theorem clone25_zero (x : Addr) (cap : Nat) (w : World) : Calls Try.prog 25 #[.slice (some x) 0 cap] w fun e w' => (∃ a c, e = .returned (.slice a 0 c)) ∧ Below w.heap.size w w' := by
  obtain ⟨i5, hi, hz0, hz1, hz2⟩ := info_parts Try.info4
  have hmk : ∀ W : World, (Instr.makeSlice 44 (.int .i64 0) (.int .i64 0)).run Try.prog W = .ok (.slice (some ⟨W.heap.size, 0, none⟩) 0 0) (W.alloc (.cells (madeCells #[.bool false] 0) 4)) := by
    intro W
    have := run_make W 44 4 i5 _ Try.underlying44 hi hz0 .i64 .i64 0 0 (by omega) (by omega) (by rw [hz2]; omega) (by omega)
    simpa [hz1, Value.cells] using this
  have hnil := fun W => Lib.run_eql_slice_nil (P := Try.prog) W 44 4 (some x) 0 cap 0 0 Try.underlying44
  clear hi hz0 hz1 hz2
  go_enter Try.func25, Try.ntmps25
  go_wp2
  refine wp_loop_rounds 1 ?_
  rw [rounds_succ]
  go_wp2
  go_ret
  exact ⟨⟨_, _, rfl⟩, (Below.refl _ _).alloc (Nat.le_refl _) _⟩

/-- clone25, whatever comes in: the copy is the call's own. -/
theorem clone25_any (a : Option Addr) (n cap : Nat) (f : Nat → Bool) (w : World) (hn : n ≤ 65536) (h : Given w a n cap (fun j => Value.bool (f j))) :
    Calls Try.prog 25 #[.slice a n cap] w fun e w' => ∃ a' c', e = .returned (.slice a' n c') ∧ Below w.heap.size w w' ∧ Own w' a' n (fun j => Value.bool (f j)) := by
  rcases h with ⟨rfl, rfl, rfl⟩ | ⟨x, rfl, _, _, hc⟩
  · refine (clone25_nil w).mono ?_
    rintro e w' ⟨rfl, rfl⟩
    exact ⟨none, 0, rfl, Below.refl _ _, .inl rfl⟩
  · by_cases h0 : n = 0
    · subst h0
      refine (clone25_zero x cap w).mono ?_
      rintro e w' ⟨⟨a, c, rfl⟩, hB⟩
      exact ⟨a, c, rfl, hB, .inl rfl⟩
    · obtain ⟨b, off, spot⟩ := x
      have hspot : spot = none := by simpa [Addr.add] using World.cell?_spot (hc 0 (by omega))
      subst hspot
      have hc' : ∀ j, j < n → w.cell? ⟨b, off + j, none⟩ = some (Value.bool (f j)) := fun j hj => by rw [← add_plain]; exact hc j hj
      refine (clone25 b off n cap f w hn hc').mono ?_
      rintro e w' ⟨rfl, hB, _, arr, harr, hd⟩
      exact ⟨_, _, rfl, hB, .inr ⟨_, arr, _, rfl, harr, hd⟩⟩

end Go.Proofs.Qxb6605321a.Tallies
