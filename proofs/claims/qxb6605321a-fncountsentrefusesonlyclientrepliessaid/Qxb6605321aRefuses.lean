import Derived.Test.Qxb6605321aCount
import Derived.Deep.RegionHeld3
namespace Go.Proofs.Qxb6605321a.Refuses
open Go.ChangeShapes Go.WideShapes Go.ChangeAt Go.RowKit
open Go.Proofs.Qxb6605321a.Count

theorem new_block (W : World) (o : Obj) (n : Nat) (h : W.heap.size = n) : (W.alloc o).heap[n]? = some o := by
  subst h; show (W.heap.push o)[W.heap.size]? = _; simp
theorem old_block {W : World} {o o' : Obj} {n : Nat} (h : W.heap[n]? = some o') : (W.alloc o).heap[n]? = some o' :=
  (Below.heap_alloc W o n (Array.getElem?_eq_some_iff.1 h).1).trans h
theorem keep_block {W w1 : World} {b r : Nat} {o : Obj} (h : W.heap[b]? = some o) (hg : W.grownBy w1 (some r)) (hne : b ≠ r) : w1.heap[b]? = some o :=
  (hg.block b (Array.getElem?_eq_some_iff.1 h).1 (by simpa using hne)).trans h

theorem keep2 {W : World} {n : Nat} {cs : Array Value} (h : ∀ j, W.cell? ⟨n, j, none⟩ = cs[j]?) (hn : n < W.heap.size) (o1 o2 : Obj) : ∀ j, ((W.alloc o1).alloc o2).drew.cell? ⟨n, j, none⟩ = cs[j]? := fun j => by
  rw [World.cell?_drew, World.cell?_alloc_lt _ _ _ (by simp; omega), World.cell?_alloc_lt _ _ _ (by simpa using hn)]
  exact h j

set_option maxHeartbeats 1000000 in
theorem walkB (x0 x1 x2 x3 x4 x5 y0 y2 y3 y4 y5 d2 d3 d4 d5 k o st hops rq : Int) (rt cl be : Bool) (w : World)
    (HT : Hid (T6up k o cl x0 x1 x2 x3 x4 x5 = T6 y0 x1 y2 y3 y4 y5)) (hk : (k == 3 && cl) = false)
    (e2 : IntKind.u64.wrap (y2 - x2) = d2) (e3 : IntKind.u64.wrap (y3 - x3) = d3) (e4 : IntKind.u64.wrap (y4 - x4) = d4) (e5 : IntKind.u64.wrap (y5 - x5) = d5)
    (l2 : 0 ≤ d2) (l3 : 0 ≤ d3) (l4 : 0 ≤ d4) (l5 : 0 ≤ d5) (hs : d2 + d3 + d5 + d4 ≤ 1) (e0 : (y0 == IntKind.u64.wrap (x0 + 1)) = true) :
    Calls Try.prog 8 #[.agg #[.int .u64 x0, .int .u64 x1, .int .u64 x2, .int .u64 x3, .int .u64 x4, .int .u64 x5], .int .u8 k, .int .u8 o, .int .u8 st, .bool rt, .bool cl, .bool be, .int .u64 hops, .int .u64 rq] w fun e w' =>
      e = .returned (.bool true) ∧ Below w.heap.size w w' := by
  go_enter Try.func8, Try.ntmps8
  go_wp2_with fail
  refine (toTraffic_any x0 x1 x2 x3 x4 x5 _).mono ?_
  rintro e w' ⟨rfl, c1, c2, rfl⟩
  go_wp2_with fail
  refine (zzCountSent_any (w.heap.size + 1 + 1 + 1) x0 x1 x2 x3 x4 x5 k o st hops rq rt cl be _ (by exact new_block _ _ _ (by simp))).mono ?_
  rintro e w1 ⟨rfl, hg, hh⟩
  rw [HT.out] at hh
  have z1 : w.heap.size + 1 + 1 + 1 + 1 ≤ w1.heap.size := by have := hg.size; simpa using this
  have b0 : w1.heap[w.heap.size]? = some (.cells #[.int .u64 x0, .int .u64 x1, .int .u64 x2, .int .u64 x3, .int .u64 x4, .int .u64 x5] 42) :=
    keep_block (old_block (old_block (old_block (new_block _ _ _ rfl)))) hg (by omega)
  have c0 : ∀ j, w1.cell? ⟨w.heap.size, j, none⟩ = (#[Value.int .u64 x0, .int .u64 x1, .int .u64 x2, .int .u64 x3, .int .u64 x4, .int .u64 x5])[j]? := fun j => cell_of_row w1 _ j _ _ _ b0
  have B1 : Below w.heap.size w w1 := by
    refine Below.grown ?_ hg (by simp; omega) (by simp; omega)
    go_grown
  have HHH : Hid (w1.heap[w.heap.size + 1 + 1 + 1]? = some (T6 y0 x1 y2 y3 y4 y5)) := hh
  have HB0 : Hid (w1.heap[w.heap.size]? = some (.cells #[.int .u64 x0, .int .u64 x1, .int .u64 x2, .int .u64 x3, .int .u64 x4, .int .u64 x5] 42)) := b0
  clear hg hh b0
  go_wp2_with fail
  refine (toTraffic_any x0 x1 x2 x3 x4 x5 _).mono ?_
  rintro e w' ⟨rfl, c1', c2', rfl⟩
  go_wp2_with fail
  refine (zzCountSent_any (w1.heap.size + 1 + 1) x0 x1 x2 x3 x4 x5 k o 0 0 0 false cl false _ (by exact new_block _ _ _ (by simp))).mono ?_
  rintro e w2 ⟨rfl, hg, hh⟩
  rw [HT.out] at hh
  have z2 : w1.heap.size + 1 + 1 + 1 ≤ w2.heap.size := by have := hg.size; simpa using this
  have b0 := keep_block (old_block (old_block (old_block HB0.out))) hg (by omega)
  have b3 := keep_block (old_block (old_block (old_block HHH.out))) hg (by omega)
  have r0 : ∀ j, w2.cell? ⟨w.heap.size, j, none⟩ = (#[Value.int .u64 x0, .int .u64 x1, .int .u64 x2, .int .u64 x3, .int .u64 x4, .int .u64 x5])[j]? := fun j => cell_of_row w2 _ j _ _ _ b0
  have r3 : ∀ j, w2.cell? ⟨w.heap.size + 1 + 1 + 1, j, none⟩ = (#[Value.int .u64 y0, .int .u64 x1, .int .u64 y2, .int .u64 y3, .int .u64 y4, .int .u64 y5])[j]? := fun j => cell_of_row w2 _ j _ _ _ b3
  have r6 : ∀ j, w2.cell? ⟨w1.heap.size + 1 + 1, j, none⟩ = (#[Value.int .u64 y0, .int .u64 x1, .int .u64 y2, .int .u64 y3, .int .u64 y4, .int .u64 y5])[j]? := fun j => cell_of_row w2 _ j _ _ _ hh
  have B2 : Below w.heap.size w w2 := by
    refine Below.grown ?_ hg (by simp; omega) (by simp; omega)
    exact ((B1.alloc (by omega) _).alloc (by simp; omega) _).alloc (by simp; omega) _
  clear hg hh b0 b3 c0 HHH HB0 B1 z1 z2 HT
  have q2 : ¬ 1 < d2 := by omega
  have q3 : ¬ 1 < d3 := by omega
  have q4 : ¬ 1 < d4 := by omega
  have q5 : ¬ 1 < d5 := by omega
  go_wp2
  all_goals first
    | (go_returns; exact ⟨rfl, B2⟩)
    | (exfalso; simp_all; done)
set_option maxHeartbeats 1000000 in
theorem walkA (x0 x1 x2 x3 x4 x5 o st hops rq : Int) (rt be : Bool) (w : World) (HT : Hid (T6up 3 o true x0 x1 x2 x3 x4 x5 = T6 x0 x1 x2 x3 x4 x5)) :
    Calls Try.prog 8 #[.agg #[.int .u64 x0, .int .u64 x1, .int .u64 x2, .int .u64 x3, .int .u64 x4, .int .u64 x5], .int .u8 3, .int .u8 o, .int .u8 st, .bool rt, .bool true, .bool be, .int .u64 hops, .int .u64 rq] w fun e w' =>
      e = .returned (.bool true) ∧ Below w.heap.size w w' := by
  go_enter Try.func8, Try.ntmps8
  go_wp2_with fail
  refine (toTraffic_any x0 x1 x2 x3 x4 x5 _).mono ?_
  rintro e w' ⟨rfl, c1, c2, rfl⟩
  go_wp2_with fail
  refine (zzCountSent_any (w.heap.size + 1 + 1 + 1) x0 x1 x2 x3 x4 x5 3 o st hops rq rt true be _ (by exact new_block _ _ _ (by simp))).mono ?_
  rintro e w1 ⟨rfl, hg, hh⟩
  rw [HT.out] at hh
  have z1 : w.heap.size + 1 + 1 + 1 + 1 ≤ w1.heap.size := by have := hg.size; simpa using this
  have b0 : w1.heap[w.heap.size]? = some (.cells #[.int .u64 x0, .int .u64 x1, .int .u64 x2, .int .u64 x3, .int .u64 x4, .int .u64 x5] 42) :=
    keep_block (old_block (old_block (old_block (new_block _ _ _ rfl)))) hg (by omega)
  have c0 : ∀ j, w1.cell? ⟨w.heap.size, j, none⟩ = (#[Value.int .u64 x0, .int .u64 x1, .int .u64 x2, .int .u64 x3, .int .u64 x4, .int .u64 x5])[j]? := fun j => cell_of_row w1 _ j _ _ _ b0
  have B1 : Below w.heap.size w w1 := by
    refine Below.grown ?_ hg (by simp; omega) (by simp; omega)
    go_grown
  have HHH : Hid (w1.heap[w.heap.size + 1 + 1 + 1]? = some (T6 x0 x1 x2 x3 x4 x5)) := hh
  have HB0 : Hid (w1.heap[w.heap.size]? = some (.cells #[.int .u64 x0, .int .u64 x1, .int .u64 x2, .int .u64 x3, .int .u64 x4, .int .u64 x5] 42)) := b0
  clear hg hh b0
  go_wp2_with fail
  refine (toTraffic_any x0 x1 x2 x3 x4 x5 _).mono ?_
  rintro e w' ⟨rfl, c1', c2', rfl⟩
  go_wp2_with fail
  refine (zzCountSent_any (w1.heap.size + 1 + 1) x0 x1 x2 x3 x4 x5 3 o 0 0 0 false true false _ (by exact new_block _ _ _ (by simp))).mono ?_
  rintro e w2 ⟨rfl, hg, hh⟩
  rw [HT.out] at hh
  have z2 : w1.heap.size + 1 + 1 + 1 ≤ w2.heap.size := by have := hg.size; simpa using this
  have b0 := keep_block (old_block (old_block (old_block HB0.out))) hg (by omega)
  have b3 := keep_block (old_block (old_block (old_block HHH.out))) hg (by omega)
  have r0 : ∀ j, w2.cell? ⟨w.heap.size, j, none⟩ = (#[Value.int .u64 x0, .int .u64 x1, .int .u64 x2, .int .u64 x3, .int .u64 x4, .int .u64 x5])[j]? := fun j => cell_of_row w2 _ j _ _ _ b0
  have r3 : ∀ j, w2.cell? ⟨w.heap.size + 1 + 1 + 1, j, none⟩ = (#[Value.int .u64 x0, .int .u64 x1, .int .u64 x2, .int .u64 x3, .int .u64 x4, .int .u64 x5])[j]? := fun j => cell_of_row w2 _ j _ _ _ b3
  have r6 : ∀ j, w2.cell? ⟨w1.heap.size + 1 + 1, j, none⟩ = (#[Value.int .u64 x0, .int .u64 x1, .int .u64 x2, .int .u64 x3, .int .u64 x4, .int .u64 x5])[j]? := fun j => cell_of_row w2 _ j _ _ _ hh
  have B2 : Below w.heap.size w w2 := by
    refine Below.grown ?_ hg (by simp; omega) (by simp; omega)
    exact ((B1.alloc (by omega) _).alloc (by simp; omega) _).alloc (by simp; omega) _
  clear hg hh b0 b3 c0 HHH HB0 B1 HT
  go_wp2
  go_region_held3 (fun w' => (∀ j, w'.cell? ⟨w.heap.size, j, none⟩ = (#[Value.int .u64 x0, .int .u64 x1, .int .u64 x2, .int .u64 x3, .int .u64 x4, .int .u64 x5])[j]?) ∧ (∀ j, w'.cell? ⟨w.heap.size + 1 + 1 + 1, j, none⟩ = (#[Value.int .u64 x0, .int .u64 x1, .int .u64 x2, .int .u64 x3, .int .u64 x4, .int .u64 x5])[j]?)) (first | (exact ⟨keep2 r0 (by omega) _ _, keep2 r3 (by omega) _ _⟩) | (exact ⟨r0, r3⟩))
    ((go_at_call 26; refine (toTraffic_any x0 x1 x2 x3 x4 x5 _).mono ?_; rintro e w' ⟨rfl, o1, o2, rfl⟩))
  all_goals
    go_wp2
    go_returns
    exact ⟨rfl, ((B2.alloc (by omega) _).alloc (by simp; omega) _).drew⟩

theorem up_diff (b : Bool) (x : Int) : IntKind.u64.wrap (up b x - x) = if b then 1 else 0 := by
  unfold up
  cases b with
  | true =>
    simp only [if_true, IntKind.wrap_u64]
    omega
  | false =>
    simp only [IntKind.wrap_u64]
    simp

/-- At most one of the four sub-counters is raised. -/
theorem one_of (k o : Int) (cl : Bool) : (if isCheck k cl then 1 else 0 : Int) + (if isAlive k cl then 1 else 0) + (if isCorr k cl then 1 else 0) + (if isLook k o cl then 1 else 0) ≤ 1 := by
  unfold isCheck isAlive isCorr isLook
  cases cnt k cl
  · simp
  · by_cases h13 : k = 13
    · subst h13; simp
    · by_cases h16 : k = 16
      · subst h16; simp
      · by_cases h17 : k = 17
        · subst h17; simp
        · have e1 : (k == 13) = false := by simp [h13]
          have e2 : (k == 16) = false := by simp [h16]
          have e3 : (k == 17) = false := by simp [h17]
          simp only [e1, e2, e3]
          cases (o == 3) <;> simp

theorem bit01 (b : Bool) : (0 : Int) ≤ if b then 1 else 0 := by cases b <;> simp

theorem walk (x0 x1 x2 x3 x4 x5 k o st hops rq : Int) (rt cl be : Bool) (w : World) :
    Calls Try.prog 8 #[.agg #[.int .u64 x0, .int .u64 x1, .int .u64 x2, .int .u64 x3, .int .u64 x4, .int .u64 x5], .int .u8 k, .int .u8 o, .int .u8 st, .bool rt, .bool cl, .bool be, .int .u64 hops, .int .u64 rq] w fun e w' =>
      e = .returned (.bool true) ∧ Below w.heap.size w w' := by
  cases hc : (k == 3 && cl) with
  | true =>
    simp only [Bool.and_eq_true, beq_iff_eq] at hc
    obtain ⟨rfl, rfl⟩ := hc
    exact walkA x0 x1 x2 x3 x4 x5 o st hops rq rt be w (by simp [Hid, T6up, up, cnt, isCheck, isAlive, isCorr, isLook])
  | false =>
    refine walkB x0 x1 x2 x3 x4 x5 _ _ _ _ _ _ _ _ _ k o st hops rq rt cl be w rfl hc (up_diff _ x2) (up_diff _ x3) (up_diff _ x4) (up_diff _ x5)
      (bit01 _) (bit01 _) (bit01 _) (bit01 _) (one_of k o cl) ?_
    have hn : cnt k cl = true := by simp only [cnt, hc]; rfl
    rw [hn]
    simp [up]

end Go.Proofs.Qxb6605321a.Refuses
