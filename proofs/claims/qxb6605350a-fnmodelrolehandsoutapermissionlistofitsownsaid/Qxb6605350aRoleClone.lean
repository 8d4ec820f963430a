/-
  clonePermsB1 (18): the copy is the call's own, row by row.
-/
import Derived.Test.Qxb6605350aRoleSmall
namespace Go.Proofs.Qxb6605350a.Role
open Go.ChangeShapes Go.WideShapes Go.ChangeAt Go.RowKit
open Go.Proofs.Qxb6605350a.SM

theorem info22 : (Try.prog.info? 22).map (fun i => (i.zero, i.size, i.bytes)) = some (some (.slice none 0 0), 1, 24) := by kernel_rfl
theorem info9 : (Try.prog.info? 9).map (fun i => (i.zero, i.size, i.bytes)) = some (some (.string ByteArray.empty), 1, 16) := by kernel_rfl

theorem make37 (n : Nat) (hn : n ≤ 1048576) (W : World) : (Instr.makeSlice 37 (.int .i64 (n : Int)) (.int .i64 (n : Int))).run Try.prog W = .ok (.slice (some ⟨W.heap.size, 0, none⟩) n n) (W.alloc (.cells (madeCells #[.slice none 0 0] n) 22)) := by
  obtain ⟨i, hi, hz0, hz1, hz2⟩ := info_parts info22
  have := run_make W 37 22 i _ Try.underlying37 hi hz0 .i64 .i64 (n : Int) (n : Int) (by omega) (by omega) (by rw [hz2]; omega) (by omega)
  simpa [hz1, Value.cells] using this
theorem make22 (n : Nat) (hn : n ≤ 1048576) (W : World) : (Instr.makeSlice 22 (.int .i64 (n : Int)) (.int .i64 (n : Int))).run Try.prog W = .ok (.slice (some ⟨W.heap.size, 0, none⟩) n n) (W.alloc (.cells (madeCells #[.string ByteArray.empty] n) 9)) := by
  obtain ⟨i, hi, hz0, hz1, hz2⟩ := info_parts info9
  have := run_make W 22 9 i _ Try.underlying22 hi hz0 .i64 .i64 (n : Int) (n : Int) (by omega) (by omega) (by rw [hz2]; omega) (by omega)
  simpa [hz1, Value.cells] using this

theorem made_at (z : Value) (n i : Nat) (h : i < n) : (madeCells #[z] n)[i]? = some z := by
  simp [madeCells, h]
  simp [Nat.mod_one]

/-- A row in one block from lo on. -/
def RowFrom (lo : Nat) (w : World) (a : Option Addr) (n : Nat) (f : Nat → Value) : Prop :=
  n = 0 ∨ ∃ b off, lo ≤ b ∧ a = some ⟨b, off, none⟩ ∧ ∀ j, j < n → w.cell? ⟨b, off + j, none⟩ = some (f j)

theorem RowFrom.row {lo : Nat} {w : World} {a : Option Addr} {n : Nat} {f : Nat → Value} (h : RowFrom lo w a n f) : Row w a n f := by
  rcases h with h | ⟨b, off, _, ha, hc⟩
  · exact .inl h
  · exact .inr ⟨b, off, ha, hc⟩
theorem RowFrom.kept {lo : Nat} {w w' : World} {a : Option Addr} {n : Nat} {f : Nat → Value} (h : RowFrom lo w a n f) (hb : ∀ k, lo ≤ k → k < w.heap.size → w'.heap[k]? = w.heap[k]?) : RowFrom lo w' a n f := by
  rcases h with h | ⟨b, off, hlo, ha, hc⟩
  · exact .inl h
  · exact .inr ⟨b, off, hlo, ha, fun j hj => by
      rw [World.cell?_of_block (w := w) (a := ⟨b, off + j, none⟩) (hb b hlo (World.block_lt_of_cell? w _ (hc j hj)))]; exact hc j hj⟩

theorem set_arr {arr : Array Value} {k n : Nat} {f : Nat → Value} (hs : arr.size = n) (hk : k < n) (h : ∀ j, j < k → arr[j]? = some (f j)) :
    (arr.setIfInBounds k (f k)).size = n ∧ ∀ j, j < k + 1 → (arr.setIfInBounds k (f k))[j]? = some (f j) := by
  refine ⟨by simpa using hs, fun j hj => ?_⟩
  by_cases e : k = j
  · subst e; simp [hs, hk]
  · rw [Array.getElem?_setIfInBounds, if_neg e]; exact h j (by omega)

/-- The state of the outer loop behind k rows: block H holds the slices; the first k have their own copies. -/
structure COut (w : World) (n : Nat) (L : Nat → Nat) (P : Nat → Nat → ByteArray) (wr : World) (k : Nat) : Prop where
  below : Below w.heap.size w wr
  size : w.heap.size + 1 ≤ wr.heap.size
  arr : ∃ arr, wr.heap[w.heap.size]? = some (.cells arr 22) ∧ arr.size = n ∧ (∀ i, k ≤ i → i < n → arr[i]? = some (.slice none 0 0)) ∧
    ∀ i, i < k → ∃ a c, arr[i]? = some (.slice a (L i) c) ∧ RowFrom (w.heap.size + 1) wr a (L i) (fun j => .string (P i j)) ∧ (a = none → L i = 0 ∧ c = 0)

theorem COut.skip {w wr : World} {n k : Nat} {L : Nat → Nat} {P : Nat → Nat → ByteArray} (h : COut w n L P wr k) (hk : k < n) (h0 : L k = 0) : COut w n L P wr (k + 1) := by
  obtain ⟨h1, h2, arr, ha, hs, hz, hd⟩ := h
  refine ⟨h1, h2, arr, ha, hs, fun i hi => hz i (by omega), fun i hi => ?_⟩
  by_cases e : i = k
  · subst e; exact ⟨none, 0, by rw [hz i (Nat.le_refl _) hk, h0], .inl h0, fun _ => ⟨h0, rfl⟩⟩
  · exact hd i (by omega)

/-- Behind the inner loop and the store of the new row. -/
theorem COut.stored {w wr wq : World} {n k : Nat} {L : Nat → Nat} {P : Nat → Nat → ByteArray} {ar : Array Value} (h : COut w n L P wr k) (hk : k < n) (hq : Below wr.heap.size wr wq) (hqs : wr.heap.size < wq.heap.size)
    (ha : wq.heap[wr.heap.size]? = some (.cells ar 9)) (hd : ∀ j, j < L k → ar[j]? = some (.string (P k j))) :
    COut w n L P (wq.setCell ⟨w.heap.size, k, none⟩ (.slice (some ⟨wr.heap.size, 0, none⟩) (L k) (L k))) (k + 1) := by
  obtain ⟨h1, h2, arr, harr, hs, hz, hdn⟩ := h
  have harr' : wq.heap[w.heap.size]? = some (.cells arr 22) := (hq.block _ (by omega)).trans harr
  have keep : ∀ b, w.heap.size + 1 ≤ b → b < wr.heap.size → (wq.setCell ⟨w.heap.size, k, none⟩ (.slice (some ⟨wr.heap.size, 0, none⟩) (L k) (L k))).heap[b]? = wr.heap[b]? := fun b hb hb2 => by
    rw [heap_setCell_other _ _ _ _ (by simp; omega)]; exact hq.block b hb2
  refine ⟨(h1.trans (hq.mono (by omega))).setCell (Nat.le_refl _) _, by rw [World.size_setCell]; omega, _, heap_setCell_same wq _ _ _ _ _ harr', by simpa using hs, fun i hi hi2 => ?_, fun i hi => ?_⟩
  · rw [Array.getElem?_setIfInBounds, if_neg (by omega)]; exact hz i (by omega) hi2
  · by_cases e : i = k
    · subst e
      refine ⟨some ⟨wr.heap.size, 0, none⟩, L i, by simp [hs, hk], .inr ⟨wr.heap.size, 0, by omega, rfl, fun j hj => ?_⟩, fun h => by cases h⟩
      rw [cell_of_row _ wr.heap.size (0 + j) ar 9 (0, 0) (by rw [heap_setCell_other _ _ _ _ (by simp; omega)]; exact ha)]
      rw [Nat.zero_add]; exact hd j hj
    · obtain ⟨a, c, e1, e2, e3⟩ := hdn i (by omega)
      exact ⟨a, c, by rw [Array.getElem?_setIfInBounds, if_neg (fun q => e q.symm)]; exact e1, e2.kept keep, e3⟩

set_option maxRecDepth 100000 in
set_option maxHeartbeats 2000000 in
theorem clone18_some (b off n cap : Nat) (A : Nat → Option Addr) (L C : Nat → Nat) (P : Nat → Nat → ByteArray) (w : World) (h : Perms w (some ⟨b, off, none⟩) n A L C P) (hn : n ≤ 1048576) (hL : ∀ i, i < n → L i ≤ 1048576) :
    Calls Try.prog 18 #[.slice (some ⟨b, off, none⟩) n cap] w fun e w' => e = .returned (.slice (some ⟨w.heap.size, 0, none⟩) n n) ∧ COut w n L P w' n := by
  have HP := hide h
  have HL := hide hL
  clear h hL
  have hmk := make37 n hn
  have hnil := fun W => Lib.run_eql_slice_nil (P := Try.prog) W 37 22 (some ⟨b, off, none⟩) n cap 0 0 Try.underlying37
  go_enter Try.func18, Try.ntmps18
  go_wp2_with fail
  clear hmk hnil
  go_loopw [4, 5, 6] (fun i _ _ wr => ∃ k : Nat, k ≤ n ∧ i = .int .i64 k ∧ COut w n L P wr k) (fun i _ _ _ => n - (intOf i).toNat)
  case atStart => exact ⟨0, by omega, rfl, (Below.refl _ _).alloc (Nat.le_refl _) _, by simp, _, heap_alloc_new _ _, by simp [size_madeCells], fun i _ hi => made_at _ n i hi, fun i hi => by omega⟩
  case round =>
    obtain ⟨k, hk, rfl, hI⟩ := hrel
    have HI := hide hI
    clear hI
    by_cases hlt : k < n
    · obtain ⟨b', off', e, hb, hc⟩ := HP.out.row.cell hlt
      obtain ⟨rfl, rfl⟩ : b = b' ∧ off = off' := by simpa using e
      clear e
      have hi : (k : Int) < n := by omega
      have hck : wr.cell? ⟨b, off + k, none⟩ = some (.slice (A k) (L k) (C k)) := by rw [HI.out.below.cell (p := ⟨b, off + k, none⟩) hb]; exact hc
      have hneq := fun W => run_neq_slice_nil_any (P := Try.prog) W 22 9 (A k) (L k) (C k) 0 0 Try.underlying22
      have hrow := hide (HP.out.rows k hlt)
      have hnk := hide (HP.out.nils k hlt)
      have hLk : L k ≤ 1048576 := HL.out k hlt
      clear hc
      cases hA : A k with
      | none =>
        have H0 := hide (HI.out.skip hlt (hnk.out hA).1)
        rw [hA] at hck hneq
        clear hA hrow hnk
        go_wp2
        go_roundw
        case rel => exact ⟨k + 1, by omega, by go_num, H0.out⟩
        case measure => simp [intOf]; omega
      | some x =>
        rw [hA] at hck hneq hrow
        have hmk2 := make22 (L k) hLk
        clear hA hnk
        go_wp2_with fail
        clear hneq hmk2
        rename World => wo
        have hbr : b < wo.heap.size := Nat.lt_of_lt_of_le hb HI.out.below.size
        have hwr : w.heap.size < wo.heap.size := HI.out.size
        obtain ⟨arr, hoa, hos, _, _⟩ := HI.out.arr
        have HOA := hide hoa
        have HOS := hide hos
        clear hoa hos
        go_loopw [6] (fun j wq => ∃ m : Nat, m ≤ L k ∧ j = .int .i64 m ∧ Below wo.heap.size wo wq ∧ wq.heap.size = wo.heap.size + 1 ∧ ∃ ar, wq.heap[wo.heap.size]? = some (.cells ar 9) ∧ ar.size = L k ∧ ∀ j, j < m → ar[j]? = some (.string (P k j))) (fun j _ => L k - (intOf j).toNat)
        case atStart => exact ⟨0, by omega, rfl, (Below.refl _ _).alloc (Nat.le_refl _) _, by simp, _, heap_alloc_new _ _, by simp [size_madeCells], by intro j hj; omega⟩
        case round =>
          obtain ⟨m, hm, rfl, hqB, hqs, ar, har, has, hdone⟩ := hrel
          have HQ := hide hqB
          have HQS := hide hqs
          have HAR := hide har
          have HAS := hide has
          have HDN := hide hdone
          have hck' : wr.cell? ⟨b, off + k, none⟩ = some (.slice (some x) (L k) (C k)) := by rw [hqB.cell (p := ⟨b, off + k, none⟩) hbr]; exact hck
          clear hqB hqs har has hdone
          by_cases hml : m < L k
          · obtain ⟨b2, off2, e, hb2, hc2⟩ := hrow.out.cell hml
            obtain rfl : x = ⟨b2, off2, none⟩ := by simpa using e
            clear e
            have hi2 : (m : Int) < L k := by omega
            have h1 : wr.cell? ⟨b2, off2 + m, none⟩ = some (.string (P k m)) := by
              rw [HQ.out.cell (p := ⟨b2, off2 + m, none⟩) (Nat.lt_of_lt_of_le hb2 HI.out.below.size), HI.out.below.cell (p := ⟨b2, off2 + m, none⟩) hb2]; exact hc2
            obtain ⟨old, h2⟩ : ∃ old, wr.cell? ⟨wo.heap.size, m, none⟩ = some old := ⟨_, by rw [cell_of_row wr _ m _ _ _ HAR.out]; exact Array.getElem?_eq_getElem (by rw [HAS.out]; exact hml)⟩
            have h3 : wr.frozen? ⟨wo.heap.size, m, none⟩ = false := frozen_of_row wr _ m _ _ HAR.out
            clear hc2
            go_wp2
            go_roundw
            case rel =>
              obtain ⟨s1, s2⟩ := set_arr (f := fun j => Value.string (P k j)) HAS.out hml HDN.out
              exact ⟨m + 1, by omega, by go_num, HQ.out.setCell (Nat.le_refl _) _, by rw [World.size_setCell]; exact HQS.out, _, heap_setCell_same wr _ _ _ _ _ HAR.out, s1, s2⟩
            case measure => simp [intOf]; omega
          · obtain rfl : m = L k := by omega
            have hoa' : wr.heap[w.heap.size]? = some (.cells arr 22) := (HQ.out.block _ hwr).trans HOA.out
            obtain ⟨old, h2⟩ : ∃ old, wr.cell? ⟨w.heap.size, k, none⟩ = some old := ⟨_, by rw [cell_of_row wr _ k _ _ _ hoa']; exact Array.getElem?_eq_getElem (by rw [HOS.out]; exact hlt)⟩
            have h3 : wr.frozen? ⟨w.heap.size, k, none⟩ = false := frozen_of_row wr _ k _ _ hoa'
            have H0 := hide (HI.out.stored hlt HQ.out (by rw [HQS.out]; omega) HAR.out HDN.out)
            clear hoa'
            go_wp2
            go_roundw
            case rel => exact ⟨k + 1, by omega, by go_num, H0.out⟩
            case measure => simp [intOf]; omega
    · obtain rfl : k = n := by omega
      go_wp2
      go_ret
      exact ⟨rfl, HI.out⟩

set_option maxHeartbeats 1000000 in
theorem clone18_nil (w : World) : Calls Try.prog 18 #[.slice none 0 0] w fun e w' => e = .returned (.slice none 0 0) ∧ w' = w := by
  have hnil := fun W => Lib.run_eql_slice_nil (P := Try.prog) W 37 22 none 0 0 0 0 Try.underlying37
  go_enter Try.func18, Try.ntmps18
  go_wp2
  go_ret
  exact ⟨rfl, rfl⟩

set_option maxHeartbeats 1000000 in
theorem clone18_zero (x : Addr) (cap : Nat) (w : World) : Calls Try.prog 18 #[.slice (some x) 0 cap] w fun e w' => (∃ a c, e = .returned (.slice a 0 c)) ∧ Below w.heap.size w w' := by
  have hmk : ∀ W : World, (Instr.makeSlice 37 (.int .i64 0) (.int .i64 0)).run Try.prog W = .ok (.slice (some ⟨W.heap.size, 0, none⟩) 0 0) (W.alloc (.cells (madeCells #[.slice none 0 0] 0) 22)) := fun W => make37 0 (by omega) W
  have hnil := fun W => Lib.run_eql_slice_nil (P := Try.prog) W 37 22 (some x) 0 cap 0 0 Try.underlying37
  go_enter Try.func18, Try.ntmps18
  go_wp2
  refine wp_loop_rounds 1 ?_
  rw [rounds_succ]
  go_wp2
  go_ret
  exact ⟨⟨_, _, rfl⟩, (Below.refl _ _).alloc (Nat.le_refl _) _⟩

theorem COut.perms {w wr : World} {n : Nat} {L : Nat → Nat} {P : Nat → Nat → ByteArray} (h : COut w n L P wr n) : ∃ A C, Perms wr (some ⟨w.heap.size, 0, none⟩) n A L C P := by
  obtain ⟨_, _, arr, ha, hs, _, hd⟩ := h
  let A : Nat → Option Addr := fun i => match arr[i]? with | some (.slice a _ _) => a | _ => none
  let C : Nat → Nat := fun i => match arr[i]? with | some (.slice _ _ c) => c | _ => 0
  refine ⟨A, C, ⟨.inr ⟨w.heap.size, 0, rfl, fun i hi => ?_⟩, fun i hi => ?_, fun i hi => ?_⟩⟩
  · obtain ⟨a, c, e1, _, _⟩ := hd i hi
    rw [Nat.zero_add, cell_of_row wr _ i _ _ _ ha, e1]
    show some (Value.slice a (L i) c) = some (Value.slice (A i) (L i) (C i))
    simp only [A, C, e1]
  · obtain ⟨a, c, e1, e2, _⟩ := hd i hi
    have : A i = a := by simp only [A, e1]
    rw [this]; exact e2.row
  · obtain ⟨a, c, e1, _, e3⟩ := hd i hi
    have h1 : A i = a := by simp only [A, e1]
    have h2 : C i = c := by simp only [C, e1]
    rw [h1, h2]; exact e3

/-- clonePermsB1, whatever comes in. -/
theorem clone18_any (a : Option Addr) (n cap : Nat) (A : Nat → Option Addr) (L C : Nat → Nat) (P : Nat → Nat → ByteArray) (w : World) (h : Perms w a n A L C P) (hn : n ≤ 1048576) (hL : ∀ i, i < n → L i ≤ 1048576) (hnil : a = none → n = 0 ∧ cap = 0) :
    Calls Try.prog 18 #[.slice a n cap] w fun e w' => ∃ a' c' A' C', e = .returned (.slice a' n c') ∧ Below w.heap.size w w' ∧ Perms w' a' n A' L C' P := by
  cases a with
  | none =>
    obtain ⟨rfl, rfl⟩ := hnil rfl
    refine (clone18_nil w).mono ?_
    rintro e w' ⟨rfl, hw⟩
    subst w'
    exact ⟨none, 0, A, C, rfl, Below.refl _ _, ⟨.inl rfl, fun i hi => by omega, fun i hi => by omega⟩⟩
  | some x =>
    by_cases h0 : n = 0
    · subst h0
      refine (clone18_zero x cap w).mono ?_
      rintro e w' ⟨⟨a', c', rfl⟩, hb⟩
      exact ⟨a', c', A, C, rfl, hb, ⟨.inl rfl, fun i hi => by omega, fun i hi => by omega⟩⟩
    · obtain ⟨b, off, e, _, _⟩ := h.row.cell (k := 0) (by omega)
      obtain rfl : x = ⟨b, off, none⟩ := by simpa using e
      refine (clone18_some b off n cap A L C P w h hn hL).mono ?_
      rintro e w' ⟨rfl, hc⟩
      obtain ⟨A', C', hp⟩ := hc.perms
      exact ⟨_, _, A', C', rfl, hc.below, hp⟩
end Go.Proofs.Qxb6605350a.Role
