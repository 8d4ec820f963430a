/-
  (Model).Role (23): the role at the key, its permission list a copy in a block of its own.
-/
import Derived.Test.Qxb6605350aRoleMap
import Derived.Deep.AppendLies
namespace Go.Proofs.Qxb6605350a.Role
open Go.ChangeShapes Go.WideShapes Go.ChangeAt Go.RowKit
open Go.Proofs.Qxb6605350a.SM

theorem new_block (W : World) (o : Obj) (n : Nat) (h : W.heap.size = n) : (W.alloc o).heap[n]? = some o := by
  subst h; show (W.heap.push o)[W.heap.size]? = _; simp
theorem old_block {W : World} {o o' : Obj} {n : Nat} (h : W.heap[n]? = some o') : (W.alloc o).heap[n]? = some o' :=
  (Below.heap_alloc W o n (Array.getElem?_eq_some_iff.1 h).1).trans h
theorem keep_block {W w1 : World} {b r : Nat} {o : Obj} (h : W.heap[b]? = some o) (hg : W.grownBy w1 (some r)) (hne : b ≠ r) : w1.heap[b]? = some o :=
  (hg.block b (Array.getElem?_eq_some_iff.1 h).1 (by simpa using hne)).trans h

def strVals (P : Nat → ByteArray) (n : Nat) : List Value := (List.range n).map fun j => Value.string (P j)
theorem strVals_len (P : Nat → ByteArray) (n : Nat) : (strVals P n).length = n := by simp [strVals]
theorem strVals_at (P : Nat → ByteArray) (n j : Nat) (h : j < n) : (strVals P n)[j]? = some (.string (P j)) := by simp [strVals, h]
theorem strVals_one (P : Nat → ByteArray) (n : Nat) : ∀ u ∈ strVals P n, u.oneCell' = true := by
  intro u hu
  obtain ⟨j, _, rfl⟩ := List.mem_map.1 hu
  rfl
theorem strVals_cells {w : World} {x : Addr} {n : Nat} {P : Nat → ByteArray} (h : Row w (some x) n (fun j => .string (P j))) : ∀ j u, (strVals P n)[j]? = some u → w.cell? (x.add j) = some u := by
  intro j u hu
  have hj : j < n := by have := (List.getElem?_eq_some_iff.1 hu).1; rwa [strVals_len] at this
  rw [strVals_at P n j hj] at hu
  obtain ⟨b, off, e, _, hc⟩ := h.cell hj
  obtain rfl : x = ⟨b, off, none⟩ := by simpa using e
  rw [add_plain, hc]; exact hu
theorem take_at {cur : Array Value} {P : Nat → ByteArray} {n : Nat} (h : cur.toList.take (n * 1) = strVals P n) : ∀ j, j < n → cur[j]? = some (.string (P j)) := by
  intro j hj
  have := strVals_at P n j hj
  rw [← h, List.getElem?_take, if_pos (by omega)] at this
  simpa using this

/-- What Role hands back. -/
def Got (w : World) (s1 s2 s3 : ByteArray) (b4 ok : Bool) (pl : Nat) (P : Nat → ByteArray) (e : Ending) (w' : World) : Prop :=
  ∃ g cap cur, e = .returned (.tuple #[.agg #[.string s1, .string s2, .string s3, .bool b4, .slice (some ⟨g, 0, none⟩) pl cap], .bool ok]) ∧ Below w.heap.size w w' ∧ w.heap.size ≤ g ∧
    w'.heap[g]? = some (.cells cur 9) ∧ pl ≤ cap ∧ cap ≤ maxLen ∧ cur.size = cap ∧ ∀ j, j < pl → cur[j]? = some (.string (P j))

theorem role23_tail (w w1 : World) (s1 s2 s3 : ByteArray) (b4 : Bool) (v : Value)
    (hg : (((w.alloc (Obj.cells #[Value.string { data := #[] }, Value.string { data := #[] }, Value.string { data := #[] }, Value.bool false, Value.slice none 0 0] 47)).alloc
      (Obj.cells #[Value.string s1, Value.string s2, Value.string s3, Value.bool b4, v] 47)).alloc (Obj.cells #[] 9)).grownBy w1 (some (w.heap.size + 1 + 1))) :
    Below w.heap.size w w1 ∧ (∀ j, w1.cell? ⟨w.heap.size, j, none⟩ = (#[Value.string { data := #[] }, Value.string { data := #[] }, Value.string { data := #[] }, Value.bool false, Value.slice none 0 0])[j]?) ∧
      (∀ j, w1.cell? ⟨w.heap.size + 1, j, none⟩ = (#[Value.string s1, Value.string s2, Value.string s3, Value.bool b4, v])[j]?) ∧
      (∀ b j, b = w.heap.size ∨ b = w.heap.size + 1 → w1.frozen? ⟨b, j, none⟩ = false) ∧ w.heap.size + 3 ≤ w1.heap.size := by
  have e0 := keep_block (b := w.heap.size) (old_block (old_block (new_block w _ _ rfl))) hg (by omega)
  have e1 := keep_block (b := w.heap.size + 1) (old_block (new_block (w.alloc _) (.cells #[Value.string s1, Value.string s2, Value.string s3, Value.bool b4, v] 47) _ (by simp))) hg (by omega)
  refine ⟨Below.grown (by go_grown) hg (by simp; omega) (fun k e => by cases e; omega), fun j => cell_of_row w1 _ j _ _ _ e0, fun j => cell_of_row w1 _ j _ _ _ e1, fun b j h => ?_, by simpa using hg.size⟩
  rcases h with rfl | rfl
  · exact frozen_of_row w1 _ j _ _ e0
  · exact frozen_of_row w1 _ j _ _ e1

set_option maxRecDepth 100000 in
set_option maxHeartbeats 2000000 in
theorem role23_some (mb : Nat) (r : Option Nat) (q s1 s2 s3 : ByteArray) (b4 ok : Bool) (x : Addr) (pl pc : Nat) (P : Nat → ByteArray) (w : World)
    (hm : w.cell? ⟨mb, 1, none⟩ = some (.map r)) (hmlt : mb < w.heap.size)
    (hlook : ∀ o : Obj, (Instr.lookup 42 (.map r) (.string q) true).run Try.prog (w.alloc o) = .ok (.tuple #[.agg #[.string s1, .string s2, .string s3, .bool b4, .slice (some x) pl pc], .bool ok]) (w.alloc o))
    (hrow : Row w (some x) pl (fun j => .string (P j))) (hpl : pl ≤ 1048576) :
    Calls Try.prog 23 #[.pointer (some ⟨mb, 0, none⟩), .string q] w fun e w' => Got w s1 s2 s3 b4 ok pl P e w' := by
  have HR := hide hrow
  obtain ⟨i9, hi, hz0, hz1, hz2⟩ := info_parts info9
  have I1 := hide hi
  have I2 := hide hz0
  have I3 := hide hz1
  have I4 := hide hz2
  clear hrow hi hz0 hz1 hz2
  go_enter Try.func23, Try.ntmps23
  go_wp2_with (at_builtin; refine wpList_append_own _ (by rfl) _ _ 22 (by rfl) (w.heap.size + 1 + 1) 9 i9 (.string ByteArray.empty) 1 16 Try.underlying22 I1.out I2.out I3.out I4.out (by rfl) (by decide) (.slice (some ⟨w.heap.size + 1 + 1, 0, none⟩) 0 0) 0 [] (by rfl) ?h1 x pl pc (strVals P pl) (by rfl) ?h2 ?h3 (strVals_one P pl) ?h5 ?h6 ?h7 ?_)
  case h1 => exact ⟨rfl, .inr ⟨_, 0, #[], rfl, Nat.le_refl _, new_block _ _ _ (by simp), Nat.le_refl _, Nat.zero_le _, rfl, rfl⟩⟩
  case h2 => rw [strVals_len]; omega
  case h3 =>
    refine strVals_cells (HR.out.kept ?_)
    go_grown
  case h5 => unfold maxLen; omega
  case h6 => omega
  case h7 => simp
  intro v' w1 hown hgrow hiff
  have fin := role23_tail w w1 s1 s2 s3 b4 (.slice (some x) pl pc) hgrow
  obtain ⟨t1, t2, t3, t4, t5⟩ := fin
  rcases hown.2 with ⟨hv, _⟩ | ⟨g, cap, cur, rfl, hg, hh, hnc, hcm, hcs, htk⟩
  · exact absurd hv (by simpa using hiff)
  have HG := hide hg
  have HH := hide hh
  have HN := hide hnc
  have HC := hide hcm
  have HS := hide hcs
  have HT := hide (take_at htk)
  have T1 := hide t1
  have T5 := hide t5
  have gne1 : w.heap.size + 1 ≠ g := by omega
  have gne0 : w.heap.size ≠ g := by omega
  clear hgrow hiff hown hg hh hnc hcm hcs htk t1 t5 HR I1 I2 I3 I4 hlook hm
  go_wp2
  refine bodyPost_ret (v := .tuple #[.agg #[.string s1, .string s2, .string s3, .bool b4, .slice (some ⟨g, 0, none⟩) pl cap], .bool ok]) (by simp [results, Try.results23, go_sem, t2]) rfl ⟨g, cap, cur, rfl, ?_, by have := HG.out; omega, ?_, HN.out, HC.out, by rw [HS.out, Nat.mul_one], HT.out⟩
  · exact (((((T1.out.setCell (by simp) _).setCell (Nat.le_refl _) _).setCell (Nat.le_refl _) _).setCell (Nat.le_refl _) _).setCell (Nat.le_refl _) _).setCell (Nat.le_refl _) _
  · rw [heap_setCell_other _ _ _ _ gne0.symm, heap_setCell_other _ _ _ _ gne0.symm, heap_setCell_other _ _ _ _ gne0.symm, heap_setCell_other _ _ _ _ gne0.symm, heap_setCell_other _ _ _ _ gne0.symm, heap_setCell_other _ _ _ _ gne1.symm]
    exact HH.out

set_option maxRecDepth 100000 in
set_option maxHeartbeats 2000000 in
/-- No permission list (nil): an empty one is handed back. -/
theorem role23_none (mb : Nat) (r : Option Nat) (q s1 s2 s3 : ByteArray) (b4 ok : Bool) (P : Nat → ByteArray) (w : World)
    (hm : w.cell? ⟨mb, 1, none⟩ = some (.map r)) (hmlt : mb < w.heap.size)
    (hlook : ∀ o : Obj, (Instr.lookup 42 (.map r) (.string q) true).run Try.prog (w.alloc o) = .ok (.tuple #[.agg #[.string s1, .string s2, .string s3, .bool b4, .slice none 0 0], .bool ok]) (w.alloc o)) :
    Calls Try.prog 23 #[.pointer (some ⟨mb, 0, none⟩), .string q] w fun e w' => Got w s1 s2 s3 b4 ok 0 P e w' := by
  go_enter Try.func23, Try.ntmps23
  go_wp2
  refine bodyPost_ret (v := .tuple #[.agg #[.string s1, .string s2, .string s3, .bool b4, .slice (some ⟨w.heap.size + 1 + 1, 0, none⟩) 0 0], .bool ok]) (by simp [results, Try.results23, go_sem]) rfl ⟨w.heap.size + 1 + 1, 0, #[], rfl, ?_, by omega, new_block _ _ _ (by simp), Nat.le_refl _, Nat.zero_le _, rfl, fun j hj => by omega⟩
  go_grown

/-- (Model).Role over a model whose map holds F. -/
theorem role23_any (mb : Nat) (r : Option Nat) (F : ByteArray → Option Value) (q s1 s2 s3 : ByteArray) (b4 : Bool) (pa : Option Addr) (pl pc : Nat) (P : Nat → ByteArray) (w : World)
    (hm : w.cell? ⟨mb, 1, none⟩ = some (.map r)) (hF : MapR w r F) (hv : (F q).getD zero47 = .agg #[.string s1, .string s2, .string s3, .bool b4, .slice pa pl pc])
    (hrow : Row w pa pl (fun j => .string (P j))) (hnil : pa = none → pl = 0 ∧ pc = 0) (hpl : pl ≤ 1048576) :
    Calls Try.prog 23 #[.pointer (some ⟨mb, 0, none⟩), .string q] w fun e w' => Got w s1 s2 s3 b4 (F q).isSome pl P e w' := by
  have hlook : ∀ o : Obj, (Instr.lookup 42 (.map r) (.string q) true).run Try.prog (w.alloc o) = .ok (.tuple #[.agg #[.string s1, .string s2, .string s3, .bool b4, .slice pa pl pc], .bool (F q).isSome]) (w.alloc o) := fun o => by
    have := (hF.kept ((Below.refl _ _).alloc (Nat.le_refl _) o)).look q
    rw [hv] at this
    exact this
  have hlt : mb < w.heap.size := World.block_lt_of_cell? w _ hm
  cases pa with
  | none =>
    obtain ⟨rfl, rfl⟩ := hnil rfl
    exact role23_none mb r q s1 s2 s3 b4 _ P w hm hlt hlook
  | some x => exact role23_some mb r q s1 s2 s3 b4 _ x pl pc P w hm hlt hlook hrow hpl
end Go.Proofs.Qxb6605350a.Role
