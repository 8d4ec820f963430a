/-
  CONTRACTS SHARED BY THE TWO LAWS OVER countSent: (*Traffic).countSent (30), ZZCountSent (27), toTraffic (26).
-/
import Derived.Test.Qxb6605321aRows
import Derived.WalkKit
import Derived.ProofKit
import Derived.OpenShut
import Derived.Handy
import Derived.Deep.WholeRow
namespace Go.Proofs.Qxb6605321a.Count
open Go.ChangeShapes Go.WideShapes Go.ChangeAt Go.RowKit

/-- A Traffic's block. -/
def T6 (x0 x1 x2 x3 x4 x5 : Int) : Obj := .cells #[.int .u64 x0, .int .u64 x1, .int .u64 x2, .int .u64 x3, .int .u64 x4, .int .u64 x5] 48

/-- One more, modulo 2^64, where b. -/
def up (b : Bool) (x : Int) : Int := if b then IntKind.u64.wrap (x + 1) else x

def cnt (k : Int) (cl : Bool) : Bool := !(k == 3 && cl)
def isCheck (k : Int) (cl : Bool) : Bool := cnt k cl && k == 13
def isAlive (k : Int) (cl : Bool) : Bool := cnt k cl && k == 16
def isCorr (k : Int) (cl : Bool) : Bool := cnt k cl && k == 17
def isLook (k o : Int) (cl : Bool) : Bool := cnt k cl && !(k == 13) && !(k == 16) && !(k == 17) && o == 3

/-- The block behind countSent. -/
def T6up (k o : Int) (cl : Bool) (x0 x1 x2 x3 x4 x5 : Int) : Obj :=
  T6 (up (cnt k cl) x0) x1 (up (isCheck k cl) x2) (up (isAlive k cl) x3) (up (isLook k o cl) x4) (up (isCorr k cl) x5)

theorem grown_set (w : World) (b j : Nat) (v : Value) : w.grownBy (w.setCell ⟨b, j, none⟩ v) (some b) :=
  ⟨rfl, rfl, rfl, by simp, fun k _ hk => heap_setCell_other w ⟨b, j, none⟩ k v (fun e => hk (by simp [e]))⟩

theorem grown_trans {a b c : World} {r : Option Nat} (h : a.grownBy b r) (k : b.grownBy c r) : a.grownBy c r :=
  ⟨k.os.trans h.os, k.tape.trans h.tape, k.output.trans h.output, Nat.le_trans h.size k.size, fun i hi hr => (k.block i (Nat.lt_of_lt_of_le hi h.size) hr).trans (h.block i hi hr)⟩

theorem set2 (w : World) (b : Nat) (i j : Nat) (cs : Array Value) (t : TypeId) (u v : Value) (h : w.heap[b]? = some (.cells cs t)) :
    ((w.setCell ⟨b, i, none⟩ u).setCell ⟨b, j, none⟩ v).heap[b]? = some (.cells ((cs.setIfInBounds i u).setIfInBounds j v) t) :=
  heap_setCell_same _ b j _ t v (heap_setCell_same w b i cs t u h)

set_option maxHeartbeats 1000000 in
theorem countSent_any (b mb : Nat) (x0 x1 x2 x3 x4 x5 k o : Int) (cl : Bool) (w : World)
    (hb : w.heap[b]? = some (T6 x0 x1 x2 x3 x4 x5)) (hne : b ≠ mb)
    (m0 : w.cell? ⟨mb, 0, none⟩ = some (.int .u8 k)) (m1 : w.cell? ⟨mb, 1, none⟩ = some (.int .u8 o)) (m4 : w.cell? ⟨mb, 4, none⟩ = some (.bool cl)) :
    Calls Try.prog 30 #[.pointer (some ⟨b, 0, none⟩), .pointer (some ⟨mb, 0, none⟩)] w fun e w' =>
      e = .returned (.tuple #[]) ∧ w.grownBy w' (some b) ∧ w'.heap[b]? = some (T6up k o cl x0 x1 x2 x3 x4 x5) := by
  have h0 : w.cell? ⟨b, 0, none⟩ = some (.int .u64 x0) := by rw [cell_of_row w b 0 _ _ _ hb]; rfl
  have h2 : w.cell? ⟨b, 2, none⟩ = some (.int .u64 x2) := by rw [cell_of_row w b 2 _ _ _ hb]; rfl
  have h3 : w.cell? ⟨b, 3, none⟩ = some (.int .u64 x3) := by rw [cell_of_row w b 3 _ _ _ hb]; rfl
  have h4 : w.cell? ⟨b, 4, none⟩ = some (.int .u64 x4) := by rw [cell_of_row w b 4 _ _ _ hb]; rfl
  have h5 : w.cell? ⟨b, 5, none⟩ = some (.int .u64 x5) := by rw [cell_of_row w b 5 _ _ _ hb]; rfl
  have hf : ∀ j, w.frozen? ⟨b, j, none⟩ = false := fun j => frozen_of_row w b j _ _ hb
  have HB : Hid (w.heap[b]? = some (T6 x0 x1 x2 x3 x4 x5)) := hb
  clear hb
  by_cases c3 : k = 3
  · subst c3
    cases cl with
    | true =>
      go_enter Try.func30, Try.ntmps30
      go_wp2
      go_returns
      exact ⟨rfl, World.grownBy.refl _ _, by rw [HB.out]; simp [T6up, up, cnt, isCheck, isAlive, isCorr, isLook]⟩
    | false =>
      by_cases o3 : o = 3
      · subst o3
        go_enter Try.func30, Try.ntmps30
        go_wp2
        go_returns
        exact ⟨rfl, grown_trans (grown_set _ _ _ _) (grown_set _ _ _ _), by rw [set2 w b _ _ _ _ _ _ HB.out]; simp [T6up, T6, up, cnt, isCheck, isAlive, isCorr, isLook]⟩
      · have o3' : (o == 3) = false := by simp [o3]
        go_enter Try.func30, Try.ntmps30
        go_wp2
        go_returns
        exact ⟨rfl, grown_set _ _ _ _, by rw [heap_setCell_same w b _ _ _ _ HB.out]; simp [T6up, T6, up, cnt, isCheck, isAlive, isCorr, isLook, o3]⟩
  · have c3' : (k == 3) = false := by simp [c3]
    by_cases c13 : k = 13
    · subst c13
      go_enter Try.func30, Try.ntmps30
      go_wp2
      go_returns
      exact ⟨rfl, grown_trans (grown_set _ _ _ _) (grown_set _ _ _ _), by rw [set2 w b _ _ _ _ _ _ HB.out]; simp [T6up, T6, up, cnt, isCheck, isAlive, isCorr, isLook]⟩
    have c13' : (k == 13) = false := by simp [c13]
    by_cases c16 : k = 16
    · subst c16
      go_enter Try.func30, Try.ntmps30
      go_wp2
      go_returns
      exact ⟨rfl, grown_trans (grown_set _ _ _ _) (grown_set _ _ _ _), by rw [set2 w b _ _ _ _ _ _ HB.out]; simp [T6up, T6, up, cnt, isCheck, isAlive, isCorr, isLook]⟩
    have c16' : (k == 16) = false := by simp [c16]
    by_cases c17 : k = 17
    · subst c17
      go_enter Try.func30, Try.ntmps30
      go_wp2
      go_returns
      exact ⟨rfl, grown_trans (grown_set _ _ _ _) (grown_set _ _ _ _), by rw [set2 w b _ _ _ _ _ _ HB.out]; simp [T6up, T6, up, cnt, isCheck, isAlive, isCorr, isLook]⟩
    have c17' : (k == 17) = false := by simp [c17]
    by_cases o3 : o = 3
    · subst o3
      go_enter Try.func30, Try.ntmps30
      go_wp2
      go_returns
      exact ⟨rfl, grown_trans (grown_set _ _ _ _) (grown_set _ _ _ _), by rw [set2 w b _ _ _ _ _ _ HB.out]; simp [T6up, T6, up, cnt, isCheck, isAlive, isCorr, isLook, c3', c13', c16', c17']⟩
    · have o3' : (o == 3) = false := by simp [o3]
      go_enter Try.func30, Try.ntmps30
      go_wp2
      go_returns
      exact ⟨rfl, grown_set _ _ _ _, by rw [heap_setCell_same w b _ _ _ _ HB.out]; simp [T6up, T6, up, cnt, isCheck, isAlive, isCorr, isLook, c3', c13', c16', c17', o3']⟩

/-- The zero message: 94 cells. -/
def z78 : Array Value := #[.int .u8 0, .int .u8 0, .int .u8 0, .bool false, .bool false, .bool false, .int .u8 0, .int .u8 0, .int .u8 0, .int .u8 0, .int .u8 0, .int .u8 0, .int .u8 0, .int .u8 0, .int .u8 0, .int .u8 0, .int .u8 0, .int .u8 0, .int .u8 0, .int .u8 0, .int .u8 0, .int .u8 0, .int .u8 0, .int .u8 0, .int .u8 0, .int .u8 0, .int .u64 0, .int .u64 0, .int .u8 0, .int .u8 0, .int .u8 0, .int .u8 0, .int .u8 0, .int .u8 0, .int .u8 0, .int .u8 0, .int .u8 0, .int .u8 0, .int .u8 0, .int .u8 0, .int .u8 0, .int .u8 0, .int .u8 0, .int .u8 0, .int .u8 0, .int .u8 0, .int .u8 0, .int .u8 0, .string ByteArray.empty, .slice none 0 0, .slice none 0 0, .int .u8 0, .int .u8 0, .int .u8 0, .int .u8 0, .int .u8 0, .int .u8 0, .int .u8 0, .int .u8 0, .int .u8 0, .int .u8 0, .int .u8 0, .int .u8 0, .int .u8 0, .int .u8 0, .int .u8 0, .int .u8 0, .int .u8 0, .int .u8 0, .int .u8 0, .int .u8 0, .string ByteArray.empty, .int .u8 0, .int .u8 0, .int .u8 0, .int .u8 0, .int .u8 0, .int .u8 0, .int .u8 0, .int .u8 0, .int .u8 0, .int .u8 0, .int .u8 0, .int .u8 0, .int .u8 0, .int .u8 0, .int .u8 0, .int .u8 0, .int .u8 0, .int .u8 0, .int .u8 0, .int .u8 0, .string ByteArray.empty, .pointer none]
theorem z78_info : (Try.prog.info? 78).map (fun i => (i.zero, i.size)) = some (some (.agg z78), 94) := by kernel_rfl
theorem z78_size : z78.size = 94 := by kernel_rfl

set_option maxHeartbeats 1000000 in
theorem zzCountSent_any (b : Nat) (x0 x1 x2 x3 x4 x5 k o st hops rq : Int) (rt cl be : Bool) (w : World)
    (hb : w.heap[b]? = some (T6 x0 x1 x2 x3 x4 x5)) :
    Calls Try.prog 27 #[.pointer (some ⟨b, 0, none⟩), .int .u8 k, .int .u8 o, .int .u8 st, .bool rt, .bool cl, .bool be, .int .u64 hops, .int .u64 rq] w fun e w' =>
      e = .returned (.tuple #[]) ∧ w.grownBy w' (some b) ∧ w'.heap[b]? = some (T6up k o cl x0 x1 x2 x3 x4 x5) := by
  have hlt : b < w.heap.size := (Array.getElem?_eq_some_iff.1 hb).1
  have HB : Hid (w.heap[b]? = some (T6 x0 x1 x2 x3 x4 x5)) := hb
  clear hb
  have hz : ∀ w, (zeroValue 78).run Try.prog w = .ok (.agg z78) w := (zero_of_info z78_info).1
  have hs : z78.size = 94 := z78_size
  have hn : ¬ z78 = #[] := fun e => by rw [e] at hs; simp at hs
  go_enter Try.func27, Try.ntmps27
  go_wp2_with fail
  refine (countSent_any b w.heap.size x0 x1 x2 x3 x4 x5 k o cl _ ((Below.heap_alloc w _ b hlt).trans HB.out) (by omega) (by simp [hs]) (by simp [hs]) (by simp [hs])).mono ?_
  rintro e w' ⟨rfl, hg, hh⟩
  have HG := hg
  have HH : Hid (w'.heap[b]? = some (T6up k o cl x0 x1 x2 x3 x4 x5)) := hh
  clear hh
  go_wp2
  go_returns
  exact ⟨rfl, grown_trans (World.grownBy_alloc w _ _) HG, HH.out⟩

set_option maxHeartbeats 1000000 in
theorem toTraffic_any (x0 x1 x2 x3 x4 x5 : Int) (w : World) :
    Calls Try.prog 26 #[.agg #[.int .u64 x0, .int .u64 x1, .int .u64 x2, .int .u64 x3, .int .u64 x4, .int .u64 x5]] w fun e w' =>
      e = .returned (.agg #[.int .u64 x0, .int .u64 x1, .int .u64 x2, .int .u64 x3, .int .u64 x4, .int .u64 x5]) ∧ ∃ c1 c2 : Array Value, w' = (w.alloc (.cells c1 42)).alloc (.cells c2 48) := by
  go_enter Try.func26, Try.ntmps26
  go_wp2
  go_returns
  exact ⟨rfl, _, _, rfl⟩
end Go.Proofs.Qxb6605321a.Count
