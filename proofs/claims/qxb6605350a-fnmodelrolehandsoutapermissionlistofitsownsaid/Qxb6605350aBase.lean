/-
  SHARED: slices of strings that came in; the contracts of stringsBytesB1 (8), the length guards (11), (nameSet).add (25), ZZNameSetAdd (10).
-/
import Derived.Test.Qxb6605350aRows
import Derived.Test.Qxb6605350aMaps
import Derived.WalkKit
import Derived.ProofKit
import Derived.OpenShut
import Derived.Handy
import Derived.WalkSpells
import Derived.WalkLawsBesides
import Derived.Deep.QuietTactic
import Derived.BigQuiet
namespace Go.Proofs.Qxb6605350a
open Go.ChangeShapes Go.WideShapes Go.ChangeAt Go.RowKit
open Go.Proofs.Qxb6605350a.SM

theorem hide {p : Prop} (h : p) : Hid p := h

theorem beq_yes {x y : ByteArray} (h : x = y) : (x.toList == y.toList) = true := by rw [h]; simp
theorem beq_no {x y : ByteArray} (h : x ≠ y) : (x.toList == y.toList) = false := by
  rw [beq_eq_false_iff_ne]
  intro e
  rw [ByteArray.toList_eq, ByteArray.toList_eq] at e
  exact h (by obtain ⟨⟨a⟩⟩ := x; obtain ⟨⟨b⟩⟩ := y; simpa using e)

/-- n cells f 0, f 1, .. one behind the other, from the address a on; or none. -/
def Row (w : World) (a : Option Addr) (n : Nat) (f : Nat → Value) : Prop :=
  n = 0 ∨ ∃ b off, a = some ⟨b, off, none⟩ ∧ ∀ j, j < n → w.cell? ⟨b, off + j, none⟩ = some (f j)

theorem Row.cell {w : World} {a : Option Addr} {n : Nat} {f : Nat → Value} (h : Row w a n f) {k : Nat} (hk : k < n) : ∃ b off, a = some ⟨b, off, none⟩ ∧ b < w.heap.size ∧ w.cell? ⟨b, off + k, none⟩ = some (f k) := by
  rcases h with h | ⟨b, off, ha, hc⟩
  · omega
  · exact ⟨b, off, ha, World.block_lt_of_cell? w _ (hc k hk), hc k hk⟩

theorem Row.kept {w w' : World} {a : Option Addr} {n : Nat} {f : Nat → Value} (h : Row w a n f) (hb : Below w.heap.size w w') : Row w' a n f := by
  rcases h with h | ⟨b, off, ha, hc⟩
  · exact .inl h
  · exact .inr ⟨b, off, ha, fun j hj => by rw [hb.cell (p := ⟨b, off + j, none⟩) (World.block_lt_of_cell? w _ (hc j hj))]; exact hc j hj⟩

/-- A bool is handed back; where it is true, φ. -/
def Told (e : Ending) (φ : Prop) : Prop := ∃ b : Bool, e = .returned (.bool b) ∧ (b = true → φ)
theorem Told.no {φ : Prop} : Told (.returned (.bool false)) φ := ⟨false, rfl, fun h => by cases h⟩
theorem Told.yes {φ : Prop} (h : φ) : Told (.returned (.bool true)) φ := ⟨true, rfl, fun _ => h⟩

set_option maxHeartbeats 1000000 in
theorem strBytes_any (a : Option Addr) (n cap : Nat) (f : Nat → ByteArray) (w : World) (h : Row w a n (fun j => .string (f j))) (hn : n ≤ 1152921504606846975) :
    Calls Try.prog 8 #[.slice a n cap] w fun e w' => (∃ t : Int, e = .returned (.int .i64 t) ∧ 0 ≤ t ∧ t ≤ 1048577) ∧ w' = w := by
  have HR := hide h
  clear h
  go_enter Try.func8, Try.ntmps8
  go_wp2
  go_loop [3, 4] (fun t i => ∃ (k : Nat) (z : Int), k ≤ n ∧ i = .int .i64 k ∧ t = .int .i64 z ∧ 0 ≤ z ∧ z ≤ 1048576) (fun _ i => n - (intOf i).toNat)
  case atStart => exact ⟨0, 0, by omega, rfl, rfl, by omega, by omega⟩
  case round =>
    obtain ⟨k, z, hk, rfl, rfl, hz0, hz1⟩ := hrel
    by_cases hlt : k < n
    · obtain ⟨b, off, rfl, hb, hc⟩ := HR.out.cell hlt
      have hi : (k : Int) < n := by omega
      generalize f k = s at hc
      by_cases c1 : (1048576 : Int) < s.size
      · go_wp2
        go_ret
        exact ⟨⟨1048577, rfl, by omega, by omega⟩, rfl⟩
      · by_cases c2 : (1048576 : Int) < z + (16 + s.size)
        · go_wp2
          go_ret
          exact ⟨⟨1048577, rfl, by omega, by omega⟩, rfl⟩
        · go_wp2
          go_round
          case rel => exact ⟨k + 1, _, by omega, by go_num, rfl, by omega, by omega⟩
          case measure => simp [intOf]; omega
    · go_wp2
      go_ret
      exact ⟨⟨z, rfl, by omega, by omega⟩, rfl⟩

set_option maxHeartbeats 1000000 in
theorem bytes11_any (a : Option Addr) (n cap : Nat) (f : Nat → ByteArray) (w : World) (h : Row w a n (fun j => .string (f j))) :
    Calls Try.prog 11 #[.slice a n cap] w fun e w' => Told e (n ≤ 1048576) ∧ w' = w := by
  have HR := hide h
  clear h
  by_cases c0 : (1048576 : Int) < n
  · go_enter Try.func11, Try.ntmps11
    go_wp2
    go_ret
    exact ⟨Told.no, rfl⟩
  go_enter Try.func11, Try.ntmps11
  go_wp2
  go_loop [3, 4] (fun t i => ∃ (k : Nat) (z : Int), k ≤ n ∧ i = .int .i64 k ∧ t = .int .i64 z ∧ 0 ≤ z ∧ z ≤ 1048576) (fun _ i => n - (intOf i).toNat)
  case atStart => exact ⟨0, n, by omega, rfl, rfl, by omega, by omega⟩
  case round =>
    obtain ⟨k, z, hk, rfl, rfl, hz0, hz1⟩ := hrel
    by_cases hlt : k < n
    · obtain ⟨b, off, rfl, hb, hc⟩ := HR.out.cell hlt
      have hi : (k : Int) < n := by omega
      generalize f k = s at hc
      by_cases c1 : (1048576 : Int) < s.size
      · go_wp2
        go_ret
        exact ⟨Told.no, rfl⟩
      · by_cases c2 : (1048576 : Int) < z + s.size
        · go_wp2
          go_ret
          exact ⟨Told.no, rfl⟩
        · go_wp2
          go_round
          case rel => exact ⟨k + 1, _, by omega, by go_num, rfl, by omega, by omega⟩
          case measure => simp [intOf]; omega
    · go_wp2
      go_ret
      exact ⟨Told.yes (by omega), rfl⟩

/-! ### (nameSet).add: a map of bools, G what it holds -/
def MB (w : World) (b : Nat) (G : ByteArray → Option Bool) (n : Nat) : Prop := MapIs w b (fun s => (G s).map Value.bool) n
def putB (G : ByteArray → Option Bool) (s : ByteArray) (v : Bool) : ByteArray → Option Bool := fun x => if x = s then some v else G x

/-- How many keys a store adds. -/
def more (o : Option Bool) : Nat := if o.isSome then 0 else 1

theorem MB.kept {w w' : World} {b n : Nat} {G : ByteArray → Option Bool} (h : MB w b G n) (e : w'.heap[b]? = w.heap[b]?) : MB w' b G n := MapIs.kept h e

theorem zero4 (w : World) : (zeroValue 4).run Try.prog w = .ok (.bool false) w := by kernel_rfl

theorem MB.look {w : World} {b n : Nat} {G : ByteArray → Option Bool} (h : MB w b G n) {t : TypeId} (ht : Try.prog.underlying t = some (.map 9 4)) (s : ByteArray) :
    (Instr.lookup t (.map (some b)) (.string s) false).run Try.prog w = .ok (.bool ((G s).getD false)) w := by
  have := MapIs.look h ht Try.underlying9 (zero4 w) s false
  rw [this]
  simp
theorem MB.look_ok {w : World} {b n : Nat} {G : ByteArray → Option Bool} (h : MB w b G n) {t : TypeId} (ht : Try.prog.underlying t = some (.map 9 4)) (s : ByteArray) :
    (Instr.lookup t (.map (some b)) (.string s) true).run Try.prog w = .ok (.tuple #[.bool ((G s).getD false), .bool (G s).isSome]) w := by
  have := MapIs.look h ht Try.underlying9 (zero4 w) s true
  rw [this]
  simp
theorem MB.len {w : World} {b n : Nat} {G : ByteArray → Option Bool} (h : MB w b G n) {t : TypeId} (ht : Try.prog.underlying t = some (.map 9 4)) (ty : TypeId) :
    (Builtin.len_ #[t] ty #[.map (some b)]).run Try.prog w = .ok (.int .i64 n) w := MapIs.len h ht ty
theorem MB.store {w : World} {b n : Nat} {G : ByteArray → Option Bool} (h : MB w b G n) {t : TypeId} (ht : Try.prog.underlying t = some (.map 9 4)) (s : ByteArray) (v : Bool) :
    ∃ w', (Instr.mapUpdate t (.map (some b)) (.string s) (.bool v)).run Try.prog w = .ok () w' ∧ MB w' b (putB G s v) (n + more (G s)) ∧ w.grownBy w' (some b) := by
  obtain ⟨w', h1, h2, h3, _⟩ := MapIs.store h ht Try.underlying9 s (.bool v)
  refine ⟨w', h1, h2.congr (fun x => ?_) (by cases G s <;> rfl), h3⟩
  unfold putB put
  split <;> rfl

set_option maxHeartbeats 1000000 in
theorem add25_any (b n : Nat) (G : ByteArray → Option Bool) (s : ByteArray) (w : World) (h : MB w b G n) :
    Calls Try.prog 25 #[.map (some b), .string s] w fun e w' =>
      e = .returned (.bool (!((G s).getD false))) ∧ w.grownBy w' (some b) ∧ MB w' b (putB G s true) (n + more (G s)) := by
  have h1 := h.look Try.underlying51 s
  obtain ⟨w1, h2, h3, h4⟩ := h.store Try.underlying51 s true
  have H := hide h
  have H3 := hide h3
  have H4 := hide h4
  clear h h3 h4
  cases hg : (G s).getD false with
  | true =>
    rw [hg] at h1
    have hg' : G s = some true := by
      cases hs : G s with
      | none => rw [hs] at hg; cases hg
      | some v => rw [hs] at hg; simp at hg; rw [hg]
    have F1 : Hid (MB w b (putB G s true) (n + more (G s))) := MapIs.congr H.out (fun x => by unfold putB; split <;> simp_all) (by simp [hg', more])
    clear hg hg' H3 H4 h2 H
    go_enter Try.func25, Try.ntmps25
    go_wp2
    go_ret
    exact ⟨rfl, World.grownBy.refl _ _, F1.out⟩
  | false =>
    rw [hg] at h1
    clear hg H
    go_enter Try.func25, Try.ntmps25
    go_wp2
    go_ret
    exact ⟨rfl, H4.out, H3.out⟩

set_option maxHeartbeats 1000000 in
theorem add10_any (b n : Nat) (G : ByteArray → Option Bool) (s : ByteArray) (w : World) (h : MB w b G n) :
    Calls Try.prog 10 #[.map (some b), .string s] w fun e w' =>
      e = .returned (.bool (!((G s).getD false))) ∧ w.grownBy w' (some b) ∧ MB w' b (putB G s true) (n + more (G s)) := by
  have H := hide h
  clear h
  go_enter Try.func10, Try.ntmps10
  go_wp2_with fail
  refine (add25_any b n G s _ H.out).mono ?_
  rintro e w1 ⟨rfl, hg, hm⟩
  have HG := hide hg
  have HM := hide hm
  clear hg hm
  go_wp2
  go_ret
  exact ⟨rfl, HG.out, HM.out⟩
end Go.Proofs.Qxb6605350a
