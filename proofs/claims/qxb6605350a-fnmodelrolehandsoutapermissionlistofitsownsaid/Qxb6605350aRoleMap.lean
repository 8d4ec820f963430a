/-
  roleMapB1 (20): the map of roles, said key by key.
-/
import Derived.Test.Qxb6605350aRoleClone
import Derived.Deep.RegionHeld3
namespace Go.Proofs.Qxb6605350a.Role
open Go.ChangeShapes Go.WideShapes Go.ChangeAt Go.RowKit
open Go.Proofs.Qxb6605350a.SM

def atA (A : Nat → Option Addr) (n k : Nat) : Option Addr := if k < n then A k else none
def atN (L : Nat → Nat) (n k : Nat) : Nat := if k < n then L k else 0

theorem permsAt22_nat (a : Option Addr) (n cap : Nat) (A : Nat → Option Addr) (L C : Nat → Nat) (k : Nat) (w : World) (h : Row w a n (fun i => .slice (A i) (L i) (C i))) :
    Calls Try.prog 22 #[.slice a n cap, .int .i64 (k : Int)] w fun e w' => e = .returned (.slice (atA A n k) (atN L n k) (atN C n k)) ∧ w' = w := by
  refine (permsAt22_any a n cap A L C k w h).mono ?_
  rintro e w' ⟨rfl, rfl⟩
  refine ⟨?_, rfl⟩
  unfold permsAt atA atN
  by_cases c : k < n
  · simp [c]
  · simp [c]

/-- The role filed at place k. -/
def roleVal (f1 f2 f3 : Nat → ByteArray) (n1 n2 n3 : Nat) (B : Nat → Bool) (n4 : Nat) (A : Nat → Option Addr) (L C : Nat → Nat) (n5 k : Nat) : Value :=
  .agg #[.string (strAt f1 n1 k), .string (strAt f2 n2 k), .string (strAt f3 n3 k), .bool (boolAt B n4 k), .slice (atA A n5 k) (atN L n5 k) (atN C n5 k)]

/-- The map behind the first k keys, V k the role filed at place k. -/
def FR (f : Nat → ByteArray) (V : Nat → Value) : Nat → ByteArray → Option Value
  | 0 => fun _ => none
  | k + 1 => put (FR f V k) (f k) (V k)
def CR (f : Nat → ByteArray) (V : Nat → Value) : Nat → Nat
  | 0 => 0
  | k + 1 => CR f V k + if (FR f V k (f k)).isSome then 0 else 1

theorem FR_none (f : Nat → ByteArray) (V : Nat → Value) (n : Nat) (q : ByteArray) (h : ∀ i, i < n → f i ≠ q) : FR f V n q = none := by
  induction n with
  | zero => rfl
  | succ n ih =>
    simp only [FR, put]
    rw [if_neg (fun e => h n (by omega) e.symm)]
    exact ih (fun i hi => h i (by omega))
theorem FR_last (f : Nat → ByteArray) (V : Nat → Value) (n j : Nat) (q : ByteArray) (hj : j < n) (hq : f j = q) (h : ∀ i, j < i → i < n → f i ≠ q) : FR f V n q = some (V j) := by
  induction n with
  | zero => omega
  | succ n ih =>
    simp only [FR, put]
    by_cases e : j = n
    · subst e; rw [if_pos hq.symm]
    · rw [if_neg (fun e1 => h n (by omega) (by omega) e1.symm)]
      exact ih (by omega) (fun i h1 h2 => h i h1 (by omega))

/-- A map value, nil or not. -/
def MapR (w : World) (r : Option Nat) (F : ByteArray → Option Value) : Prop :=
  (r = none ∧ ∀ q, F q = none) ∨ ∃ b c, r = some b ∧ MapIs w b F c

theorem MapR.kept {w w' : World} {r : Option Nat} {F : ByteArray → Option Value} (h : MapR w r F) (hb : Below w.heap.size w w') : MapR w' r F := by
  rcases h with h | ⟨b, c, hr, hm⟩
  · exact .inl h
  · exact .inr ⟨b, c, hr, hm.kept (hb.block b hm.lt)⟩

def zero47 : Value := .agg #[.string ByteArray.empty, .string ByteArray.empty, .string ByteArray.empty, .bool false, .slice none 0 0]
theorem zeroV47 (w : World) : (zeroValue 47).run Try.prog w = .ok zero47 w := by kernel_rfl

theorem MapR.look {w : World} {r : Option Nat} {F : ByteArray → Option Value} (h : MapR w r F) (q : ByteArray) :
    (Instr.lookup 42 (.map r) (.string q) true).run Try.prog w = .ok (.tuple #[(F q).getD zero47, .bool (F q).isSome]) w := by
  rcases h with ⟨rfl, hF⟩ | ⟨b, c, rfl, hm⟩
  · rw [hF q]
    have hk' : MapKept.IsKey .string (.string q) := trivial
    simp [Instr.lookup, run_underlying Try.underlying42, MapKept.run_checkKey Try.underlying9 hk', Instr.findKey, run_underlying Try.underlying9, Instr.findNow, Result.andThen]
    rfl
  · have := hm.look Try.underlying42 Try.underlying9 (zeroV47 w) q true
    rw [this]; simp

set_option maxRecDepth 100000 in
set_option maxHeartbeats 2000000 in
theorem map20_some (b off n cap : Nat) (a1 a2 a3 a4 a5 : Option Addr) (n1 c1 n2 c2 n3 c3 n4 c4 n5 c5 : Nat) (f f1 f2 f3 : Nat → ByteArray) (B : Nat → Bool) (A : Nat → Option Addr) (L C : Nat → Nat) (w : World)
    (h0 : Row w (some ⟨b, off, none⟩) n (fun j => .string (f j))) (h1 : Row w a1 n1 (fun j => .string (f1 j))) (h2 : Row w a2 n2 (fun j => .string (f2 j))) (h3 : Row w a3 n3 (fun j => .string (f3 j)))
    (h4 : Row w a4 n4 (fun j => .bool (B j))) (h5 : Row w a5 n5 (fun i => .slice (A i) (L i) (C i))) (hn : n ≤ 1048576) :
    Calls Try.prog 20 #[.slice (some ⟨b, off, none⟩) n cap, .slice a1 n1 c1, .slice a2 n2 c2, .slice a3 n3 c3, .slice a4 n4 c4, .slice a5 n5 c5] w fun e w' =>
      e = .returned (.map (some w.heap.size)) ∧ Below w.heap.size w w' ∧ MapIs w' w.heap.size (FR f (roleVal f1 f2 f3 n1 n2 n3 B n4 A L C n5) n) (CR f (roleVal f1 f2 f3 n1 n2 n3 B n4 A L C n5) n) := by
  have H0 := hide h0
  have H1 := hide h1
  have H2 := hide h2
  have H3 := hide h3
  have H4 := hide h4
  have H5 := hide h5
  clear h0 h1 h2 h3 h4 h5
  have hmm := @run_makeMap Try.prog
  have hnil := fun W => Lib.run_eql_slice_nil (P := Try.prog) W 22 9 (some ⟨b, off, none⟩) n cap 0 0 Try.underlying22
  go_enter Try.func20, Try.ntmps20
  go_wp2_with fail
  clear hmm hnil
  go_loopw [14] (fun i wr => ∃ k : Nat, k ≤ n ∧ i = .int .i64 k ∧ Below w.heap.size w wr ∧ MapIs wr w.heap.size (FR f (roleVal f1 f2 f3 n1 n2 n3 B n4 A L C n5) k) (CR f (roleVal f1 f2 f3 n1 n2 n3 B n4 A L C n5) k)) (fun i _ => n - (intOf i).toNat)
  case atStart => exact ⟨0, by omega, rfl, (Below.refl _ _).alloc (Nat.le_refl _) _, MapIs.made w⟩
  case round =>
    obtain ⟨k, hk, rfl, hB, hM⟩ := hrel
    have HB := hide hB
    by_cases hlt : k < n
    · obtain ⟨b', off', e, hb, hc⟩ := H0.out.cell hlt
      obtain ⟨rfl, rfl⟩ : b = b' ∧ off = off' := by simpa using e
      clear e
      have hi : (k : Int) < n := by omega
      have hck : wr.cell? ⟨b, off + k, none⟩ = some (.string (f k)) := by rw [hB.cell (p := ⟨b, off + k, none⟩) hb]; exact hc
      have R1 : Hid (Row wr.drew a1 n1 (fun j => .string (f1 j))) := H1.out.kept hB.drew
      have R2 : Hid (Row wr.drew a2 n2 (fun j => .string (f2 j))) := H2.out.kept hB.drew
      have R3 : Hid (Row wr.drew a3 n3 (fun j => .string (f3 j))) := H3.out.kept hB.drew
      have R4 : Hid (Row wr.drew a4 n4 (fun j => .bool (B j))) := H4.out.kept hB.drew
      have R5 : Hid (Row wr.drew a5 n5 (fun i => .slice (A i) (L i) (C i))) := H5.out.kept hB.drew
      have hM' : MapIs wr.drew w.heap.size (FR f (roleVal f1 f2 f3 n1 n2 n3 B n4 A L C n5) k) (CR f (roleVal f1 f2 f3 n1 n2 n3 B n4 A L C n5) k) := hM
      obtain ⟨w1, s1, s2, s3, _⟩ := hM'.store Try.underlying42 Try.underlying9 (f k) (roleVal f1 f2 f3 n1 n2 n3 B n4 A L C n5 k)
      have S2 : Hid (MapIs w1 w.heap.size (FR f (roleVal f1 f2 f3 n1 n2 n3 B n4 A L C n5) (k + 1)) (CR f (roleVal f1 f2 f3 n1 n2 n3 B n4 A L C n5) (k + 1))) := s2
      have S3 := hide (hB.drew.grown s3 hB.size (fun q e => by cases e; exact Nat.le_refl _))
      have hck1 : w1.cell? ⟨b, off + k, none⟩ = some (.string (f k)) := s3.cell (a := ⟨b, off + k, none⟩) hck (by intro e; have := Option.some.inj e; simp at this; omega)
      have HCK1 := hide hck1
      clear hck1
      unfold roleVal at s1
      clear hc hB hM hM' s2 s3
      go_upto_region 7 with fail
      go_region_held3 (fun w' => w'.cell? ⟨b, off + k, none⟩ = some (.string (f k))) (first | exact hck | exact HCK1.out)
        (first
          | (go_at_call_of 26 (a1); refine (strAt26_any a1 n1 c1 f1 k _ ?_).mono ?_; exact R1.out; rintro e w' ⟨rfl, hw⟩; subst w')
          | (go_at_call_of 26 (a2); refine (strAt26_any a2 n2 c2 f2 k _ ?_).mono ?_; exact R2.out; rintro e w' ⟨rfl, hw⟩; subst w')
          | (go_at_call_of 26 (a3); refine (strAt26_any a3 n3 c3 f3 k _ ?_).mono ?_; exact R3.out; rintro e w' ⟨rfl, hw⟩; subst w')
          | (go_at_call 27; refine (boolAt27_any a4 n4 c4 B k _ ?_).mono ?_; exact R4.out; rintro e w' ⟨rfl, hw⟩; subst w')
          | (go_at_call 22; refine (permsAt22_nat a5 n5 c5 A L C k _ ?_).mono ?_; exact R5.out; rintro e w' ⟨rfl, hw⟩; subst w'))
      go_wp2
      go_roundw
      case rel => exact ⟨k + 1, by omega, by go_num, S3.out, S2.out⟩
      case measure => simp [intOf]; omega
    · obtain rfl : k = n := by omega
      have HM := hide hM
      clear hB hM
      go_wp2
      go_ret
      exact ⟨rfl, HB.out, HM.out⟩

set_option maxHeartbeats 1000000 in
theorem map20_nil (v1 v2 v3 v4 v5 : Value) (w : World) :
    Calls Try.prog 20 #[.slice none 0 0, v1, v2, v3, v4, v5] w fun e w' => e = .returned (.map none) ∧ w' = w := by
  have hnil := fun W => Lib.run_eql_slice_nil (P := Try.prog) W 22 9 none 0 0 0 0 Try.underlying22
  go_enter Try.func20, Try.ntmps20
  go_wp2
  go_ret
  exact ⟨rfl, rfl⟩

set_option maxHeartbeats 1000000 in
theorem map20_zero (x : Addr) (cap : Nat) (v1 v2 v3 v4 v5 : Value) (w : World) :
    Calls Try.prog 20 #[.slice (some x) 0 cap, v1, v2, v3, v4, v5] w fun e w' => e = .returned (.map (some w.heap.size)) ∧ w' = w.alloc (.map #[] 0) := by
  have hmm := @run_makeMap Try.prog
  have hnil := fun W => Lib.run_eql_slice_nil (P := Try.prog) W 22 9 (some x) 0 cap 0 0 Try.underlying22
  go_enter Try.func20, Try.ntmps20
  go_wp2
  refine wp_loop_rounds 1 ?_
  rw [rounds_succ]
  go_wp2
  go_ret
  exact ⟨rfl, rfl⟩

/-- roleMapB1, whatever comes in. -/
theorem map20_any (a a1 a2 a3 a4 a5 : Option Addr) (n cap n1 c1 n2 c2 n3 c3 n4 c4 n5 c5 : Nat) (f f1 f2 f3 : Nat → ByteArray) (B : Nat → Bool) (A : Nat → Option Addr) (L C : Nat → Nat) (w : World)
    (h0 : Row w a n (fun j => .string (f j))) (h1 : Row w a1 n1 (fun j => .string (f1 j))) (h2 : Row w a2 n2 (fun j => .string (f2 j))) (h3 : Row w a3 n3 (fun j => .string (f3 j)))
    (h4 : Row w a4 n4 (fun j => .bool (B j))) (h5 : Row w a5 n5 (fun i => .slice (A i) (L i) (C i))) (hn : n ≤ 1048576) (hnil : a = none → n = 0 ∧ cap = 0) :
    Calls Try.prog 20 #[.slice a n cap, .slice a1 n1 c1, .slice a2 n2 c2, .slice a3 n3 c3, .slice a4 n4 c4, .slice a5 n5 c5] w fun e w' =>
      ∃ r, e = .returned (.map r) ∧ Below w.heap.size w w' ∧ MapR w' r (FR f (roleVal f1 f2 f3 n1 n2 n3 B n4 A L C n5) n) := by
  cases a with
  | none =>
    obtain ⟨rfl, rfl⟩ := hnil rfl
    refine (map20_nil _ _ _ _ _ w).mono ?_
    rintro e w' ⟨rfl, hw⟩
    subst w'
    exact ⟨none, rfl, Below.refl _ _, .inl ⟨rfl, fun _ => rfl⟩⟩
  | some x =>
    by_cases h0' : n = 0
    · subst h0'
      refine (map20_zero x cap _ _ _ _ _ w).mono ?_
      rintro e w' ⟨rfl, hw⟩
      subst w'
      exact ⟨_, rfl, (Below.refl _ _).alloc (Nat.le_refl _) _, .inr ⟨_, _, rfl, MapIs.made w⟩⟩
    · obtain ⟨b, off, e, _, _⟩ := h0.cell (k := 0) (by omega)
      obtain rfl : x = ⟨b, off, none⟩ := by simpa using e
      refine (map20_some b off n cap a1 a2 a3 a4 a5 n1 c1 n2 c2 n3 c3 n4 c4 n5 c5 f f1 f2 f3 B A L C w h0 h1 h2 h3 h4 h5 hn).mono ?_
      rintro e w' ⟨rfl, hb, hm⟩
      exact ⟨_, rfl, hb, .inr ⟨_, _, rfl, hm⟩⟩
end Go.Proofs.Qxb6605350a.Role
