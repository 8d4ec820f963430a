/-
  THE WALK of FnNameSetAddIsTrueExactlyAtEachNamesFirstOccurrence (4).
-/
import Derived.Test.Qxb6605350aBase
import Derived.Deep.DeepCutAuto
namespace Go.Proofs.Qxb6605350a.First
open Go.ChangeShapes Go.WideShapes Go.ChangeAt Go.RowKit
open Go.Proofs.Qxb6605350a.SM

/-- Is s among the first k names? -/
def seen (f : Nat → ByteArray) : Nat → ByteArray → Bool
  | 0, _ => false
  | k + 1, s => seen f k s || decide (f k = s)
def marks (f : Nat → ByteArray) (k : Nat) (s : ByteArray) : Option Bool := if seen f k s then some true else none
/-- How many different names among the first k. -/
def cntTo (f : Nat → ByteArray) : Nat → Nat
  | 0 => 0
  | k + 1 => cntTo f k + more (marks f k (f k))

theorem seen_iff (f : Nat → ByteArray) (k : Nat) (s : ByteArray) : seen f k s = true ↔ ∃ i, i < k ∧ f i = s := by
  induction k with
  | zero => simp [seen]
  | succ k ih =>
    simp only [seen, Bool.or_eq_true, ih, decide_eq_true_eq]
    constructor
    · rintro (⟨i, hi, e⟩ | e)
      · exact ⟨i, by omega, e⟩
      · exact ⟨k, by omega, e⟩
    · rintro ⟨i, hi, e⟩
      by_cases h : i = k
      · subst h; exact .inr e
      · exact .inl ⟨i, by omega, e⟩

theorem put_marks (f : Nat → ByteArray) (k : Nat) (x : ByteArray) : marks f (k + 1) x = putB (marks f k) (f k) true x := by
  unfold marks putB
  by_cases e : x = f k
  · subst e; simp [seen]
  · have e' : ¬ f k = x := fun h => e h.symm
    simp [seen, e, e']

theorem marks_getD (f : Nat → ByteArray) (k : Nat) (s : ByteArray) : (marks f k s).getD false = seen f k s := by
  unfold marks; cases seen f k s <;> rfl

theorem cntTo_le (f : Nat → ByteArray) (k : Nat) : cntTo f k ≤ k := by
  induction k with
  | zero => exact Nat.le_refl _
  | succ k ih => simp only [cntTo, more]; split <;> omega

theorem more_seen (f : Nat → ByteArray) (k : Nat) (s : ByteArray) : more (marks f k s) = if seen f k s then 0 else 1 := by
  unfold more marks; cases seen f k s <;> rfl

theorem below_grown {B : Nat} {w a b : World} {r : Nat} (h : Below B w a) (hg : a.grownBy b (some r)) (hB : B ≤ a.heap.size) (hr : B ≤ r) : Below B w b :=
  h.grown hg hB (fun k e => by cases e; exact hr)

set_option maxRecDepth 100000 in
set_option maxHeartbeats 2000000 in
theorem walk_in (a : Option Addr) (n cap : Nat) (f : Nat → ByteArray) (w : World) (h : Row w a n (fun j => .string (f j))) (hn : n ≤ 4096) :
    Calls Try.prog 4 #[.slice a n cap] w fun e w' => e = .returned (.bool true) ∧ Below w.heap.size w w' := by
  have HR := hide h
  clear h
  have q1 : decide ((4096 : Int) < n) = false := by simp; omega
  have hmm := @run_makeMap Try.prog
  go_enter Try.func4, Try.ntmps4
  go_wp2_with fail
  refine (bytes11_any a n cap f _ HR.out).mono ?_
  rintro e w' ⟨⟨bb, rfl, _⟩, hw⟩
  subst w'
  cases bb with
  | false =>
    go_wp2
    go_ret
    exact ⟨rfl, Below.refl _ _⟩
  | true =>
  go_wp2_with fail
  refine (strBytes_any a n cap f _ HR.out (by omega)).mono ?_
  rintro e w' ⟨⟨t, rfl, ht0, ht1⟩, hw⟩
  subst w'
  cases hq : decide ((1048576 : Int) < t) with
  | true =>
    go_wp2
    go_ret
    exact ⟨rfl, Below.refl _ _⟩
  | false =>
  go_wp2_with fail
  go_loopw [4, 5, 6, 7] (fun c i _ _ wr => ∃ k : Nat, k ≤ n ∧ i = .int .i64 k ∧ c = .int .i64 ((cntTo f k : Nat) : Int) ∧ Below w.heap.size w wr ∧ MB wr w.heap.size (marks f k) (cntTo f k)) (fun _ i _ _ _ => n - (intOf i).toNat)
  case atStart => exact ⟨0, by omega, rfl, rfl, (Below.refl _ _).alloc (Nat.le_refl _) _, MapIs.made w⟩
  case round =>
    obtain ⟨k, hk, rfl, rfl, hB, hM⟩ := hrel
    have HB := hide hB
    have HM := hide hM
    clear hB hM
    have hc9 := cntTo_le f k
    by_cases hlt : k < n
    · obtain ⟨b, off, rfl, hb, hc⟩ := HR.out.cell hlt
      have hi : (k : Int) < n := by omega
      have hck : wr.cell? ⟨b, off + k, none⟩ = some (.string (f k)) := by rw [HB.out.cell (p := ⟨b, off + k, none⟩) hb]; exact hc
      have HC : Hid (∀ j, j < n → wr.cell? ⟨b, off + j, none⟩ = some (.string (f j))) := fun j hj => by
        obtain ⟨b', off', e, hb', hc'⟩ := HR.out.cell hj
        obtain ⟨rfl, rfl⟩ : b = b' ∧ off = off' := by simpa using e
        rw [HB.out.cell (p := ⟨b, off + j, none⟩) hb']; exact hc'
      have HS : Hid (marks f (k + 1) = putB (marks f k) (f k) true) := funext (put_marks f k)
      have HT : Hid (cntTo f (k + 1) = cntTo f k + more (marks f k (f k))) := rfl
      have HU : Hid (more (marks f k (f k)) = if seen f k (f k) then 0 else 1) := more_seen f k (f k)
      have HV : Hid ((marks f k (f k)).getD false = seen f k (f k)) := marks_getD f k (f k)
      clear hc
      by_cases hs : seen f k (f k) = true
      · obtain ⟨i0, hi0, e0⟩ := (seen_iff f k (f k)).1 hs
        have E0 := hide e0
        have HSN := hide hs
        clear e0 hs
        go_wp2_with fail
        go_loopw [6, 7] (fun fi t wq => ∃ m q : Nat, m ≤ k ∧ fi = .bool true ∧ t = .int .i64 m ∧ wq = wr.drewN q ∧ ∀ i, i < m → f i ≠ f k) (fun _ t _ => k - (intOf t).toNat)
        case atStart => exact ⟨0, 0, by omega, rfl, rfl, rfl, fun i hi => by omega⟩
        case round =>
          obtain ⟨m, q, hm, rfl, rfl, hwq, hne⟩ := hrel
          have HNE := hide hne
          clear hne
          by_cases hmk : m < k
          · have hcm := HC.out m (by omega)
            have i1 : (m : Int) < k := by omega
            have i2 : (m : Int) < n := by omega
            subst hwq
            by_cases e1 : f m = f k
            · have e2 := beq_yes e1
              clear e1
              go_upto_region 16 with fail
              go_quiet (fail)
              go_wp2_with fail
              refine (add10_any w.heap.size (cntTo f k) (marks f k) (f k) _ (by exact HM.out.kept rfl)).mono ?_
              rintro e w1 ⟨he, hg, hmb⟩
              rw [HV.out, HSN.out] at he
              subst he
              rw [← HS.out, ← HT.out] at hmb
              have HG := hide hg
              have HMB := hide hmb
              clear hg hmb
              go_wp2
              go_roundw
              case rel => exact ⟨k + 1, by omega, by go_num, by rw [HT.out, HU.out, HSN.out]; rfl, below_grown (below_drewN HB.out _) HG.out (by exact HB.out.size) (Nat.le_refl _), HMB.out⟩
              case measure => simp [intOf]; omega
            · have e2 := beq_no e1
              have E1 := hide e1
              clear e1
              go_upto_region 16 with fail
              go_quiet (fail)
              go_wp2_with fail
              go_roundw
              case rel => exact ⟨m + 1, _, by omega, rfl, by go_num, rfl, fun i hi => by
                by_cases e : i = m
                · subst e; exact E1.out
                · exact HNE.out i (by omega)⟩
              case measure => simp [intOf]; omega
          · exact absurd E0.out (HNE.out i0 (by omega))
      · have hs' : seen f k (f k) = false := by simpa using hs
        have HSN := hide hs'
        have HNO : Hid (∀ i, i < k → f i ≠ f k) := fun i hi e => hs ((seen_iff f k (f k)).2 ⟨i, hi, e⟩)
        clear hs hs'
        go_wp2_with fail
        go_loopw [6, 7] (fun fi t wq => ∃ m q : Nat, m ≤ k ∧ fi = .bool true ∧ t = .int .i64 m ∧ wq = wr.drewN q) (fun _ t _ => k - (intOf t).toNat)
        case atStart => exact ⟨0, 0, by omega, rfl, rfl, rfl⟩
        case round =>
          obtain ⟨m, q, hm, rfl, rfl, hwq⟩ := hrel
          subst hwq
          by_cases hmk : m < k
          · have hcm := HC.out m (by omega)
            have i1 : (m : Int) < k := by omega
            have i2 : (m : Int) < n := by omega
            have e2 := beq_no (HNO.out m hmk)
            go_upto_region 16 with fail
            go_quiet (fail)
            go_wp2_with fail
            go_roundw
            case rel => exact ⟨m + 1, _, by omega, rfl, by go_num, rfl⟩
            case measure => simp [intOf]; omega
          · have i1 : ¬ (m : Int) < k := by omega
            go_wp2_with fail
            refine (add10_any w.heap.size (cntTo f k) (marks f k) (f k) _ (by exact HM.out.kept rfl)).mono ?_
            rintro e w1 ⟨he, hg, hmb⟩
            rw [HV.out, HSN.out] at he
            subst he
            rw [← HS.out, ← HT.out] at hmb
            have HG := hide hg
            have HMB := hide hmb
            clear hg hmb
            go_wp2
            go_roundw
            case rel => exact ⟨k + 1, by omega, by go_num, by rw [HT.out, HU.out, HSN.out]; go_num, below_grown (below_drewN HB.out _) HG.out (by exact HB.out.size) (Nat.le_refl _), HMB.out⟩
            case measure => simp [intOf]; omega
    · obtain rfl : k = n := by omega
      have hlen := HM.out.len Try.underlying26 3
      have HL : Hid (∀ s, (Instr.lookup 26 (.map (some w.heap.size)) (.string s) false).run Try.prog wr = .ok (.bool ((marks f k s).getD false)) wr) := fun s => HM.out.look Try.underlying26 s
      go_wp2_with fail
      clear hlen hmm
      go_loop [8] (fun t => ∃ j : Nat, j ≤ k ∧ t = .int .i64 j) (fun t => k - (intOf t).toNat)
      case atStart => exact ⟨0, by omega, rfl⟩
      case round =>
        obtain ⟨j, hj, rfl⟩ := hrel
        by_cases hjk : j < k
        · obtain ⟨b, off, rfl, hb, hc⟩ := HR.out.cell hjk
          have hi : (j : Int) < k := by omega
          have hck : wr.cell? ⟨b, off + j, none⟩ = some (.string (f j)) := by rw [HB.out.cell (p := ⟨b, off + j, none⟩) hb]; exact hc
          have hlk := HL.out (f j)
          rw [marks_getD, (seen_iff f k (f j)).2 ⟨j, hjk, rfl⟩] at hlk
          clear hc
          go_wp2
          go_round
          case rel => exact ⟨j + 1, by omega, by go_num⟩
          case measure => simp [intOf]; omega
        · go_wp2
          go_ret
          exact ⟨rfl, HB.out⟩

set_option maxRecDepth 100000 in
set_option maxHeartbeats 2000000 in
theorem walk_big (a : Option Addr) (n cap : Nat) (f : Nat → ByteArray) (w : World) (h : Row w a n (fun j => .string (f j))) (hn : 4096 < n) :
    Calls Try.prog 4 #[.slice a n cap] w fun e w' => e = .returned (.bool true) ∧ Below w.heap.size w w' := by
  have HR := hide h
  clear h
  have q1 : decide ((4096 : Int) < n) = true := by simp; omega
  go_enter Try.func4, Try.ntmps4
  go_wp2_with fail
  refine (bytes11_any a n cap f _ HR.out).mono ?_
  rintro e w' ⟨⟨bb, rfl, _⟩, hw⟩
  subst w'
  cases bb with
  | false =>
    go_wp2
    go_ret
    exact ⟨rfl, Below.refl _ _⟩
  | true =>
    go_wp2
    go_ret
    exact ⟨rfl, Below.refl _ _⟩

theorem walk (a : Option Addr) (n cap : Nat) (f : Nat → ByteArray) (w : World) (h : Row w a n (fun j => .string (f j))) :
    Calls Try.prog 4 #[.slice a n cap] w fun e w' => e = .returned (.bool true) ∧ Below w.heap.size w w' := by
  by_cases hn : n ≤ 4096
  · exact walk_in a n cap f w h hn
  · exact walk_big a n cap f w h (by omega)
end Go.Proofs.Qxb6605350a.First
