/-
  THE WALK of FnNameSetAddMarksTheNameAndLeavesTheRest (3): contracts of its length guard (7) and nameMapB1 (9).
-/
import Derived.Test.Qxb6605350aBase
namespace Go.Proofs.Qxb6605350a.Marks
open Go.ChangeShapes Go.WideShapes Go.ChangeAt Go.RowKit
open Go.Proofs.Qxb6605350a.SM

def val (V : Nat → Bool) (m k : Nat) : Bool := if k < m then V k else false
/-- The map behind the first k keys. -/
def GM (f : Nat → ByteArray) (V : Nat → Bool) (m : Nat) : Nat → ByteArray → Option Bool
  | 0 => fun _ => none
  | k + 1 => putB (GM f V m k) (f k) (val V m k)
def CM (f : Nat → ByteArray) (V : Nat → Bool) (m : Nat) : Nat → Nat
  | 0 => 0
  | k + 1 => CM f V m k + more (GM f V m k (f k))

theorem GM_some (f : Nat → ByteArray) (V : Nat → Bool) (m k i : Nat) (h : i < k) : (GM f V m k (f i)).isSome = true := by
  induction k with
  | zero => omega
  | succ k ih =>
    simp only [GM, putB]
    split
    · rfl
    · rename_i hne
      exact ih (by by_cases e : i = k
                   · subst e; exact absurd rfl hne
                   · omega)
theorem CM_le (f : Nat → ByteArray) (V : Nat → Bool) (m k : Nat) : CM f V m k ≤ k := by
  induction k with
  | zero => exact Nat.le_refl _
  | succ k ih => simp only [CM, more]; split <;> omega

set_option maxHeartbeats 1000000 in
theorem nameMap9_any (a a2 : Option Addr) (n cap m c2 : Nat) (f : Nat → ByteArray) (V : Nat → Bool) (w : World) (h : Row w a n (fun j => .string (f j))) (h2 : Row w a2 m (fun j => .bool (V j))) (hn : n ≤ 65536) :
    Calls Try.prog 9 #[.slice a n cap, .slice a2 m c2] w fun e w' =>
      e = .returned (.map (some w.heap.size)) ∧ Below w.heap.size w w' ∧ MB w' w.heap.size (GM f V m n) (CM f V m n) := by
  have HR := hide h
  have HR2 := hide h2
  clear h h2
  have hmm := @run_makeMap Try.prog
  go_enter Try.func9, Try.ntmps9
  go_wp2_with fail
  clear hmm
  go_loopw [6, 7] (fun i _ wr => ∃ k : Nat, k ≤ n ∧ i = .int .i64 k ∧ Below w.heap.size w wr ∧ MB wr w.heap.size (GM f V m k) (CM f V m k)) (fun i _ _ => n - (intOf i).toNat)
  case atStart => exact ⟨0, by omega, rfl, (Below.refl _ _).alloc (Nat.le_refl _) _, MapIs.made w⟩
  case round =>
    obtain ⟨k, hk, rfl, hB, hM⟩ := hrel
    have HB := hide hB
    have HM := hide hM
    clear hB hM
    by_cases hlt : k < n
    · obtain ⟨b, off, rfl, hb, hc⟩ := HR.out.cell hlt
      have hi : (k : Int) < n := by omega
      have hck : wr.cell? ⟨b, off + k, none⟩ = some (.string (f k)) := by rw [HB.out.cell (p := ⟨b, off + k, none⟩) hb]; exact hc
      obtain ⟨w1, s1, s2, s3⟩ := HM.out.store Try.underlying26 (f k) (val V m k)
      have HS2 : Hid (MB w1 w.heap.size (GM f V m (k + 1)) (CM f V m (k + 1))) := s2
      have HS3 := hide (HB.out.grown s3 HB.out.size (fun q e => by cases e; exact Nat.le_refl _))
      clear hc s2 s3
      by_cases hv : k < m
      · obtain ⟨b2, off2, rfl, hb2, hc2⟩ := HR2.out.cell hv
        have hi2 : (k : Int) < m := by omega
        have hck2 : wr.cell? ⟨b2, off2 + k, none⟩ = some (.bool (V k)) := by rw [HB.out.cell (p := ⟨b2, off2 + k, none⟩) hb2]; exact hc2
        rw [show val V m k = V k from if_pos hv] at s1
        clear hc2
        go_wp2
        go_roundw
        case rel => exact ⟨k + 1, by omega, by go_num, HS3.out, HS2.out⟩
        case measure => simp [intOf]; omega
      · have hi2 : ¬ (k : Int) < m := by omega
        rw [show val V m k = false from if_neg hv] at s1
        go_wp2
        go_roundw
        case rel => exact ⟨k + 1, by omega, by go_num, HS3.out, HS2.out⟩
        case measure => simp [intOf]; omega
    · obtain rfl : k = n := by omega
      go_wp2
      go_ret
      exact ⟨rfl, HB.out, HM.out⟩

set_option maxHeartbeats 1000000 in
theorem bytes7_any (a a2 : Option Addr) (n cap m c2 : Nat) (f : Nat → ByteArray) (s : ByteArray) (w : World) (h : Row w a n (fun j => .string (f j))) (hm : m ≤ maxLen) (hs : s.size ≤ maxLen) :
    Calls Try.prog 7 #[.slice a n cap, .slice a2 m c2, .string s] w fun e w' => Told e True ∧ w' = w := by
  have HR := hide h
  clear h
  unfold maxLen at hm hs
  by_cases c0 : (1048576 : Int) < n
  · go_enter Try.func7, Try.ntmps7
    go_wp2
    go_ret
    exact ⟨Told.no, rfl⟩
  go_enter Try.func7, Try.ntmps7
  go_wp2_with fail
  go_loop [7, 8] (fun t i => ∃ (k : Nat) (z : Int), k ≤ n ∧ i = .int .i64 k ∧ t = .int .i64 z ∧ 0 ≤ z ∧ z ≤ 1048576) (fun _ i => n - (intOf i).toNat)
  case atStart => exact ⟨0, n, by omega, rfl, rfl, by omega, by omega⟩
  case round =>
    obtain ⟨k, z, hk, rfl, rfl, hz0, hz1⟩ := hrel
    by_cases hlt : k < n
    · obtain ⟨b, off, rfl, hb, hc⟩ := HR.out.cell hlt
      have hi : (k : Int) < n := by omega
      generalize f k = q at hc
      by_cases c1 : (1048576 : Int) < q.size
      · go_wp2
        go_ret
        exact ⟨Told.no, rfl⟩
      · by_cases c2 : (1048576 : Int) < z + q.size
        · go_wp2
          go_ret
          exact ⟨Told.no, rfl⟩
        · go_wp2
          go_round
          case rel => exact ⟨k + 1, _, by omega, by go_num, rfl, by omega, by omega⟩
          case measure => simp [intOf]; omega
    · go_wp2
      all_goals go_ret
      all_goals first | exact ⟨Told.no, rfl⟩ | exact ⟨Told.yes trivial, rfl⟩

theorem put_other (G : ByteArray → Option Bool) (s x : ByteArray) (h : x ≠ s) : putB G s true x = G x := if_neg h
theorem put_same (G : ByteArray → Option Bool) (s : ByteArray) : putB G s true s = some true := if_pos rfl

set_option maxRecDepth 100000 in
set_option maxHeartbeats 2000000 in
theorem walk_in (a a2 : Option Addr) (n cap m c2 : Nat) (f : Nat → ByteArray) (V : Nat → Bool) (s : ByteArray) (w : World) (h : Row w a n (fun j => .string (f j))) (h2 : Row w a2 m (fun j => .bool (V j)))
    (hn : n ≤ 65536) (hm : m ≤ 65536) (hs : s.size ≤ 1048576) :
    Calls Try.prog 3 #[.slice a n cap, .slice a2 m c2, .string s] w fun e w' => e = .returned (.bool true) ∧ Below w.heap.size w w' := by
  have HR := hide h
  have HR2 := hide h2
  clear h h2
  have q1 : decide ((65536 : Int) < n) = false := by simp; omega
  have q2 : decide ((65536 : Int) < m) = false := by simp; omega
  have q3 : decide ((1048576 : Int) < s.size) = false := by simp; omega
  go_enter Try.func3, Try.ntmps3
  go_wp2_with fail
  refine (bytes7_any a a2 n cap m c2 f s _ HR.out (by unfold maxLen; omega) (by unfold maxLen; omega)).mono ?_
  rintro e w' ⟨⟨bb, rfl, _⟩, hw⟩
  subst w'
  cases bb with
  | false =>
    go_wp2
    go_ret
    exact ⟨rfl, Below.refl _ _⟩
  | true =>
  go_wp2_with fail
  refine (strBytes_any a n cap f _ HR.out (by omega)).mono ?_
  rintro e w' ⟨⟨t, rfl, ht0, ht1⟩, hw⟩
  subst w'
  cases hq : decide ((1048576 : Int) < t + m + s.size) with
  | true =>
    go_wp2
    go_ret
    exact ⟨rfl, Below.refl _ _⟩
  | false =>
  go_wp2_with fail
  refine (nameMap9_any a a2 n cap m c2 f V _ HR.out HR2.out hn).mono ?_
  rintro e w1 ⟨rfl, b1, m1⟩
  have B1 := hide b1
  have M1 := hide m1
  have HRa : Hid (Row w1 a n (fun j => .string (f j))) := HR.out.kept b1
  have HR2a : Hid (Row w1 a2 m (fun j => .bool (V j))) := HR2.out.kept b1
  clear b1 m1
  go_wp2_with fail
  refine (nameMap9_any a a2 n cap m c2 f V _ HRa.out HR2a.out hn).mono ?_
  rintro e w2 ⟨rfl, b2, m2⟩
  have B2 := hide (B1.out.trans (b2.mono B1.out.size))
  have M1b := hide (M1.out.kept (b2.block _ (MapIs.lt M1.out)))
  have M2 := hide m2
  have hlt0 : w.heap.size < w1.heap.size := MapIs.lt M1.out
  have hcm := CM_le f V m n
  have HSOME : Hid (∀ i, i < n → (GM f V m n (f i)).isSome = true) := fun i hi => GM_some f V m n i hi
  clear b2 m2 HR2 HR2a M1
  generalize GM f V m n = G at *
  generalize CM f V m n = C at *
  have l1 := M1b.out.len Try.underlying26 3
  have l2 := M1b.out.look_ok Try.underlying26 s
  obtain ⟨ws, hws⟩ : ∃ b, (G s).getD false = b := ⟨_, rfl⟩
  obtain ⟨hd, hhd⟩ : ∃ b, (G s).isSome = b := ⟨_, rfl⟩
  rw [hws, hhd] at l2
  go_wp2_with fail
  refine (add10_any w1.heap.size C G s _ M2.out).mono ?_
  rintro e w3 ⟨he, g3, m3⟩
  rw [hws] at he
  subst he
  have B3 := hide (B2.out.grown g3 B2.out.size (fun q e => by cases e; omega))
  have M3 := hide m3
  have M1c := hide (M1b.out.kept (g3.block _ (MapIs.lt M1b.out) (by intro e; have := Option.some.inj e; omega)))
  clear l1 l2 g3 m3 M1b M2
  have hmore : Hid (more (G s) = if hd then 0 else 1) := by unfold more; rw [hhd]; rfl
  have l3 := M3.out.len Try.underlying26 3
  have l4 := M3.out.look_ok Try.underlying26 s
  rw [put_same] at l4
  have HL : Hid (∀ i, i < n → f i ≠ s → (Instr.lookup 26 (.map (some w1.heap.size)) (.string (f i)) true).run Try.prog w3 = .ok (.tuple #[.bool ((G (f i)).getD false), .bool true]) w3) := fun i hi hne => by
    have := M3.out.look_ok Try.underlying26 (f i)
    rw [put_other G s (f i) hne, HSOME.out i hi] at this
    exact this
  have HL2 : Hid (∀ x, (Instr.lookup 26 (.map (some w.heap.size)) (.string x) false).run Try.prog w3 = .ok (.bool ((G x).getD false)) w3) := fun x => M1c.out.look Try.underlying26 x
  rw [hmore.out] at l3
  clear hmore hws hhd
  cases hd <;> cases ws
  all_goals
    go_wp2_with fail
    clear l3 l4
    go_loop [16] (fun i => ∃ k : Nat, k ≤ n ∧ i = .int .i64 k) (fun i => n - (intOf i).toNat)
    case atStart => exact ⟨0, by omega, rfl⟩
    case round =>
      obtain ⟨k, hk, rfl⟩ := hrel
      by_cases hlt : k < n
      · obtain ⟨b, off, rfl, hb, hc⟩ := HR.out.cell hlt
        have hi : (k : Int) < n := by omega
        have hck : w3.cell? ⟨b, off + k, none⟩ = some (.string (f k)) := by rw [B3.out.cell (p := ⟨b, off + k, none⟩) hb]; exact hc
        clear hc
        by_cases e1 : f k = s
        · have e2 := beq_yes e1
          clear e1
          go_wp2
          go_round
          case rel => exact ⟨k + 1, by omega, by go_num⟩
          case measure => simp [intOf]; omega
        · have e2 := beq_no e1
          have l5 := HL.out k hlt e1
          have l6 := HL2.out (f k)
          generalize (G (f k)).getD false = gv at *
          clear e1
          go_wp2
          go_round
          case rel => exact ⟨k + 1, by omega, by go_num⟩
          case measure => simp [intOf]; omega
      · go_wp2
        go_ret
        exact ⟨rfl, B3.out⟩

set_option maxRecDepth 100000 in
set_option maxHeartbeats 2000000 in
theorem walk_big (a a2 : Option Addr) (n cap m c2 : Nat) (f : Nat → ByteArray) (s : ByteArray) (w : World) (h : Row w a n (fun j => .string (f j))) (hm : m ≤ maxLen) (hs : s.size ≤ maxLen)
    (hbig : ¬ (n ≤ 65536 ∧ m ≤ 65536 ∧ s.size ≤ 1048576)) :
    Calls Try.prog 3 #[.slice a n cap, .slice a2 m c2, .string s] w fun e w' => e = .returned (.bool true) ∧ Below w.heap.size w w' := by
  have key : ∀ b1 b2 b3 : Bool, decide ((65536 : Int) < n) = b1 → decide ((65536 : Int) < m) = b2 → decide ((1048576 : Int) < s.size) = b3 → (b1 || b2 || b3) = true →
      Calls Try.prog 3 #[.slice a n cap, .slice a2 m c2, .string s] w fun e w' => e = .returned (.bool true) ∧ Below w.heap.size w w' := by
    intro b1 b2 b3 e1 e2 e3 hb
    have HR := hide h
    have HM := hide hm
    have HS := hide hs
    clear h hm hs hbig
    go_enter Try.func3, Try.ntmps3
    go_wp2_with fail
    refine (bytes7_any a a2 n cap m c2 f s _ HR.out HM.out HS.out).mono ?_
    rintro e w' ⟨⟨bb, rfl, _⟩, hw⟩
    subst w'
    cases bb with
    | false =>
      go_wp2
      go_ret
      exact ⟨rfl, Below.refl _ _⟩
    | true =>
      cases b1
      · cases b2
        · cases b3
          · cases hb
          · go_wp2
            go_ret
            exact ⟨rfl, Below.refl _ _⟩
        · go_wp2
          go_ret
          exact ⟨rfl, Below.refl _ _⟩
      · go_wp2
        go_ret
        exact ⟨rfl, Below.refl _ _⟩
  refine key _ _ _ rfl rfl rfl ?_
  simp
  omega

theorem walk (a a2 : Option Addr) (n cap m c2 : Nat) (f : Nat → ByteArray) (V : Nat → Bool) (s : ByteArray) (w : World) (h : Row w a n (fun j => .string (f j))) (h2 : Row w a2 m (fun j => .bool (V j))) (hm : m ≤ maxLen) (hs : s.size ≤ maxLen) :
    Calls Try.prog 3 #[.slice a n cap, .slice a2 m c2, .string s] w fun e w' => e = .returned (.bool true) ∧ Below w.heap.size w w' := by
  by_cases hb : n ≤ 65536 ∧ m ≤ 65536 ∧ s.size ≤ 1048576
  · exact walk_in a a2 n cap m c2 f V s w h h2 hb.1 hb.2.1 hb.2.2
  · exact walk_big a a2 n cap m c2 f s w h hm hs hb
end Go.Proofs.Qxb6605350a.Marks
