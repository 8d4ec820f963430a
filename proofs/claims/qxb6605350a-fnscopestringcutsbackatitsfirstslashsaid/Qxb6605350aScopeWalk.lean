/-
  THE WALK of FnScopeStringCutsBackAtItsFirstSlash (5): contracts of its length guard (12), hasSlashB1 (13), ZZScope (14), (Scope).String (15).
-/
import Derived.Test.Qxb6605350aRows
import Derived.WalkKit
import Derived.ProofKit
import Derived.OpenShut
import Derived.Handy
import Derived.WalkSpells
import Derived.WalkLawsBesides
namespace Go.Proofs.Qxb6605350a.Scope
open Go.ChangeShapes Go.WideShapes Go.ChangeAt Go.RowKit

theorem hide {p : Prop} (h : p) : Hid p := h
def SomeBool (e : Ending) : Prop := ∃ b : Bool, e = .returned (.bool b)

/-- No '/' among the first k bytes. -/
def NoSlash (s : ByteArray) (k : Nat) : Prop := ∀ j (h : j < s.size), j < k → (((s[j]'h).toNat : Int) == 47) = false
/-- A bool; where it is false, s holds no '/'. -/
def Asked (s : ByteArray) (e : Ending) : Prop := ∃ b : Bool, e = .returned (.bool b) ∧ (b = false → NoSlash s s.size)

set_option maxHeartbeats 1000000 in
theorem bytes12_any (s t : ByteArray) (w : World) (hs : s.size ≤ maxLen) (ht : t.size ≤ maxLen) :
    Calls Try.prog 12 #[.string s, .string t] w fun e w' => SomeBool e ∧ w' = w := by
  unfold maxLen at hs ht
  go_enter Try.func12, Try.ntmps12
  go_wp2
  all_goals go_ret
  all_goals exact ⟨⟨_, rfl⟩, rfl⟩

set_option maxHeartbeats 1000000 in
theorem hasSlash13_any (s : ByteArray) (w : World) (hs : s.size ≤ 65536) :
    Calls Try.prog 13 #[.string s] w fun e w' => Asked s e ∧ w' = w := by
  go_enter Try.func13, Try.ntmps13
  go_wp2
  go_loop [3] (fun i => ∃ k : Nat, k ≤ s.size ∧ i = .int .i64 k ∧ NoSlash s k) (fun i => s.size - (intOf i).toNat)
  case atStart => exact ⟨0, by omega, rfl, fun j _ hj => by omega⟩
  case round =>
    obtain ⟨k, hk, rfl, hno⟩ := hrel
    have HN := hide hno
    clear hno
    by_cases hlt : k < s.size
    · cases hc : ((s[k].toNat : Int) == 47) with
      | true =>
        go_wp2
        go_ret
        exact ⟨⟨true, rfl, fun h => by cases h⟩, rfl⟩
      | false =>
        have HC := hide hc
        go_wp2
        go_round
        case rel => exact ⟨k + 1, by omega, by go_num, fun j hj hjk => by
          by_cases e : j = k
          · subst e; exact HC.out
          · exact HN.out j hj (by omega)⟩
        case measure => simp [intOf]; omega
    · go_wp2
      go_ret
      exact ⟨⟨false, rfl, fun _ j hj _ => HN.out j hj (by omega)⟩, rfl⟩

set_option maxHeartbeats 1000000 in
theorem scope14_any (s t : ByteArray) (w : World) :
    Calls Try.prog 14 #[.string s, .string t] w fun e w' => e = .returned (.agg #[.string s, .string t]) ∧ Grown w w' := by
  go_enter Try.func14, Try.ntmps14
  go_wp2
  go_returns
  exact ⟨rfl, by go_grown⟩

set_option maxHeartbeats 1000000 in
theorem string15_bare (s t : ByteArray) (hne : t.toList.isEmpty = true) (w : World) :
    Calls Try.prog 15 #[.agg #[.string s, .string t]] w fun e w' => e = .returned (.string s) ∧ Grown w w' := by
  go_enter Try.func15, Try.ntmps15
  go_wp2
  go_ret
  exact ⟨rfl, by go_grown⟩

set_option maxHeartbeats 1000000 in
theorem string15_both (s t : ByteArray) (hs : s.size ≤ 65536) (ht : t.size ≤ 65536) (hne : t.toList.isEmpty = false) (w : World) :
    Calls Try.prog 15 #[.agg #[.string s, .string t]] w fun e w' => e = .returned (.string (s ++ { data := #[47] } ++ t)) ∧ Grown w w' := by
  go_enter Try.func15, Try.ntmps15
  go_wp2
  go_ret
  exact ⟨rfl, by go_grown⟩

theorem grown_trans {a b c : World} (h : Grown a b) (k : Grown b c) : Grown a c :=
  ⟨World.keptBut_trans h.1 (World.keptBut_mono (fun _ f => f.elim) k.1), fun x => (k.2.1 x).trans (h.2.1 x), Nat.le_trans h.2.2 k.2.2⟩

theorem beq_self (x : ByteArray) : (x.toList == x.toList) = true := by simp

/-! ### plain facts on the text -/
theorem out_size (s t : ByteArray) : (s ++ { data := #[47] } ++ t).size = s.size + 1 + t.size := by simp; rfl
theorem out_left (s t : ByteArray) (j : Nat) (h : j < (s ++ { data := #[47] } ++ t).size) (hj : j < s.size) : (s ++ { data := #[47] } ++ t)[j] = s[j] := by
  rw [ByteArray.getElem_append_left (by simp; omega), ByteArray.getElem_append_left hj]
theorem out_mid (s t : ByteArray) (h : s.size < (s ++ { data := #[47] } ++ t).size) : (s ++ { data := #[47] } ++ t)[s.size] = 47 := by
  have h1 : s.size < (s ++ ({ data := #[47] } : ByteArray)).size := by simp; show 0 < 1; omega
  rw [ByteArray.getElem_append_left h1, ByteArray.getElem_append_right (Nat.le_refl _)]
  simp
  rfl
theorem out_cut (s t : ByteArray) : (s ++ { data := #[47] } ++ t).extract 0 s.size = s := by
  apply ByteArray.ext
  obtain ⟨⟨a⟩⟩ := s
  obtain ⟨⟨b⟩⟩ := t
  simp [ByteArray.size]
theorem out_rest (s t : ByteArray) : (s ++ { data := #[47] } ++ t).extract (s.size + 1) (s ++ { data := #[47] } ++ t).size = t := by
  apply ByteArray.ext
  obtain ⟨⟨a⟩⟩ := s
  obtain ⟨⟨b⟩⟩ := t
  simp [ByteArray.size]
  rw [List.take_of_length_le (by omega)]

set_option maxRecDepth 100000 in
set_option maxHeartbeats 2000000 in
/-- The scope's id is empty. -/
theorem walk_bare (s t : ByteArray) (hs : s.size ≤ 65536) (ht : t.size ≤ 65536) (hne : t.toList.isEmpty = true) (w : World) :
    Calls Try.prog 5 #[.string s, .string t] w fun e w' => e = .returned (.bool true) ∧ Grown w w' := by
  have q1 : decide ((65536 : Int) < s.size) = false := by simp; omega
  have q2 : decide ((65536 : Int) < t.size) = false := by simp; omega
  go_enter Try.func5, Try.ntmps5
  go_wp2_with fail
  refine (bytes12_any s t _ (by unfold maxLen; omega) (by unfold maxLen; omega)).mono ?_
  rintro e w' ⟨⟨bb, rfl⟩, hw⟩
  subst w'
  cases bb with
  | false =>
    go_wp2
    go_ret
    exact ⟨rfl, Grown.refl _⟩
  | true =>
  go_wp2_with fail
  refine (hasSlash13_any s _ hs).mono ?_
  rintro e w' ⟨⟨bb, rfl, hno⟩, hw⟩
  subst w'
  cases bb with
  | true =>
    clear hno
    go_wp2
    go_ret
    exact ⟨rfl, Grown.refl _⟩
  | false =>
  have HN := hide (hno rfl)
  clear hno
  go_wp2_with fail
  refine (scope14_any s t _).mono ?_
  rintro e w1 ⟨rfl, hg1⟩
  have G1 := hide hg1
  clear hg1
  go_wp2_with fail
  refine (string15_bare s t hne _).mono ?_
  rintro e w2 ⟨rfl, hg2⟩
  have G2 := hide (grown_trans G1.out hg2)
  clear hg2 G1
  go_wp2_with fail
  go_loop [6, 7] (fun c i => ∃ k : Nat, k ≤ s.size ∧ c = .int .i64 (-1) ∧ i = .int .i64 k) (fun _ i => s.size - (intOf i).toNat)
  case atStart => exact ⟨0, by omega, rfl, rfl⟩
  case round =>
    obtain ⟨k, hk, rfl, rfl⟩ := hrel
    by_cases hlt : k < s.size
    · have hc := HN.out k hlt hlt
      go_wp2
      go_round
      case rel => exact ⟨k + 1, by omega, rfl, by go_num⟩
      case measure => simp [intOf]; omega
    · go_wp2
      go_ret
      exact ⟨rfl, G2.out⟩

set_option maxRecDepth 100000 in
set_option maxHeartbeats 2000000 in
/-- The scope has an id. -/
theorem walk_both (s t : ByteArray) (hs : s.size ≤ 65536) (ht : t.size ≤ 65536) (hne : t.toList.isEmpty = false) (w : World) :
    Calls Try.prog 5 #[.string s, .string t] w fun e w' => e = .returned (.bool true) ∧ Grown w w' := by
  have q1 : decide ((65536 : Int) < s.size) = false := by simp; omega
  have q2 : decide ((65536 : Int) < t.size) = false := by simp; omega
  go_enter Try.func5, Try.ntmps5
  go_wp2_with fail
  refine (bytes12_any s t _ (by unfold maxLen; omega) (by unfold maxLen; omega)).mono ?_
  rintro e w' ⟨⟨bb, rfl⟩, hw⟩
  subst w'
  cases bb with
  | false =>
    go_wp2
    go_ret
    exact ⟨rfl, Grown.refl _⟩
  | true =>
  go_wp2_with fail
  refine (hasSlash13_any s _ hs).mono ?_
  rintro e w' ⟨⟨bb, rfl, hno⟩, hw⟩
  subst w'
  cases bb with
  | true =>
    clear hno
    go_wp2
    go_ret
    exact ⟨rfl, Grown.refl _⟩
  | false =>
  have HN := hide (hno rfl)
  clear hno
  go_wp2_with fail
  refine (scope14_any s t _).mono ?_
  rintro e w1 ⟨rfl, hg1⟩
  have G1 := hide hg1
  clear hg1
  go_wp2_with fail
  refine (string15_both s t hs ht hne _).mono ?_
  rintro e w2 ⟨rfl, hg2⟩
  have G2 := hide (grown_trans G1.out hg2)
  clear hg2 G1
  have S1 := hide (out_size s t)
  have S2 : Hid (∀ j (h : j < (s ++ { data := #[47] } ++ t).size), j < s.size → ((((s ++ { data := #[47] } ++ t)[j]'h).toNat : Int) == 47) = false) := fun j h hj => by
    rw [out_left s t j h hj]; exact HN.out j hj hj
  have S3 : Hid (∀ h : s.size < (s ++ { data := #[47] } ++ t).size, ((((s ++ { data := #[47] } ++ t)[s.size]'h).toNat : Int) == 47) = true) := fun h => by
    rw [out_mid s t h]; rfl
  have S4 := hide (out_cut s t)
  have S5 := hide (out_rest s t)
  clear HN
  generalize s ++ { data := #[47] } ++ t = out at *
  have z1 : out.size = s.size + 1 + t.size := S1.out
  have z2 : out.size ≤ 131073 := by omega
  have z3 : s.size < out.size := by omega
  clear z1
  go_wp2_with fail
  go_loop [6, 7] (fun c i => ∃ k : Nat, k ≤ s.size ∧ c = .int .i64 (-1) ∧ i = .int .i64 k) (fun _ i => s.size + 1 - (intOf i).toNat)
  case atStart => exact ⟨0, by omega, rfl, rfl⟩
  case round =>
    obtain ⟨k, hk, rfl, rfl⟩ := hrel
    by_cases hlt : k < s.size
    · have hlo : k < out.size := by omega
      have hc := S2.out k hlo hlt
      go_wp2
      go_round
      case rel => exact ⟨k + 1, by omega, rfl, by go_num⟩
      case measure => simp [intOf]; omega
    · obtain rfl : k = s.size := by omega
      have hc := S3.out z3
      have e1 : ((out.extract 0 s.size).toList == s.toList) = true := by rw [S4.out]; simp
      have e2 : ((out.extract (s.size + 1) out.size).toList == t.toList) = true := by rw [S5.out]; simp
      go_wp2
      go_ret
      exact ⟨rfl, G2.out⟩

set_option maxRecDepth 100000 in
set_option maxHeartbeats 2000000 in
/-- A text of more than 65536 bytes: true at once. -/
theorem walk_big (s t : ByteArray) (hs : s.size ≤ maxLen) (ht : t.size ≤ maxLen) (h : ¬ (s.size ≤ 65536 ∧ t.size ≤ 65536)) (w : World) :
    Calls Try.prog 5 #[.string s, .string t] w fun e w' => e = .returned (.bool true) ∧ Grown w w' := by
  have key : ∀ b1 b2 : Bool, decide ((65536 : Int) < s.size) = b1 → decide ((65536 : Int) < t.size) = b2 → (b1 || b2) = true →
      Calls Try.prog 5 #[.string s, .string t] w fun e w' => e = .returned (.bool true) ∧ Grown w w' := by
    intro b1 b2 e1 e2 hb
    have HS := hide hs
    have HT := hide ht
    clear h hs ht
    go_enter Try.func5, Try.ntmps5
    go_wp2_with fail
    refine (bytes12_any s t _ HS.out HT.out).mono ?_
    rintro e w' ⟨⟨bb, rfl⟩, hw⟩
    subst w'
    cases bb with
    | false =>
      go_wp2
      go_ret
      exact ⟨rfl, Grown.refl _⟩
    | true =>
      cases b1
      · cases b2
        · cases hb
        · go_wp2
          go_ret
          exact ⟨rfl, Grown.refl _⟩
      · go_wp2
        go_ret
        exact ⟨rfl, Grown.refl _⟩
  refine key _ _ rfl rfl ?_
  simp
  omega

theorem walk (s t : ByteArray) (hs : s.size ≤ maxLen) (ht : t.size ≤ maxLen) (w : World) :
    Calls Try.prog 5 #[.string s, .string t] w fun e w' => e = .returned (.bool true) ∧ Grown w w' := by
  by_cases h : s.size ≤ 65536 ∧ t.size ≤ 65536
  · cases hne : t.toList.isEmpty with
    | true => exact walk_bare s t h.1 h.2 hne w
    | false => exact walk_both s t h.1 h.2 hne w
  · exact walk_big s t hs ht h w
end Go.Proofs.Qxb6605350a.Scope
