/-
  THE TWO GUARDS of FnModelRoleHandsOutAPermissionListOfItsOwn: its length guard (16), rolesFitB1 (17).
-/
import Derived.Test.Qxb6605350aRoleSmall
namespace Go.Proofs.Qxb6605350a.Role
open Go.ChangeShapes Go.WideShapes Go.ChangeAt Go.RowKit
open Go.Proofs.Qxb6605350a.SM

/-- What the length guard tells. -/
def Small (n n5 : Nat) (L : Nat → Nat) (P : Nat → Nat → ByteArray) : Prop :=
  n ≤ 1048576 ∧ n5 ≤ 1048576 ∧ ∀ i, i < n5 → L i ≤ 1048576 ∧ ∀ j, j < L i → (P i j).size ≤ 1048576

theorem dt {p : Prop} [Decidable p] (h : p) : decide p = true := by simp [h]
theorem df {p : Prop} [Decidable p] (h : ¬ p) : decide p = false := by simp [h]

set_option maxRecDepth 100000 in
set_option maxHeartbeats 4000000 in
theorem bytes16_any (a0 a1 a2 a3 a4 a5 : Option Addr) (n0 c0 n1 c1 n2 c2 n3 c3 n4 c4 n5 c5 : Nat) (f0 f1 f2 f3 : Nat → ByteArray) (A : Nat → Option Addr) (L C : Nat → Nat) (P : Nat → Nat → ByteArray) (q : ByteArray) (w : World)
    (h0 : Row w a0 n0 (fun j => .string (f0 j))) (h1 : Row w a1 n1 (fun j => .string (f1 j))) (h2 : Row w a2 n2 (fun j => .string (f2 j))) (h3 : Row w a3 n3 (fun j => .string (f3 j)))
    (h5 : Perms w a5 n5 A L C P) (hn4 : n4 ≤ maxLen) (hq : q.size ≤ maxLen) :
    Calls Try.prog 16 #[.slice a0 n0 c0, .slice a1 n1 c1, .slice a2 n2 c2, .slice a3 n3 c3, .slice a4 n4 c4, .slice a5 n5 c5, .string q] w fun e w' => Told e (Small n0 n5 L P) ∧ w' = w := by
  unfold maxLen at hn4 hq
  have H0 := hide h0
  have H1 := hide h1
  have H2 := hide h2
  have H3 := hide h3
  have H5 := hide h5
  clear h0 h1 h2 h3 h5
  by_cases e0 : (1048576 : Int) < n0
  · have e0' := dt e0
    go_enter Try.func16, Try.ntmps16
    go_wp2
    go_ret
    exact ⟨Told.no, rfl⟩
  have e0' := df e0
  go_enter Try.func16, Try.ntmps16
  go_wp2_with fail
  go_loop [15, 16] (fun t i => ∃ (k : Nat) (z : Int), k ≤ n0 ∧ i = .int .i64 k ∧ t = .int .i64 z ∧ 0 ≤ z ∧ z ≤ 1048576) (fun _ i => n0 - (intOf i).toNat)
  case atStart => exact ⟨0, (n0 : Int), by omega, rfl, rfl, by omega, by omega⟩
  case round =>
    obtain ⟨k0, z0, hk0, rfl, rfl, hz0, hy0⟩ := hrel
    by_cases hlt0 : k0 < n0
    · obtain ⟨b, off, rfl, hb, hc⟩ := H0.out.cell hlt0
      have hi : (k0 : Int) < n0 := by omega
      generalize f0 k0 = s at hc
      by_cases c1 : (1048576 : Int) < s.size
      · go_wp2
        go_ret
        exact ⟨Told.no, rfl⟩
      · by_cases c2 : (1048576 : Int) < z0 + s.size
        · go_wp2
          go_ret
          exact ⟨Told.no, rfl⟩
        · go_wp2
          go_round
          case rel => exact ⟨k0 + 1, _, by omega, by go_num, rfl, by omega, by omega⟩
          case measure => simp [intOf]; omega
    · have hx0 : ¬ (k0 : Int) < n0 := by omega
      by_cases e1 : (1048576 : Int) < n1
      · have e1' := dt e1
        go_wp2
        go_ret
        exact ⟨Told.no, rfl⟩
      have e1' := df e1
      by_cases g1 : (1048576 : Int) < z0 + n1
      · have g1' := dt g1
        go_wp2
        go_ret
        exact ⟨Told.no, rfl⟩
      have g1' := df g1
      go_wp2_with fail
      go_loop [15, 17] (fun t i => ∃ (k : Nat) (z : Int), k ≤ n1 ∧ i = .int .i64 k ∧ t = .int .i64 z ∧ 0 ≤ z ∧ z ≤ 1048576) (fun _ i => n1 - (intOf i).toNat)
      case atStart => exact ⟨0, z0 + n1, by omega, rfl, rfl, by omega, by omega⟩
      case round =>
        obtain ⟨k1, z1, hk1, rfl, rfl, hz1, hy1⟩ := hrel
        by_cases hlt1 : k1 < n1
        · obtain ⟨b, off, rfl, hb, hc⟩ := H1.out.cell hlt1
          have hi : (k1 : Int) < n1 := by omega
          generalize f1 k1 = s at hc
          by_cases c1 : (1048576 : Int) < s.size
          · go_wp2
            go_ret
            exact ⟨Told.no, rfl⟩
          · by_cases c2 : (1048576 : Int) < z1 + s.size
            · go_wp2
              go_ret
              exact ⟨Told.no, rfl⟩
            · go_wp2
              go_round
              case rel => exact ⟨k1 + 1, _, by omega, by go_num, rfl, by omega, by omega⟩
              case measure => simp [intOf]; omega
        · have hx1 : ¬ (k1 : Int) < n1 := by omega
          by_cases e2 : (1048576 : Int) < n2
          · have e2' := dt e2
            go_wp2
            go_ret
            exact ⟨Told.no, rfl⟩
          have e2' := df e2
          by_cases g2 : (1048576 : Int) < z1 + n2
          · have g2' := dt g2
            go_wp2
            go_ret
            exact ⟨Told.no, rfl⟩
          have g2' := df g2
          go_wp2_with fail
          go_loop [15, 18] (fun t i => ∃ (k : Nat) (z : Int), k ≤ n2 ∧ i = .int .i64 k ∧ t = .int .i64 z ∧ 0 ≤ z ∧ z ≤ 1048576) (fun _ i => n2 - (intOf i).toNat)
          case atStart => exact ⟨0, z1 + n2, by omega, rfl, rfl, by omega, by omega⟩
          case round =>
            obtain ⟨k2, z2, hk2, rfl, rfl, hz2, hy2⟩ := hrel
            by_cases hlt2 : k2 < n2
            · obtain ⟨b, off, rfl, hb, hc⟩ := H2.out.cell hlt2
              have hi : (k2 : Int) < n2 := by omega
              generalize f2 k2 = s at hc
              by_cases c1 : (1048576 : Int) < s.size
              · go_wp2
                go_ret
                exact ⟨Told.no, rfl⟩
              · by_cases c2 : (1048576 : Int) < z2 + s.size
                · go_wp2
                  go_ret
                  exact ⟨Told.no, rfl⟩
                · go_wp2
                  go_round
                  case rel => exact ⟨k2 + 1, _, by omega, by go_num, rfl, by omega, by omega⟩
                  case measure => simp [intOf]; omega
            · have hx2 : ¬ (k2 : Int) < n2 := by omega
              by_cases e3 : (1048576 : Int) < n3
              · have e3' := dt e3
                go_wp2
                go_ret
                exact ⟨Told.no, rfl⟩
              have e3' := df e3
              by_cases g3 : (1048576 : Int) < z2 + n3
              · have g3' := dt g3
                go_wp2
                go_ret
                exact ⟨Told.no, rfl⟩
              have g3' := df g3
              go_wp2_with fail
              go_loop [15, 19] (fun t i => ∃ (k : Nat) (z : Int), k ≤ n3 ∧ i = .int .i64 k ∧ t = .int .i64 z ∧ 0 ≤ z ∧ z ≤ 1048576) (fun _ i => n3 - (intOf i).toNat)
              case atStart => exact ⟨0, z2 + n3, by omega, rfl, rfl, by omega, by omega⟩
              case round =>
                obtain ⟨k3, z3, hk3, rfl, rfl, hz3, hy3⟩ := hrel
                by_cases hlt3 : k3 < n3
                · obtain ⟨b, off, rfl, hb, hc⟩ := H3.out.cell hlt3
                  have hi : (k3 : Int) < n3 := by omega
                  generalize f3 k3 = s at hc
                  by_cases c1 : (1048576 : Int) < s.size
                  · go_wp2
                    go_ret
                    exact ⟨Told.no, rfl⟩
                  · by_cases c2 : (1048576 : Int) < z3 + s.size
                    · go_wp2
                      go_ret
                      exact ⟨Told.no, rfl⟩
                    · go_wp2
                      go_round
                      case rel => exact ⟨k3 + 1, _, by omega, by go_num, rfl, by omega, by omega⟩
                      case measure => simp [intOf]; omega
                · have hx3 : ¬ (k3 : Int) < n3 := by omega
                  by_cases e4 : (1048576 : Int) < n4
                  · have e4' := dt e4
                    go_wp2
                    go_ret
                    exact ⟨Told.no, rfl⟩
                  have e4' := df e4
                  by_cases g4 : (1048576 : Int) < z3 + n4
                  · have g4' := dt g4
                    go_wp2
                    go_ret
                    exact ⟨Told.no, rfl⟩
                  have g4' := df g4
                  by_cases e5 : (1048576 : Int) < n5
                  · have e5' := dt e5
                    go_wp2
                    go_ret
                    exact ⟨Told.no, rfl⟩
                  have e5' := df e5
                  by_cases g5 : (1048576 : Int) < z3 + n4 + n5
                  · have g5' := dt g5
                    go_wp2
                    go_ret
                    exact ⟨Told.no, rfl⟩
                  have g5' := df g5
                  go_wp2_with fail
                  go_loop [15, 20, 21] (fun t i _ => ∃ (k : Nat) (z : Int), k ≤ n5 ∧ i = .int .i64 k ∧ t = .int .i64 z ∧ 0 ≤ z ∧ z ≤ 1048576 ∧ ∀ i, i < k → L i ≤ 1048576 ∧ ∀ j, j < L i → (P i j).size ≤ 1048576) (fun _ i _ => n5 - (intOf i).toNat)
                  case atStart => exact ⟨0, z3 + n4 + n5, by omega, rfl, rfl, by omega, by omega, fun i hi => by omega⟩
                  case round =>
                    obtain ⟨k, z, hk, rfl, rfl, hz, hy, hall⟩ := hrel
                    have HALL := hide hall
                    clear hall
                    by_cases hlt : k < n5
                    · obtain ⟨b, off, rfl, hb, hc⟩ := H5.out.row.cell hlt
                      have hi : (k : Int) < n5 := by omega
                      have HROW := hide (H5.out.rows k hlt)
                      by_cases c1 : (1048576 : Int) < L k
                      · go_wp2
                        go_ret
                        exact ⟨Told.no, rfl⟩
                      · by_cases c2 : (1048576 : Int) < z + L k
                        · go_wp2
                          go_ret
                          exact ⟨Told.no, rfl⟩
                        · have c1' := df c1
                          have c2' := df c2
                          go_wp2_with fail
                          go_loop [15, 21] (fun t i => ∃ (m : Nat) (y : Int), m ≤ L k ∧ i = .int .i64 m ∧ t = .int .i64 y ∧ 0 ≤ y ∧ y ≤ 1048576 ∧ ∀ j, j < m → (P k j).size ≤ 1048576) (fun _ i => L k - (intOf i).toNat)
                          case atStart => exact ⟨0, z + L k, by omega, rfl, rfl, by omega, by omega, fun j hj => by omega⟩
                          case round =>
                            obtain ⟨m, y, hm, rfl, rfl, hy0, hy1, hin⟩ := hrel
                            have HIN := hide hin
                            clear hin
                            by_cases hlt2 : m < L k
                            · obtain ⟨b2, off2, e, hb2, hc2⟩ := HROW.out.cell hlt2
                              rw [e] at hc
                              have hi2 : (m : Int) < L k := by omega
                              obtain ⟨s, hs⟩ : ∃ s, P k m = s := ⟨_, rfl⟩
                              rw [hs] at hc2
                              have HS := hide hs
                              clear hs e
                              by_cases c3 : (1048576 : Int) < s.size
                              · go_wp2
                                go_ret
                                exact ⟨Told.no, rfl⟩
                              · by_cases c4 : (1048576 : Int) < y + s.size
                                · go_wp2
                                  go_ret
                                  exact ⟨Told.no, rfl⟩
                                · go_wp2
                                  go_round
                                  case rel => exact ⟨m + 1, _, by omega, by go_num, rfl, by omega, by omega, fun j hj => by
                                    by_cases e : j = m
                                    · subst e; rw [HS.out]; omega
                                    · exact HIN.out j (by omega)⟩
                                  case measure => simp [intOf]; omega
                            · have hx : ¬ (m : Int) < L k := by omega
                              go_wp2
                              go_round
                              case rel => exact ⟨k + 1, _, by omega, by go_num, rfl, by omega, by omega, fun i hi => by
                                by_cases e : i = k
                                · subst e; exact ⟨by omega, fun j hj => HIN.out j (by omega)⟩
                                · exact HALL.out i (by omega)⟩
                              case measure => simp [intOf]; omega
                    · go_wp2
                      all_goals go_ret
                      all_goals first | exact ⟨Told.no, rfl⟩ | exact ⟨Told.yes ⟨by omega, by omega, fun i hi => HALL.out i (by omega)⟩, rfl⟩

set_option maxRecDepth 100000 in
set_option maxHeartbeats 4000000 in
theorem fit17_any (a0 a1 a2 a3 a4 a5 : Option Addr) (n0 c0 n1 c1 n2 c2 n3 c3 n4 c4 n5 c5 : Nat) (f0 f1 f2 f3 : Nat → ByteArray) (A : Nat → Option Addr) (L C : Nat → Nat) (P : Nat → Nat → ByteArray) (q : ByteArray) (w : World)
    (h0 : Row w a0 n0 (fun j => .string (f0 j))) (h1 : Row w a1 n1 (fun j => .string (f1 j))) (h2 : Row w a2 n2 (fun j => .string (f2 j))) (h3 : Row w a3 n3 (fun j => .string (f3 j)))
    (h5 : Perms w a5 n5 A L C P) (hL : ∀ i, i < n5 → L i ≤ 1048576) :
    Calls Try.prog 17 #[.slice a0 n0 c0, .slice a1 n1 c1, .slice a2 n2 c2, .slice a3 n3 c3, .slice a4 n4 c4, .slice a5 n5 c5, .string q] w fun e w' => Told e True ∧ w' = w := by
  have H0 := hide h0
  have H1 := hide h1
  have H2 := hide h2
  have H3 := hide h3
  have H5 := hide h5
  have HL := hide hL
  clear h0 h1 h2 h3 h5 hL
  by_cases d0 : (65536 : Int) < n0
  · have d0' := dt d0
    go_enter Try.func17, Try.ntmps17
    go_wp2
    go_ret
    exact ⟨Told.no, rfl⟩
  have d0' := df d0
  by_cases d1 : (65536 : Int) < n1
  · have d1' := dt d1
    go_enter Try.func17, Try.ntmps17
    go_wp2
    go_ret
    exact ⟨Told.no, rfl⟩
  have d1' := df d1
  by_cases d2 : (65536 : Int) < n2
  · have d2' := dt d2
    go_enter Try.func17, Try.ntmps17
    go_wp2
    go_ret
    exact ⟨Told.no, rfl⟩
  have d2' := df d2
  by_cases d3 : (65536 : Int) < n3
  · have d3' := dt d3
    go_enter Try.func17, Try.ntmps17
    go_wp2
    go_ret
    exact ⟨Told.no, rfl⟩
  have d3' := df d3
  by_cases d4 : (65536 : Int) < n4
  · have d4' := dt d4
    go_enter Try.func17, Try.ntmps17
    go_wp2
    go_ret
    exact ⟨Told.no, rfl⟩
  have d4' := df d4
  by_cases d5 : (65536 : Int) < n5
  · have d5' := dt d5
    go_enter Try.func17, Try.ntmps17
    go_wp2
    go_ret
    exact ⟨Told.no, rfl⟩
  have d5' := df d5
  by_cases d6 : (1048576 : Int) < q.size
  · have d6' := dt d6
    go_enter Try.func17, Try.ntmps17
    go_wp2
    go_ret
    exact ⟨Told.no, rfl⟩
  have d6' := df d6
  go_enter Try.func17, Try.ntmps17
  go_wp2_with fail
  refine (strBytes_any a0 n0 c0 f0 _ H0.out (by omega)).mono ?_
  rintro e w' ⟨⟨t0, rfl, ta0, tb0⟩, hw⟩
  subst w'
  by_cases x0 : (1048576 : Int) < (q.size : Int) + n4 + t0
  · have x0' := dt x0
    go_wp2
    go_ret
    exact ⟨Told.no, rfl⟩
  have x0' := df x0
  go_wp2_with fail
  refine (strBytes_any a1 n1 c1 f1 _ H1.out (by omega)).mono ?_
  rintro e w' ⟨⟨t1, rfl, ta1, tb1⟩, hw⟩
  subst w'
  by_cases x1 : (1048576 : Int) < (q.size : Int) + n4 + t0 + t1
  · have x1' := dt x1
    go_wp2
    go_ret
    exact ⟨Told.no, rfl⟩
  have x1' := df x1
  go_wp2_with fail
  refine (strBytes_any a2 n2 c2 f2 _ H2.out (by omega)).mono ?_
  rintro e w' ⟨⟨t2, rfl, ta2, tb2⟩, hw⟩
  subst w'
  by_cases x2 : (1048576 : Int) < (q.size : Int) + n4 + t0 + t1 + t2
  · have x2' := dt x2
    go_wp2
    go_ret
    exact ⟨Told.no, rfl⟩
  have x2' := df x2
  go_wp2_with fail
  refine (strBytes_any a3 n3 c3 f3 _ H3.out (by omega)).mono ?_
  rintro e w' ⟨⟨t3, rfl, ta3, tb3⟩, hw⟩
  subst w'
  by_cases x3 : (1048576 : Int) < (q.size : Int) + n4 + t0 + t1 + t2 + t3
  · have x3' := dt x3
    go_wp2
    go_ret
    exact ⟨Told.no, rfl⟩
  have x3' := df x3
  go_wp2_with fail
  go_loop [15, 16] (fun t i => ∃ (k : Nat) (z : Int), k ≤ n5 ∧ i = .int .i64 k ∧ t = .int .i64 z ∧ 0 ≤ z ∧ z ≤ 1048576) (fun _ i => n5 - (intOf i).toNat)
  case atStart => exact ⟨0, (q.size : Int) + n4 + t0 + t1 + t2 + t3, by omega, rfl, rfl, by omega, by omega⟩
  case round =>
    obtain ⟨k, z, hk, rfl, rfl, hz, hy⟩ := hrel
    by_cases hlt : k < n5
    · obtain ⟨b, off, rfl, hb, hc⟩ := H5.out.row.cell hlt
      have hi : (k : Int) < n5 := by omega
      have HROW := hide (H5.out.rows k hlt)
      have HLk := HL.out k hlt
      by_cases c1 : (65536 : Int) < L k
      · go_wp2
        go_ret
        exact ⟨Told.no, rfl⟩
      · have c1' := df c1
        go_wp2_with fail
        refine (strBytes_any (A k) (L k) (C k) (P k) _ HROW.out (by omega)).mono ?_
        rintro e w' ⟨⟨t, rfl, ta, tb⟩, hw⟩
        subst w'
        by_cases c2 : (1048576 : Int) < z + (24 + t)
        · go_wp2
          go_ret
          exact ⟨Told.no, rfl⟩
        · go_wp2
          go_round
          case rel => exact ⟨k + 1, _, by omega, by go_num, rfl, by omega, by omega⟩
          case measure => simp [intOf]; omega
    · go_wp2
      go_ret
      exact ⟨Told.yes trivial, rfl⟩
end Go.Proofs.Qxb6605350a.Role
