/-
  THE WALK of FnCountSentTalliesAScript (7).
-/
import Derived.Test.Qxb6605321aTallyInv
import Derived.Deep.RegionHeld3
import Derived.Deep.DeepCutAuto
namespace Go.Proofs.Qxb6605321a.Tallies
open Go.ChangeShapes Go.WideShapes Go.ChangeAt Go.RowKit
open Go.Proofs.Qxb6605321a.Count

def z50 : Array Value := Array.replicate 256 (.int .u64 0)
theorem z50_info : (Try.prog.info? 50).map (fun i => (i.zero, i.size)) = some (some (.agg z50), 256) := by kernel_rfl

theorem hide {p : Prop} (h : p) : Hid p := h

theorem Given.kept {w w' : World} {a : Option Addr} {n cap : Nat} {f : Nat → Value} (h : Given w a n cap f) (hb : Below w.heap.size w w') : Given w' a n cap f := by
  rcases h with h | ⟨x, ha, hl, hm, hc⟩
  · exact .inl h
  · exact .inr ⟨x, ha, hl, hm, fun j hj => by
      have h0 := hc j hj
      rw [hb.cell (World.block_lt_of_cell? w _ h0)]; exact h0⟩

theorem new_block (W : World) (o : Obj) (n : Nat) (h : W.heap.size = n) : (W.alloc o).heap[n]? = some o := by
  subst h; show (W.heap.push o)[W.heap.size]? = _; simp
theorem old_block {W : World} {o o' : Obj} {n : Nat} (h : W.heap[n]? = some o') : (W.alloc o).heap[n]? = some o' :=
  (Below.heap_alloc W o n (Array.getElem?_eq_some_iff.1 h).1).trans h
theorem below_block {W w1 : World} {b B : Nat} {o : Obj} (h : W.heap[b]? = some o) (hb : Below B W w1) (hlt : b < B) : w1.heap[b]? = some o := (hb.block b hlt).trans h

set_option maxRecDepth 100000 in
set_option maxHeartbeats 2000000 in
theorem walk_in (x0 x1 x2 x3 x4 x5 : Int) (a1 a2 a3 : Option Addr) (l1 c1 l2 c2 l3 c3 : Nat) (K O : Nat → Int) (C : Nat → Bool) (w : World)
    (hK : ∀ j, j < l1 → 0 ≤ K j ∧ K j ≤ 255)
    (y0 : 0 ≤ x0 ∧ x0 ≤ 18446744073709551615) (y2 : 0 ≤ x2 ∧ x2 ≤ 18446744073709551615) (y3 : 0 ≤ x3 ∧ x3 ≤ 18446744073709551615) (y4 : 0 ≤ x4 ∧ x4 ≤ 18446744073709551615) (y5 : 0 ≤ x5 ∧ x5 ≤ 18446744073709551615)
    (h1 : l1 ≤ 65536) (h2 : l2 ≤ 65536) (h3 : l3 ≤ 65536)
    (g1 : Given w a1 l1 c1 (fun j => .int .u8 (K j))) (g2 : Given w a2 l2 c2 (fun j => .int .u8 (O j))) (g3 : Given w a3 l3 c3 (fun j => .bool (C j))) :
    Calls Try.prog 7 #[.agg #[.int .u64 x0, .int .u64 x1, .int .u64 x2, .int .u64 x3, .int .u64 x4, .int .u64 x5], .slice a1 l1 c1, .slice a2 l2 c2, .slice a3 l3 c3] w fun e w' =>
      e = .returned (.bool true) ∧ Below w.heap.size w w' := by
  have TZ : Hid (T6 x0 x1 x2 x3 x4 x5 = TT K O C x0 x1 x2 x3 x4 x5 0) := TT_zero K O C x0 x1 x2 x3 x4 x5 y0.1 y0.2 y2.1 y2.2 y3.1 y3.2 y4.1 y4.2 y5.1 y5.2
  have HKB : Hid (∀ j, j < l1 → 0 ≤ K j ∧ K j ≤ 255) := hK
  clear hK y0 y2 y3 y4 y5
  have q1 : decide ((65536 : Int) < l1) = false := by simp; omega
  have q2 : decide ((65536 : Int) < l2) = false := by simp; omega
  have q3 : decide ((65536 : Int) < l3) = false := by simp; omega
  have hz : ∀ w, (zeroValue 50).run Try.prog w = .ok (.agg z50) w := (zero_of_info z50_info).1
  have G1 : Hid (Given w a1 l1 c1 (fun j => .int .u8 (K j))) := g1
  have G2 : Hid (Given w a2 l2 c2 (fun j => .int .u8 (O j))) := g2
  have G3 : Hid (Given w a3 l3 c3 (fun j => .bool (C j))) := g3
  clear g1 g2 g3
  go_enter Try.func7, Try.ntmps7
  go_wp2_with fail
  refine (bytes_any _ a1 a2 a3 l1 c1 l2 c2 l3 c3 (by unfold maxLen; omega) (by unfold maxLen; omega) (by unfold maxLen; omega) _).mono ?_
  rintro e w' ⟨⟨bb, rfl⟩, cc, rfl⟩
  cases bb with
  | false =>
    go_wp2
    go_ret
    exact ⟨rfl, by go_grown⟩
  | true =>
  go_wp2_with fail
  have B0 : Below w.heap.size w ((w.alloc (.cells #[.int .u64 x0, .int .u64 x1, .int .u64 x2, .int .u64 x3, .int .u64 x4, .int .u64 x5] 42)).alloc (.cells cc 42)) := by go_grown
  have k0 : ((w.alloc (.cells #[.int .u64 x0, .int .u64 x1, .int .u64 x2, .int .u64 x3, .int .u64 x4, .int .u64 x5] 42)).alloc (.cells cc 42)).heap[w.heap.size]? = some (.cells #[.int .u64 x0, .int .u64 x1, .int .u64 x2, .int .u64 x3, .int .u64 x4, .int .u64 x5] 42) := old_block (new_block _ _ _ rfl)
  generalize hW0 : (w.alloc (.cells #[.int .u64 x0, .int .u64 x1, .int .u64 x2, .int .u64 x3, .int .u64 x4, .int .u64 x5] 42)).alloc (.cells cc 42) = W0 at *
  clear hW0
  refine (clone24_any a1 l1 c1 K W0 h1 (G1.out.kept B0)).mono ?_
  rintro e W1 ⟨b1, d1, rfl, B1, o1⟩
  have O1 : Hid (Own W1 b1 l1 (fun j => .int .u8 (K j))) := o1
  have B1' : Below w.heap.size w W1 := B0.trans (B1.mono B0.size)
  have k1 := below_block k0 B1 (Array.getElem?_eq_some_iff.1 k0).1
  have HK1 := hide k1
  clear o1 k0 k1 B1
  go_wp2_with fail
  refine (clone24_any a2 l2 c2 O W1 h2 (G2.out.kept B1')).mono ?_
  rintro e W2 ⟨b2, d2, rfl, B2, o2⟩
  have O1' : Hid (Own W2 b1 l1 (fun j => .int .u8 (K j))) := O1.out.kept B2
  have O2 : Hid (Own W2 b2 l2 (fun j => .int .u8 (O j))) := o2
  have B2' : Below w.heap.size w W2 := B1'.trans (B2.mono B1'.size)
  have k2 := below_block HK1.out B2 (Array.getElem?_eq_some_iff.1 HK1.out).1
  have HK2 := hide k2
  clear o2 k2 B2 HK1 O1 B1' B0
  go_wp2_with fail
  refine (clone25_any a3 l3 c3 C W2 h3 (G3.out.kept B2')).mono ?_
  rintro e W3 ⟨b3, d3, rfl, B3, o3⟩
  have P1 : Hid (Own W3 b1 l1 (fun j => .int .u8 (K j))) := O1'.out.kept B3
  have P2 : Hid (Own W3 b2 l2 (fun j => .int .u8 (O j))) := O2.out.kept B3
  have P3 : Hid (Own W3 b3 l3 (fun j => .bool (C j))) := o3
  have B3' : Below w.heap.size w W3 := B2'.trans (B3.mono B2'.size)
  have k3 := below_block HK2.out B3 (Array.getElem?_eq_some_iff.1 HK2.out).1
  have ck : ∀ j, W3.cell? ⟨w.heap.size, j, none⟩ = (#[Value.int .u64 x0, .int .u64 x1, .int .u64 x2, .int .u64 x3, .int .u64 x4, .int .u64 x5])[j]? := fun j => cell_of_row W3 _ j _ _ _ k3
  have HK3 := hide k3
  clear o3 k3 B3 HK2 O1' O2 B2'
  have z3 : w.heap.size < W3.heap.size := (Array.getElem?_eq_some_iff.1 HK3.out).1
  go_upto_if 47 with fail
  go_cut [9] (fun n wx => n = .int .i64 ((min l1 l2 : Nat) : Int) ∧ W3 = wx)
  case first =>
    by_cases c : l2 < l1
    · go_wp2
      go_meet
      case rel => exact ⟨by rw [Nat.min_eq_right (by omega)], rfl⟩
    · go_wp2
      go_meet
      case rel => exact ⟨by rw [Nat.min_eq_left (by omega)], rfl⟩
  case rest =>
  obtain ⟨rfl, rfl⟩ := hcut
  obtain ⟨m, hm⟩ : ∃ m, min l1 l2 = m := ⟨_, rfl⟩
  rw [hm]
  have hm1 : m ≤ l1 := by omega
  have hm2 : m ≤ l2 := by omega
  clear hm
  go_upto_if 53 with fail
  go_cut [9] (fun n wx => n = .int .i64 ((min m l3 : Nat) : Int) ∧ W3 = wx)
  case first =>
    by_cases c : l3 < m
    · go_wp2
      go_meet
      case rel => exact ⟨by rw [Nat.min_eq_right (by omega)], rfl⟩
    · go_wp2
      go_meet
      case rel => exact ⟨by rw [Nat.min_eq_left (by omega)], rfl⟩
  case rest =>
  obtain ⟨rfl, rfl⟩ := hcut
  obtain ⟨n, hn⟩ : ∃ n, min m l3 = n := ⟨_, rfl⟩
  rw [hn]
  have hn1 : n ≤ l1 := by omega
  have hn2 : n ≤ l2 := by omega
  have hn3 : n ≤ l3 := by omega
  clear hn hm1 hm2
  go_wp2_with fail
  refine (toTraffic_any x0 x1 x2 x3 x4 x5 _).mono ?_
  rintro e w' ⟨rfl, e1, e2, rfl⟩
  go_wp2_with fail
  clear hz q1 q2 q3 G1 G2 G3
  have hI : Inv W3 K O C x0 x1 x2 x3 x4 x5 (((((W3.alloc (.cells e1 42)).alloc (.cells e2 48)).alloc (.cells #[.int .u64 x0, .int .u64 x1, .int .u64 x2, .int .u64 x3, .int .u64 x4, .int .u64 x5] 48)).alloc (.cells z50 50)).alloc (.cells z50 50)) 0 0 0 := by
    refine ⟨by go_grown, by simp, ?_, ⟨z50, old_block (new_block _ _ _ (by simp)), by simp [z50], ?_⟩, ⟨z50, new_block _ _ _ (by simp), by simp [z50], ?_⟩⟩
    · rw [← TZ.out]; exact old_block (old_block (new_block _ _ _ (by simp)))
    · intro j hj; simp [z50, hj, N]
    · intro j hj; simp [z50, hj, L]
  have HI := hide hI
  clear hI
  go_loopw [13] (fun t wr => ∃ k : Nat, k ≤ n ∧ t = .int .i64 k ∧ Inv W3 K O C x0 x1 x2 x3 x4 x5 wr k k k) (fun t _ => n - (intOf t).toNat)
  case atStart => exact ⟨0, by omega, rfl, HI.out⟩
  case round =>
    clear HI
    obtain ⟨k, hk, rfl, hI⟩ := hrel
    by_cases hlt : k < n
    · obtain ⟨s1, rfl, t1, u1⟩ := P1.out.cell (k := k) (by omega)
      obtain ⟨s2, rfl, t2, u2⟩ := P2.out.cell (k := k) (by omega)
      obtain ⟨s3, rfl, t3, u3⟩ := P3.out.cell (k := k) (by omega)
      obtain ⟨m, hm⟩ := Int.eq_ofNat_of_zero_le (HKB.out k (by omega)).1
      have hm' : m < 256 := by have := (HKB.out k (by omega)).2; omega
      rw [hm] at u1
      have v1 : wr.cell? ⟨s1, k, none⟩ = some (.int .u8 (m : Int)) := by rw [hI.below.cell (p := ⟨s1, k, none⟩) t1]; exact u1
      have v2 : wr.cell? ⟨s2, k, none⟩ = some (.int .u8 (O k)) := by rw [hI.below.cell (p := ⟨s2, k, none⟩) t2]; exact u2
      have v3 : wr.cell? ⟨s3, k, none⟩ = some (.bool (C k)) := by rw [hI.below.cell (p := ⟨s3, k, none⟩) t3]; exact u3
      have i1 : (k : Int) < l1 := by omega
      have i2 : (k : Int) < l2 := by omega
      have i3 : (k : Int) < l3 := by omega
      have HM := hide hm
      have HII := hide hI
      clear u1 u2 u3 hm hI P1 P2 P3 HKB
      have n1 : some s1 ≠ some (W3.heap.size + 1 + 1) := by intro e; have := Option.some.inj e; omega
      have n2 : some s2 ≠ some (W3.heap.size + 1 + 1) := by intro e; have := Option.some.inj e; omega
      have n3 : some s3 ≠ some (W3.heap.size + 1 + 1) := by intro e; have := Option.some.inj e; omega
      have N1 := hide n1
      have N2 := hide n2
      have N3 := hide n3
      clear n1 n2 n3
      go_upto_region 19 with fail
      go_region_held3 (fun w' => w'.cell? ⟨s1, k, none⟩ = some (.int .u8 (m : Int)) ∧ w'.cell? ⟨s2, k, none⟩ = some (.int .u8 (O k)) ∧ w'.cell? ⟨s3, k, none⟩ = some (.bool (C k)))
        (first | (exact ⟨v1, v2, v3⟩) | (exact ⟨hg.cell v1 N1.out, hg.cell v2 N2.out, hg.cell v3 N3.out⟩))
        ((go_at_call 27; refine (count_step (W3.heap.size + 1 + 1) k m HM.out hm' _ (by exact HII.out.tt)).mono ?_; rintro e w1 ⟨rfl, hg, ht⟩))
      rename_i hH
      obtain ⟨f1, f2, f3⟩ := hH
      have J := hide (HII.out.drew.call hg ht)
      clear v1 v2 v3 HII N1 N2 N3 hg ht ck HK3 TZ
      have r1 : W3.heap.size + 1 + 1 + 1 ≠ s1 := by omega
      have r2 : W3.heap.size + 1 + 1 + 1 ≠ s2 := by omega
      have hcn : Hid (cnt (K k) (C k) = !((m : Int) == 3 && C k)) := by unfold cnt; rw [HM.out]; rfl
      by_cases cA : ((m : Int) == 3 && C k) = true
      · obtain ⟨cm, cc3⟩ := Bool.and_eq_true_iff.1 cA
        rw [cc3] at f3
        have J2 := hide (J.out.skip (by rw [hcn.out, cA]; rfl))
        clear cA cc3 J hcn
        go_wp2
        go_roundw
        case rel => exact ⟨k + 1, by omega, by go_num, J2.out⟩
        case measure => simp [intOf]; omega
      · have cT : cnt (K k) (C k) = true := by rw [hcn.out]; cases h : ((m : Int) == 3 && C k) with
          | false => rfl
          | true => exact absurd h cA
        have J2 := hide (J.out.count cT HM.out hm')
        have e1 := J.out.cc.cell hm'
        have e2 := J.out.cc.frozen m
        have e3 := J.out.ll.cell hm'
        have e4 := J.out.ll.frozen m
        have J3 := hide (fun h => J2.out.look cT h HM.out hm')
        have b1 : N K C k m ≤ 65536 := Nat.le_trans (N_le K C k m) (by omega)
        have b2 : L K O C k m ≤ 65536 := Nat.le_trans (L_le K O C k m) (by omega)
        generalize N K C k m = nv at *
        generalize L K O C k m = lv at *
        have hd : ((m : Int) == 3) = false ∨ (((m : Int) == 3) = true ∧ C k = false) := by
          cases h : ((m : Int) == 3) with
          | false => exact .inl rfl
          | true => exact .inr ⟨rfl, by simpa [h] using cA⟩
        clear cA cT J hcn
        rcases hd with hd | ⟨hd, hd2⟩
        · by_cases ho : (O k == 3) = true
          · have J4 := hide (J3.out ho)
            clear J2 J3
            go_wp2
            go_roundw
            case rel => exact ⟨k + 1, by omega, by go_num, J4.out⟩
            case measure => simp [intOf]; omega
          · have ho' : (O k == 3) = false := by simpa using ho
            have J4 := hide (J2.out.nolook ho')
            clear J2 J3 ho
            go_wp2
            go_roundw
            case rel => exact ⟨k + 1, by omega, by go_num, J4.out⟩
            case measure => simp [intOf]; omega
        · rw [hd2] at f3
          clear hd2
          by_cases ho : (O k == 3) = true
          · have J4 := hide (J3.out ho)
            clear J2 J3
            go_wp2
            go_roundw
            case rel => exact ⟨k + 1, by omega, by go_num, J4.out⟩
            case measure => simp [intOf]; omega
          · have ho' : (O k == 3) = false := by simpa using ho
            have J4 := hide (J2.out.nolook ho')
            clear J2 J3 ho
            go_wp2
            go_roundw
            case rel => exact ⟨k + 1, by omega, by go_num, J4.out⟩
            case measure => simp [intOf]; omega
    · obtain rfl : k = n := by omega
      have ck' : ∀ j, wr.cell? ⟨w.heap.size, j, none⟩ = (#[Value.int .u64 x0, .int .u64 x1, .int .u64 x2, .int .u64 x3, .int .u64 x4, .int .u64 x5])[j]? := fun j => by
        rw [hI.below.cell (p := ⟨w.heap.size, j, none⟩) z3]; exact ck j
      have ct : ∀ j, wr.cell? ⟨W3.heap.size + 1 + 1, j, none⟩ = (#[Value.int .u64 (IntKind.u64.wrap (x0 + (sumTo (N K C k) 256 : Nat))), .int .u64 x1, .int .u64 (IntKind.u64.wrap (x2 + (N K C k 13 : Nat))), .int .u64 (IntKind.u64.wrap (x3 + (N K C k 16 : Nat))), .int .u64 (IntKind.u64.wrap (x4 + (sumTo (LL K O C k) 256 : Nat))), .int .u64 (IntKind.u64.wrap (x5 + (N K C k 17 : Nat)))])[j]? := fun j => cell_of_row wr _ j _ _ _ hI.tt
      have cc13 := hI.cc.cell (j := 13) (by omega)
      have cc16 := hI.cc.cell (j := 16) (by omega)
      have cc17 := hI.cc.cell (j := 17) (by omega)
      have HI := hide hI
      have BB := hide (B3'.trans (hI.below.mono B3'.size))
      clear hI ck HK3 TZ P1 P2 P3 B3'
      have HCT := hide ct
      have HCK := hide ck'
      clear ct ck'
      go_wp2_with fail
      go_loop [14, 15, 16] (fun s l t => ∃ j : Nat, j ≤ 256 ∧ s = .int .u64 ((sumTo (N K C k) j : Nat) : Int) ∧ l = .int .u64 ((sumTo (LL K O C k) j : Nat) : Int) ∧ t = .int .i64 j) (fun _ _ t => 256 - (intOf t).toNat)
      case atStart => exact ⟨0, by omega, rfl, rfl, rfl⟩
      case round =>
        obtain ⟨j, hj, rfl, rfl, rfl⟩ := hrel
        by_cases hlt2 : j < 256
        · have g1 := HI.out.cc.cell hlt2
          have g2 := HI.out.ll.cell hlt2
          have S1 : Hid (sumTo (N K C k) (j + 1) = sumTo (N K C k) j + N K C k j) := rfl
          have S2 : Hid (sumTo (LL K O C k) (j + 1) = sumTo (LL K O C k) j + LL K O C k j) := rfl
          have S3 : Hid (LL K O C k j = if plain j then L K O C k j else 0) := rfl
          have b1 : N K C k j ≤ 65536 := Nat.le_trans (N_le K C k j) (by omega)
          have b2 : L K O C k j ≤ 65536 := Nat.le_trans (L_le K O C k j) (by omega)
          have b3 : sumTo (N K C k) j ≤ 16777216 := Nat.le_trans (sumTo_le _ 65536 (fun i => Nat.le_trans (N_le K C k i) (by omega)) j) (by omega)
          have b4 : sumTo (LL K O C k) j ≤ 16777216 := Nat.le_trans (sumTo_le _ 65536 (fun i => Nat.le_trans (LL_le K O C k i) (by omega)) j) (by omega)
          clear cc13 cc16 cc17 HI
          generalize N K C k j = nv at *
          generalize L K O C k j = lv at *
          generalize sumTo (N K C k) j = sn at *
          generalize sumTo (LL K O C k) j = sl at *
          cases hp : plain j with
          | true =>
            rw [hp, if_pos rfl] at S3
            rw [S3.out] at S2
            have hp2 : (((j : Int) == 13) = false ∧ ((j : Int) == 16) = false) ∧ ((j : Int) == 17) = false := by simpa [plain] using hp
            obtain ⟨⟨p1, p2⟩, p3⟩ := hp2
            have p1' : ((j : Int) != 13) = true := by simp [bne, p1]
            have p2' : ((j : Int) != 16) = true := by simp [bne, p2]
            have p3' : ((j : Int) != 17) = true := by simp [bne, p3]
            clear hp p1 p2 p3 S3
            go_wp2
            go_round
            case rel => exact ⟨j + 1, by omega, by rw [S1.out]; go_num, by rw [S2.out]; go_num, by go_num⟩
            case measure => simp [intOf]; omega
          | false =>
            rw [hp] at S3
            rw [S3.out] at S2
            have hp2 : j = 13 ∨ j = 16 ∨ j = 17 := by
              by_cases e1 : j = 13
              · exact .inl e1
              · by_cases e2 : j = 16
                · exact .inr (.inl e2)
                · by_cases e3 : j = 17
                  · exact .inr (.inr e3)
                  · have : plain j = true := by simp [plain]; omega
                    rw [this] at hp; cases hp
            clear hp S3
            rcases hp2 with rfl | rfl | rfl
            · go_wp2
              go_round
              case rel => exact ⟨13 + 1, by omega, by rw [S1.out]; go_num, by rw [S2.out]; rfl, by rfl⟩
              case measure => simp [intOf]
            · go_wp2
              go_round
              case rel => exact ⟨16 + 1, by omega, by rw [S1.out]; go_num, by rw [S2.out]; rfl, by rfl⟩
              case measure => simp [intOf]
            · go_wp2
              go_round
              case rel => exact ⟨17 + 1, by omega, by rw [S1.out]; go_num, by rw [S2.out]; rfl, by rfl⟩
              case measure => simp [intOf]
        · obtain rfl : j = 256 := by omega
          have ct := HCT.out
          have ck' := HCK.out
          clear HCT HCK
          generalize N K C k 13 = n13 at *
          generalize N K C k 16 = n16 at *
          generalize N K C k 17 = n17 at *
          generalize sumTo (N K C k) 256 = sn at *
          generalize sumTo (LL K O C k) 256 = sl at *
          go_wp2
          go_ret
          exact ⟨rfl, BB.out⟩
end Go.Proofs.Qxb6605321a.Tallies
