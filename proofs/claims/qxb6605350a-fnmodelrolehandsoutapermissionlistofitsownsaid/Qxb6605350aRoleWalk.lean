/-
  THE WALK of FnModelRoleHandsOutAPermissionListOfItsOwn (6).
-/
import Derived.Test.Qxb6605350aRolePick
import Derived.Test.Qxb6605350aRoleGuard
namespace Go.Proofs.Qxb6605350a.Role
open Go.ChangeShapes Go.WideShapes Go.ChangeAt Go.RowKit
open Go.Proofs.Qxb6605350a.SM

/-- The list that was handed out, in block g; the role that holds it, in block R: the first k strings have been written over. -/
structure Mid (W : World) (R g wl cap : Nat) (s1 s2 s3 : ByteArray) (b4 : Bool) (wr : World) (k : Nat) : Prop where
  below : Below W.heap.size W wr
  lo : W.heap.size ≤ g
  mid : g < R
  hi : R < wr.heap.size
  rb : wr.heap[R]? = some (.cells #[.string s1, .string s2, .string s3, .bool b4, .slice (some ⟨g, 0, none⟩) wl cap] 47)
  cb : ∃ cur, wr.heap[g]? = some (.cells cur 9) ∧ cur.size = cap ∧ ∀ j, j < wl → ∃ s, cur[j]? = some (.string s) ∧ (k ≤ j → s.size ≤ 1048576)

theorem Mid.kept {W wr w' : World} {R g wl cap k : Nat} {s1 s2 s3 : ByteArray} {b4 : Bool} (h : Mid W R g wl cap s1 s2 s3 b4 wr k) (hb : Below wr.heap.size wr w') : Mid W R g wl cap s1 s2 s3 b4 w' k := by
  obtain ⟨cur, e1, e2, e3⟩ := h.cb
  exact ⟨h.below.trans (hb.mono h.below.size), h.lo, h.mid, Nat.lt_of_lt_of_le h.hi hb.size, (hb.block R h.hi).trans h.rb, cur, (hb.block g (Nat.lt_trans h.mid h.hi)).trans e1, e2, e3⟩

theorem Mid.cell4 {W wr : World} {R g wl cap k : Nat} {s1 s2 s3 : ByteArray} {b4 : Bool} (h : Mid W R g wl cap s1 s2 s3 b4 wr k) : wr.cell? ⟨R, 4, none⟩ = some (.slice (some ⟨g, 0, none⟩) wl cap) := by
  rw [cell_of_row wr R 4 _ _ _ h.rb]; rfl

theorem Mid.step {W wr : World} {R g wl cap k : Nat} {s1 s2 s3 : ByteArray} {b4 : Bool} (h : Mid W R g wl cap s1 s2 s3 b4 wr k) (s : ByteArray) : Mid W R g wl cap s1 s2 s3 b4 (wr.setCell ⟨g, k, none⟩ (.string s)) (k + 1) := by
  obtain ⟨cur, e1, e2, e3⟩ := h.cb
  refine ⟨h.below.setCell h.lo _, h.lo, h.mid, by rw [World.size_setCell]; exact h.hi, by rw [heap_setCell_other _ _ _ _ (by have := h.mid; simp; omega)]; exact h.rb, _, heap_setCell_same wr g k cur 9 _ e1, by simpa using e2, fun j hj => ?_⟩
  rw [Array.getElem?_setIfInBounds]
  by_cases e : k = j
  · subst e
    obtain ⟨s', e4, _⟩ := e3 k hj
    have hk : k < cur.size := (Array.getElem?_eq_some_iff.1 e4).1
    exact ⟨s, by rw [if_pos rfl, if_pos hk], fun h => by omega⟩
  · obtain ⟨s', e4, e5⟩ := e3 j hj
    exact ⟨s', by rw [if_neg e]; exact e4, fun h => e5 (by omega)⟩

theorem Mid.drew {W wr : World} {R g wl cap k : Nat} {s1 s2 s3 : ByteArray} {b4 : Bool} (h : Mid W R g wl cap s1 s2 s3 b4 wr k) : Mid W R g wl cap s1 s2 s3 b4 wr.drew k := h.kept (Below.refl _ _).drew

theorem row_block {W : World} {g n : Nat} {cur : Array Value} {P : Nat → ByteArray} (h : W.heap[g]? = some (.cells cur 9)) (hc : ∀ j, j < n → cur[j]? = some (.string (P j))) : Row W (some ⟨g, 0, none⟩) n (fun j => .string (P j)) :=
  .inr ⟨g, 0, rfl, fun j hj => by rw [Nat.zero_add, cell_of_row W g j cur 9 (0, 0) h]; exact hc j hj⟩

set_option maxRecDepth 100000 in
set_option maxHeartbeats 4000000 in
theorem walk (a0 a1 a2 a3 a4 a5 : Option Addr) (n0 c0 n1 c1 n2 c2 n3 c3 n4 c4 n5 c5 : Nat) (f0 f1 f2 f3 : Nat → ByteArray) (B : Nat → Bool) (A : Nat → Option Addr) (L C : Nat → Nat) (P : Nat → Nat → ByteArray) (q : ByteArray) (w : World)
    (h0 : Row w a0 n0 (fun j => .string (f0 j))) (h1 : Row w a1 n1 (fun j => .string (f1 j))) (h2 : Row w a2 n2 (fun j => .string (f2 j))) (h3 : Row w a3 n3 (fun j => .string (f3 j)))
    (h4 : Row w a4 n4 (fun j => .bool (B j))) (h5 : Perms w a5 n5 A L C P) (hn4 : n4 ≤ maxLen) (hq : q.size ≤ maxLen) (nil0 : a0 = none → n0 = 0 ∧ c0 = 0) (nil5 : a5 = none → n5 = 0 ∧ c5 = 0) :
    Calls Try.prog 6 #[.slice a0 n0 c0, .slice a1 n1 c1, .slice a2 n2 c2, .slice a3 n3 c3, .slice a4 n4 c4, .slice a5 n5 c5, .string q] w fun e w' => e = .returned (.bool true) ∧ Below w.heap.size w w' := by
  have H0 := hide h0
  have H1 := hide h1
  have H2 := hide h2
  have H3 := hide h3
  have H4 := hide h4
  have H5 := hide h5
  have HN4 := hide hn4
  have HQ := hide hq
  have N0 := hide nil0
  have N5 := hide nil5
  clear h0 h1 h2 h3 h4 h5 hn4 hq nil0 nil5
  go_enter Try.func6, Try.ntmps6
  go_wp2_with fail
  refine (bytes16_any a0 a1 a2 a3 a4 a5 n0 c0 n1 c1 n2 c2 n3 c3 n4 c4 n5 c5 f0 f1 f2 f3 A L C P q _ H0.out H1.out H2.out H3.out H5.out HN4.out HQ.out).mono ?_
  rintro e w' ⟨⟨bb, rfl, hsm⟩, hw⟩
  subst w'
  cases bb with
  | false =>
    clear hsm
    go_wp2
    go_ret
    exact ⟨rfl, Below.refl _ _⟩
  | true =>
  obtain ⟨m0, m5, hsz⟩ := hsm rfl
  have HSZ := hide hsz
  clear hsm hsz
  go_wp2_with fail
  refine (fit17_any a0 a1 a2 a3 a4 a5 n0 c0 n1 c1 n2 c2 n3 c3 n4 c4 n5 c5 f0 f1 f2 f3 A L C P q _ H0.out H1.out H2.out H3.out H5.out (fun i hi => (HSZ.out i hi).1)).mono ?_
  rintro e w' ⟨⟨bb, rfl, _⟩, hw⟩
  subst w'
  cases bb with
  | false =>
    go_wp2
    go_ret
    exact ⟨rfl, Below.refl _ _⟩
  | true =>
  go_wp2_with fail
  refine (clone18_any a5 n5 c5 A L C P _ H5.out m5 (fun i hi => (HSZ.out i hi).1) N5.out).mono ?_
  rintro e W1 ⟨a', c', A', C', rfl, b1, p1⟩
  have B1 := hide b1
  have P1 := hide p1
  clear b1 p1
  go_wp2_with fail
  refine (map20_any a0 a1 a2 a3 a4 a' n0 c0 n1 c1 n2 c2 n3 c3 n4 c4 n5 c' f0 f1 f2 f3 B A' L C' _ (H0.out.kept B1.out) (H1.out.kept B1.out) (H2.out.kept B1.out) (H3.out.kept B1.out) (H4.out.kept B1.out) P1.out.row m0 N0.out).mono ?_
  rintro e W2 ⟨r, rfl, b2, mr2⟩
  have B2 := hide (B1.out.trans (b2.mono B1.out.size))
  have MR2 := hide mr2
  have P2 := hide (P1.out.kept b2)
  clear b2 mr2 P1 B1
  go_wp2_with fail
  refine (model19_any r _).mono ?_
  rintro e W3 ⟨rfl, hW3⟩
  have B3 : Hid (Below w.heap.size w W3) := by rw [hW3]; exact B2.out.alloc B2.out.size _
  have BW : Below W2.heap.size W2 W3 := by rw [hW3]; exact (Below.refl _ _).alloc (Nat.le_refl _) _
  have MR3 := hide (MR2.out.kept BW)
  have P3 := hide (P2.out.kept BW)
  have CM : Hid (W3.cell? ⟨W2.heap.size, 1, none⟩ = some (.map r)) := by rw [hW3]; exact World.cell?_alloc_new _ _ _ _
  clear BW hW3 MR2 P2 B2
  go_wp2_with fail
  refine (last21_any a0 n0 c0 f0 q _ (H0.out.kept B3.out) m0).mono ?_
  rintro e w' ⟨⟨κ, rfl, hlast⟩, hw⟩
  subst w'
  obtain ⟨s1, s2, s3, b4, okb, wa, pa, wl, wc, pc, PP, hp⟩ := pick (f1 := f1) (f2 := f2) (f3 := f3) (n1 := n1) (n2 := n2) (n3 := n3) (B := B) (n4 := n4) hlast (H5.out.kept B3.out) P3.out HSZ.out
  have PIC := hide hp
  have PO5 := hide (H5.out.kept B3.out)
  clear hlast hp H0 H1 H2 H3 H4 H5 HN4 HQ N0 N5 HSZ
  generalize FR f0 (roleVal f1 f2 f3 n1 n2 n3 B n4 A' L C' n5) n0 = F at *
  go_wp2_with fail
  refine (permsAt22_any a5 n5 c5 A L C κ _ PO5.out.row).mono ?_
  rintro e w' ⟨he, hw⟩
  subst w'
  rw [PIC.out.want] at he
  subst he
  go_wp2_with fail
  refine (role23_any W2.heap.size r F q s1 s2 s3 b4 pa wl pc PP _ CM.out MR3.out PIC.out.val PIC.out.prow PIC.out.pnil PIC.out.small).mono ?_
  rw [PIC.out.ok]
  rintro e W4 ⟨g, cap, cur, rfl, b4', hg, hcur, hcap1, hcap2, hcs, hat⟩
  have hgR : g < W4.heap.size := (Array.getElem?_eq_some_iff.1 hcur).1
  have M5 : Hid (Mid W3 W4.heap.size g wl cap s1 s2 s3 b4 (W4.alloc (.cells #[.string s1, .string s2, .string s3, .bool b4, .slice (some ⟨g, 0, none⟩) wl cap] 47)) 0) :=
    ⟨b4'.alloc b4'.size _, hg, hgR, by simp, new_block _ _ _ rfl, cur, old_block hcur, hcs, fun j hj => ⟨PP j, hat j hj, fun _ => PIC.out.sizes j hj⟩⟩
  have RW5 : Hid (Row (W4.alloc (.cells #[.string s1, .string s2, .string s3, .bool b4, .slice (some ⟨g, 0, none⟩) wl cap] 47)) (some ⟨g, 0, none⟩) wl (fun j => .string (PP j))) := row_block (old_block hcur) hat
  have HCAP1 := hide hcap1
  have HCAP2 := hide hcap2
  have hk0 := PIC.out.at0
  have hsm := PIC.out.small
  obtain ⟨R, hR⟩ : ∃ R, W4.heap.size = R := ⟨_, rfl⟩
  rw [hR] at M5
  clear b4' hg hcur hcap1 hcap2 hcs hat hgR
  go_wp2_with fail
  clear hk0
  refine (same24_any (some ⟨g, 0, none⟩) wa wl cap wc PP _ RW5.out (PIC.out.wrow.kept (by have := M5.out.below; exact this)) PIC.out.small).mono ?_
  rintro e W6 ⟨rfl, b6, _⟩
  have M6 := hide (M5.out.kept b6)
  have hc4 := M6.out.cell4
  clear b6 M5 RW5 hR
  go_wp2_with fail
  clear hc4
  go_loopw [21] (fun i wr => ∃ k : Nat, k ≤ wl ∧ i = .int .i64 k ∧ Mid W3 R g wl cap s1 s2 s3 b4 wr k) (fun i _ => wl - (intOf i).toNat)
  case atStart => exact ⟨0, by omega, rfl, M6.out⟩
  case round =>
    clear M6
    obtain ⟨k, hk, rfl, hM⟩ := hrel
    have HM := hide hM
    have hc4 := hM.cell4
    by_cases hlt : k < wl
    · obtain ⟨cur', e1, e2, e3⟩ := hM.cb
      obtain ⟨s, e4, e5⟩ := e3 k hlt
      have hs := e5 (Nat.le_refl _)
      have hck : wr.cell? ⟨g, k, none⟩ = some (.string s) := by rw [cell_of_row wr g k _ _ _ e1]; exact e4
      have hfk : wr.frozen? ⟨g, k, none⟩ = false := frozen_of_row wr g k _ _ e1
      have hi : (k : Int) < wl := by omega
      have hi0 : (0 : Int) ≤ (k : Int) := by omega
      clear hM e1 e2 e3 e4 e5
      go_upto_region 17 with fail
      go_region
      go_wp2
      go_roundw
      case rel => exact ⟨k + 1, by omega, by go_num, (HM.out.step _).drew⟩
      case measure => simp [intOf]; omega
    · obtain rfl : k = wl := by omega
      obtain ⟨cur', e1, e2, e3⟩ := hM.cb
      have E1 := hide e1
      have E2 := hide e2
      have hgR : g ≠ R := by have := hM.mid; omega
      have hgw : g < wr.heap.size := Nat.lt_trans hM.mid hM.hi
      have hRw : R < wr.heap.size := hM.hi
      have hg3 : W3.heap.size ≤ g := hM.lo
      obtain ⟨i9, hi, hz0, hz1, hz2⟩ := info_parts info9
      have I1 := hide hi
      have I2 := hide hz0
      have I3 := hide hz1
      have I4 := hide hz2
      have RB := hide hM.rb
      clear hM hi hz0 hz1 hz2 e1 e2 e3
      go_wp2_with (at_builtin; refine wpList_append_own _ (by rfl) _ _ 22 (by rfl) W3.heap.size 9 i9 (.string ByteArray.empty) 1 16 Try.underlying22 I1.out I2.out I3.out I4.out (by rfl) (by decide) (.slice (some ⟨g, 0, none⟩) k cap) k (cur'.toList.take k) (by rfl) ?h1 ⟨wr.heap.size, 0, none⟩ 1 1 [.string { data := #[101, 120, 116, 114, 97] }] (by rfl) rfl ?h3 ?h4 ?h5 ?h6 ?h7 ?_)
      case h1 =>
        refine ⟨?_, .inr ⟨g, cap, cur', rfl, hg3, old_block E1.out, HCAP1.out, HCAP2.out, by rw [E2.out, Nat.mul_one], by rw [Nat.mul_one]⟩⟩
        have := HCAP1.out
        have := E2.out
        simp; omega
      case h3 => exact cell_one_new _ _ _
      case h4 => intro u hu; simp at hu; subst hu; rfl
      case h5 => unfold maxLen; omega
      case h6 => omega
      case h7 => simp; omega
      intro v' w7 hown hgrow hiff
      have rb7 : w7.heap[R]? = some (.cells #[.string s1, .string s2, .string s3, .bool b4, .slice (some ⟨g, 0, none⟩) k cap] 47) := keep_block (r := g) (old_block RB.out) hgrow (fun e => hgR e.symm)
      have b7 : Below W3.heap.size W3 w7 := Below.grown (HM.out.below.alloc HM.out.below.size _) hgrow (by have := HM.out.below.size; simp; omega) (fun q e => by cases e; exact hg3)
      have hc7 : w7.cell? ⟨R, 4, none⟩ = some (.slice (some ⟨g, 0, none⟩) k cap) := by rw [cell_of_row w7 R 4 _ _ _ rb7]; rfl
      have hf7 : w7.frozen? ⟨R, 4, none⟩ = false := frozen_of_row w7 R 4 _ _ rb7
      rcases hown.2 with ⟨hv, _⟩ | ⟨g', cap', cur2, hv, _, _, _, _, _, _⟩
      · exact absurd hv (by simpa using hiff)
      subst hv
      have RB8 : Hid ((w7.setCell ⟨R, 4, none⟩ (.slice (some ⟨g', 0, none⟩) (k + 1) cap')).heap[R]? = some (.cells #[.string s1, .string s2, .string s3, .bool b4, .slice (some ⟨g', 0, none⟩) (k + 1) cap'] 47)) := heap_setCell_same w7 R 4 _ 47 _ rb7
      have B8 : Hid (Below W3.heap.size W3 (w7.setCell ⟨R, 4, none⟩ (.slice (some ⟨g', 0, none⟩) (k + 1) cap'))) := b7.setCell (by show W3.heap.size ≤ R; have := HM.out.mid; omega) _
      clear hown hgrow hiff rb7 b7 I1 I2 I3 I4 RB E1 E2 HM hc4 HCAP1 HCAP2
      go_wp2_with fail
      generalize hW8 : w7.setCell ⟨R, 4, none⟩ (.slice (some ⟨g', 0, none⟩) (k + 1) cap') = W8 at *
      clear hW8 hc7 hf7
      have CM8 : Hid (W8.cell? ⟨W2.heap.size, 1, none⟩ = some (.map r)) := by
        have h0 := CM.out
        rw [← h0]
        exact B8.out.cell (p := ⟨W2.heap.size, 1, none⟩) (World.block_lt_of_cell? W3 _ h0)
      refine (role23_any W2.heap.size r F q s1 s2 s3 b4 pa k pc PP _ CM8.out (MR3.out.kept B8.out) PIC.out.val (PIC.out.prow.kept B8.out) PIC.out.pnil PIC.out.small).mono ?_
      rw [PIC.out.ok]
      rintro e W9 ⟨g9, cap9, cur9, rfl, b9, hg9, hcur9, _, _, _, hat9⟩
      have hR8 : R < W8.heap.size := (Array.getElem?_eq_some_iff.1 RB8.out).1
      have hR9 : R < W9.heap.size := Nat.lt_of_lt_of_le hR8 b9.size
      have rb9 : W9.heap[R]? = some (.cells #[.string s1, .string s2, .string s3, .bool b4, .slice (some ⟨g', 0, none⟩) (k + 1) cap'] 47) := (b9.block R hR8).trans RB8.out
      have ct : ∀ j, W9.cell? ⟨R, j, none⟩ = (#[Value.string s1, .string s2, .string s3, .bool b4, .slice (some ⟨g', 0, none⟩) (k + 1) cap'])[j]? := fun j => cell_of_row W9 _ j _ _ _ rb9
      have b9' : Below W3.heap.size W3 W9 := B8.out.trans (b9.mono B8.out.size)
      have B10 : Hid (Below W3.heap.size W3 (W9.alloc (.cells #[.string s1, .string s2, .string s3, .bool b4, .slice (some ⟨g9, 0, none⟩) k cap9] 47))) := b9'.alloc b9'.size _
      have RW10 : Hid (Row (W9.alloc (.cells #[.string s1, .string s2, .string s3, .bool b4, .slice (some ⟨g9, 0, none⟩) k cap9] 47)) (some ⟨g9, 0, none⟩) k (fun j => .string (PP j))) := row_block (old_block hcur9) hat9
      clear b9 hg9 hcur9 hat9 rb9 b9' RB8 B8 CM8
      go_wp2_with fail
      refine (same24_any (some ⟨g9, 0, none⟩) wa k cap9 wc PP _ RW10.out (PIC.out.wrow.kept B10.out) PIC.out.small).mono ?_
      rintro e W11 ⟨rfl, b11, _⟩
      have B11 := hide (B10.out.trans (b11.mono B10.out.size))
      clear b11 ct RW10 B10
      go_wp2_with fail
      refine (permsAt22_any a' n5 c' A' L C' κ _ (P3.out.row.kept B11.out)).mono ?_
      rintro e w' ⟨he, hw⟩
      subst w'
      rw [PIC.out.held] at he
      subst he
      go_wp2_with fail
      refine (same24_any pa wa k pc wc PP _ (PIC.out.prow.kept B11.out) (PIC.out.wrow.kept B11.out) PIC.out.small).mono ?_
      rintro e W12 ⟨rfl, b12, _⟩
      have B12 := hide (B11.out.trans (b12.mono B11.out.size))
      clear b12
      go_wp2
      go_ret
      exact ⟨rfl, B3.out.trans (B12.out.mono B3.out.size)⟩
end Go.Proofs.Qxb6605350a.Role
