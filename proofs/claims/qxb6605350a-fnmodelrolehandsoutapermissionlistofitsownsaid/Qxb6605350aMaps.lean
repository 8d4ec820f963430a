/-
  A MAP KEYED BY STRINGS, SAID KEY BY KEY: 'MapIs w b F n': block b is a map of n entries; F s: what lies at key s. Its operations' runs. Over whatever program.
-/
import Derived.WalkKit
import Derived.MapKept
import Derived.Below
namespace Go.Proofs.Qxb6605350a.SM
open Go.RowKit Go.MapKept

def MapIs (w : World) (b : Nat) (F : ByteArray → Option Value) (n : Nat) : Prop :=
  ∃ es clock, w.heap[b]? = some (.map es clock) ∧ (∀ x ∈ es.toList, IsKey .string x.key) ∧ es.toList.Pairwise (fun x y => x.key ≠ y.key) ∧
    (∀ x ∈ es.toList, ∀ s, x.key = .string s → F s = some x.val) ∧ (∀ s v, F s = some v → ∃ x ∈ es.toList, x.key = .string s) ∧ es.size = n

def put (F : ByteArray → Option Value) (s : ByteArray) (v : Value) : ByteArray → Option Value := fun x => if x = s then some v else F x

theorem MapIs.made (w : World) : MapIs (w.alloc (.map #[] 0)) w.heap.size (fun _ => none) 0 :=
  ⟨#[], 0, (MapKept.heap_alloc w _).1, by simp, by simp, by simp, by simp, rfl⟩

theorem MapIs.kept {w w' : World} {b n : Nat} {F : ByteArray → Option Value} (h : MapIs w b F n) (e : w'.heap[b]? = w.heap[b]?) : MapIs w' b F n := by
  obtain ⟨es, clock, hb, r⟩ := h
  exact ⟨es, clock, e.trans hb, r⟩

theorem MapIs.lt {w : World} {b n : Nat} {F : ByteArray → Option Value} (h : MapIs w b F n) : b < w.heap.size := by
  obtain ⟨es, clock, hb, r⟩ := h
  exact (Array.getElem?_eq_some_iff.1 hb).1

theorem MapIs.congr {w : World} {b n m : Nat} {F G : ByteArray → Option Value} (h : MapIs w b F n) (e : ∀ s, G s = F s) (hn : m = n) : MapIs w b G m := by
  have : G = F := funext e
  rw [this, hn]; exact h

section
variable {P : Program} {w : World} {b n : Nat} {F : ByteArray → Option Value} {t k e : TypeId}

/-- 'm[s]' (c = false), 'v, ok := m[s]' (c = true). -/
theorem MapIs.look (h : MapIs w b F n) (ht : P.underlying t = some (.map k e)) (hk : P.underlying k = some .string) {z : Value} (hz : (zeroValue e).run P w = .ok z w) (s : ByteArray) (c : Bool) :
    (Instr.lookup t (.map (some b)) (.string s) c).run P w = .ok (if c then .tuple #[(F s).getD z, .bool (F s).isSome] else (F s).getD z) w := by
  obtain ⟨es, clock, hb, hks, hap, hF, hO, hn⟩ := h
  have hk' : IsKey .string (.string s) := trivial
  rcases findNow_spec hk' es.toList 0 hks with ⟨h1, h2⟩ | ⟨j, e0, h1, h2, h3⟩
  · have hN : F s = none := by
      cases hs : F s with
      | none => rfl
      | some v => obtain ⟨x, hx, hxk⟩ := hO s v hs; exact absurd hxk (h2 x hx)
    rw [hN]
    simp [Instr.lookup, run_underlying ht, MapKept.run_getObj_map hb, run_checkKey hk hk', run_findKey hk h1, hz, Result.andThen]
  · have hm0 : e0 ∈ es.toList := List.mem_of_getElem? h2
    rw [hF e0 hm0 s h3]
    simp [Instr.lookup, run_underlying ht, MapKept.run_getObj_map hb, run_checkKey hk hk', run_findKey hk h1, Result.andThen]

theorem MapIs.len (h : MapIs w b F n) (ht : P.underlying t = some (.map k e)) (ty : TypeId) : (Builtin.len_ #[t] ty #[.map (some b)]).run P w = .ok (.int .i64 n) w := by
  obtain ⟨es, clock, hb, _, _, _, _, hn⟩ := h
  simp [Builtin.len_, run_underlying ht, MapKept.run_getObj_map hb, goInt, Result.andThen, hn]

/-- 'm[s] = v'. -/
theorem MapIs.store (h : MapIs w b F n) (ht : P.underlying t = some (.map k e)) (hk : P.underlying k = some .string) (s : ByteArray) (v : Value) :
    ∃ w', (Instr.mapUpdate t (.map (some b)) (.string s) v).run P w = .ok () w' ∧ MapIs w' b (put F s v) (n + if (F s).isSome then 0 else 1) ∧ w.grownBy w' (some b) ∧ w'.heap.size = w.heap.size := by
  obtain ⟨es, clock, hb, hks, hap, hF, hO, hn⟩ := h
  have hk' : IsKey .string (.string s) := trivial
  rcases findNow_spec hk' es.toList 0 hks with ⟨h1, h2⟩ | ⟨j, e0, h1, h2, h3⟩
  · have hN : F s = none := by
      cases hs : F s with
      | none => rfl
      | some v => obtain ⟨x, hx, hxk⟩ := hO s v hs; exact absurd hxk (h2 x hx)
    refine ⟨{ w with heap := w.heap.setIfInBounds b (.map (es.push ⟨.string s, v, clock⟩) (clock + 1)) }, by simp [Instr.mapUpdate, run_underlying ht, MapKept.run_getObj_map hb, run_checkKey hk hk', run_findKey hk h1, MapKept.run_setObj_map _ hb, Result.andThen], ?_, ⟨rfl, rfl, rfl, by simp, fun r _ hne => (heap_set hb).2 r (fun e => hne (by simp [e]))⟩, by simp⟩
    refine ⟨es.push ⟨.string s, v, clock⟩, clock + 1, (heap_set hb).1, ?_, ?_, ?_, ?_, by simp [hN, hn]⟩
    · intro x hx
      simp only [Array.toList_push, List.mem_append, List.mem_singleton] at hx
      rcases hx with hx | rfl
      · exact hks x hx
      · exact hk'
    · rw [Array.toList_push, List.pairwise_append]
      exact ⟨hap, by simp, fun x hx y hy => by simp only [List.mem_singleton] at hy; subst hy; exact h2 x hx⟩
    · intro x hx q hq
      simp only [Array.toList_push, List.mem_append, List.mem_singleton] at hx
      rcases hx with hx | rfl
      · have hne : q ≠ s := fun e => by subst e; exact h2 x hx hq
        simp only [put, hne, if_false]
        exact hF x hx q hq
      · obtain rfl : s = q := by simpa using hq
        simp [put]
    · intro q u hq
      by_cases e1 : q = s
      · subst e1; exact ⟨⟨.string q, v, clock⟩, by simp, rfl⟩
      · simp only [put, e1, if_false] at hq
        obtain ⟨x, hx, hxk⟩ := hO q u hq
        exact ⟨x, by simp [hx], hxk⟩
  · have hm0 : e0 ∈ es.toList := List.mem_of_getElem? h2
    have hj : es[j]? = some e0 := by simpa using h2
    have hjl : j < es.toList.length := (List.getElem?_eq_some_iff.1 h2).1
    have hjs : j < es.size := by simpa using hjl
    have hje : es[j] = e0 := (Array.getElem?_eq_some_iff.1 hj).2
    have hS : F s = some e0.val := hF e0 hm0 s h3
    have hlist : (es.modify j (fun e' => { e' with key := .string s, val := v })).toList = es.toList.set j { e0 with key := .string s, val := v } := by
      rw [Array.toList_modify]
      apply List.ext_getElem?
      intro i
      rw [List.getElem?_modify, List.getElem?_set]
      by_cases e : j = i
      · subst e; simp [hjs, hje]
      · simp [e]
    have hkeys : (es.toList.set j { e0 with key := .string s, val := v }).map (·.key) = es.toList.map (·.key) := by
      rw [List.map_set]
      apply List.ext_getElem?
      intro i
      rw [List.getElem?_set]
      by_cases e : j = i
      · subst e; simp [hjs, hje, h3]
      · simp [e]
    have hap' : (es.toList.map (·.key)).Pairwise (· ≠ ·) := by rw [List.pairwise_map]; exact hap
    have who : ∀ x ∈ es.toList.set j { e0 with key := .string s, val := v }, x = { e0 with key := .string s, val := v } ∨ (x ∈ es.toList ∧ x.key ≠ .string s) := by
      intro x hx
      obtain ⟨i, hi, ex⟩ := List.getElem_of_mem hx
      rw [List.getElem_set] at ex
      split at ex
      · exact .inl ex.symm
      · rename_i hne
        have hi' : i < es.toList.length := by simpa using hi
        refine .inr ⟨ex ▸ List.getElem_mem hi', fun hxk => hne ?_⟩
        have hne2 := List.pairwise_iff_getElem.1 hap
        have ej : es.toList[j] = e0 := (List.getElem?_eq_some_iff.1 h2).2
        rcases Nat.lt_trichotomy j i with q | q | q
        · exact absurd (by rw [ej, ex, h3, hxk]) (hne2 j i hjl hi' q)
        · exact q
        · exact absurd (by rw [ej, ex, h3, hxk]) (hne2 i j hi' hjl q)
    refine ⟨{ w with heap := w.heap.setIfInBounds b (.map (es.modify j (fun e' => { e' with key := .string s, val := v })) clock) }, by simp [Instr.mapUpdate, run_underlying ht, MapKept.run_getObj_map hb, run_checkKey hk hk', run_findKey hk h1, hj, h3, run_keyThatStays hk', MapKept.run_setObj_map _ hb, Result.andThen], ?_, ⟨rfl, rfl, rfl, by simp, fun r _ hne => (heap_set hb).2 r (fun e => hne (by simp [e]))⟩, by simp⟩
    refine ⟨es.modify j (fun e' => { e' with key := .string s, val := v }), clock, (heap_set hb).1, ?_, ?_, ?_, ?_, by simp [hS, hn]⟩
    · intro x hx
      rw [hlist] at hx
      rcases who x hx with rfl | ⟨hx', _⟩
      · exact hk'
      · exact hks x hx'
    · rw [hlist, ← List.pairwise_map (f := fun x : MapEntry => x.key) (R := (· ≠ ·)), hkeys]
      exact hap'
    · intro x hx q hq
      rw [hlist] at hx
      rcases who x hx with rfl | ⟨hx', hne⟩
      · obtain rfl : s = q := by simpa using hq
        simp [put]
      · have hne' : q ≠ s := fun e => by subst e; exact hne hq
        simp only [put, hne', if_false]
        exact hF x hx' q hq
    · intro q u hq
      rw [hlist]
      by_cases e1 : q = s
      · subst e1
        exact ⟨{ e0 with key := .string q, val := v }, List.mem_iff_getElem.2 ⟨j, by simpa using hjl, by simp⟩, rfl⟩
      · simp only [put, e1, if_false] at hq
        obtain ⟨x, hx, hxk⟩ := hO q u hq
        obtain ⟨i, hi, ex⟩ := List.getElem_of_mem hx
        have hne : j ≠ i := fun e => by
          subst e
          have ej : es.toList[j] = e0 := (List.getElem?_eq_some_iff.1 h2).2
          rw [ej] at ex; subst ex; rw [h3] at hxk; exact e1 (by simpa using hxk.symm)
        exact ⟨x, List.mem_iff_getElem.2 ⟨i, by simpa using hi, by rw [List.getElem_set, if_neg hne]; exact ex⟩, hxk⟩
end
end Go.Proofs.Qxb6605350a.SM
