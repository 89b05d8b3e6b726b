/-
  slices.Sort at an owned []int32; slices.Index, Contains, Equal at []int32.
-/
import Derived.Test.YbulkbkskSortTop
import Derived.Test.YbulkbkskHeap
import Derived.WalkKit
import Derived.WalkLawsBesides
import Derived.WalkSpells
import Derived.BigQuiet
import Derived.Deep.LoopGhost
import Derived.Deep.QuietTactic
import Derived.Deep.DeepMust
namespace Go.Proofs.Ybulkbksk
open Go.RowKit
set_option linter.unusedVariables false

abbrev le32 (x y : Int) : Bool := decide (x ≤ y)

theorem take_put32 (cur : Array Value) (ts : List Int) (h : ts.length ≤ cur.size) : (Sort.putCells (Value.int .i32) 0 ts.toArray cur).toList.take ts.length = ts.map (Value.int .i32) := by
  apply List.ext_getElem?
  intro j
  by_cases hj : j < ts.length
  · rw [List.getElem?_take_of_lt hj, Array.getElem?_toList]
    simp [Sort.putCells, hj, show j < cur.size by omega]
  · rw [List.getElem?_take_eq_none (by omega), List.getElem?_eq_none (by simp; omega)]

/-- slices.Sort of an owned slice: it owns the sorted list; nothing else has turned. -/
theorem sort_own {base n : Nat} {v : Value} {zs : List Int} {w : World} (h : w.ownsRow base 21 1 v n (zs.map (Value.int .i32))) (hn : n < 100000) :
    Calls Yba.prog 20 #[v] w fun e w' => e = .returned (.tuple #[]) ∧ w'.ownsRow base 21 1 v n ((zs.mergeSort le32).map (Value.int .i32)) ∧ Same v.ownBlock.toList w w' := by
  have hl : zs.length = n := by simpa using h.1
  rcases Nat.eq_zero_or_pos n with h0 | hp
  · subst h0
    obtain rfl : zs = [] := List.eq_nil_of_length_eq_zero hl
    obtain ⟨ao, cap, rfl⟩ := owns_form h
    refine (S32.Sort_int_nil ao cap w).mono fun e w' ⟨he, hw⟩ => ?_
    subst hw
    exact ⟨he, by simpa using h, Same.refl _ _⟩
  · rcases h.2 with ⟨_, h0⟩ | ⟨g, cap, cur, rfl, hb, hg, hnc, hcm, hsz, htk⟩
    · omega
    subst hl
    have hH : Sort.Holds (Value.int .i32) w g 0 zs.toArray := by
      intro j hj
      have hj' : j < zs.length := by simpa using hj
      refine ⟨?_, by simp [World.frozen?, hg]⟩
      have h1 := h.cellAt j (by omega)
      rw [Nat.zero_add, h1]
      simp [hj']
    refine (S32.slices_Sort_int g 0 cap zs w hH (lt_of_block hg) (by omega)).mono fun e w' ⟨he, m, os, hw⟩ => ?_
    subst hw
    have hlen : (zs.mergeSort le32).length = zs.length := by simp
    have hg' : g < w.heap.size := lt_of_block hg
    have hblk : (Sort.grow (Sort.putRow (Value.int .i32) (Sort.ahead w m) g 0 (zs.mergeSort le32).toArray) os).heap[g]? = some (.cells (Sort.putCells (Value.int .i32) 0 (zs.mergeSort le32).toArray cur) 21 (0, 0)) := by
      rw [Sort.heap_grow_old _ _ (by simpa using hg')]
      simp [Sort.putRow, Sort.mapBlock, Sort.ahead, Array.getElem?_modify, hg, Sort.onCells]
    refine ⟨he, ⟨by simp, .inr ⟨g, cap, _, rfl, hb, hblk, hnc, hcm, by simp [Sort.putCells, hsz], ?_⟩⟩, ⟨rfl, rfl, rfl, by simp, fun k hk hne => ?_⟩⟩
    · rw [Nat.mul_one, ← hlen]
      exact take_put32 cur _ (by omega)
    · rw [Sort.heap_grow_old _ _ (by simpa using hk)]
      have hgk : g ≠ k := fun e => hne (by subst e; simp [Value.ownBlock])
      simp [Sort.putRow, Sort.mapBlock, Sort.ahead, Array.getElem?_modify, hgk]

/-- slices.Equal of two owned slices that hold the same numbers. -/
theorem equal_same {b1 b2 n : Nat} {va vb : Value} {zs : List Int} {w : World} (hn : n < 100000) (ha : w.ownsRow b1 21 1 va n (zs.map (Value.int .i32))) (hb : w.ownsRow b2 21 1 vb n (zs.map (Value.int .i32))) :
    Calls Yba.prog 21 #[va, vb] w fun e w' => e = .returned (.bool true) ∧ Same [] w w' := by
  obtain ⟨aa, ca, rfl⟩ := owns_form ha
  obtain ⟨ab, cb, rfl⟩ := owns_form hb
  have HA : Hid (w.ownsRow b1 21 1 (.slice aa n ca) n (zs.map (Value.int .i32))) := ha
  have HB : Hid (w.ownsRow b2 21 1 (.slice ab n cb) n (zs.map (Value.int .i32))) := hb
  have hlen : zs.length = n := by simpa using owns_len ha
  have HLn : Hid (zs.length = n) := hlen
  clear ha hb hlen
  go_enter Yba.func21, Yba.ntmps21
  go_wp2_with fail
  go_loopg [13] n (fun q i wr => ∃ k : Nat, k + q = n ∧ i = .int .i64 k ∧ Same [] w wr)
  case atStart => exact ⟨0, by omega, rfl, Same.refl _ _⟩
  case round =>
    obtain ⟨k, hkq, rfl, hs⟩ := hrel
    by_cases hk : k < n
    · obtain ⟨ga, ca', cura, hv, -, -, hca, -⟩ := owns_at HA.out (by omega)
      simp only [Value.slice.injEq] at hv
      obtain ⟨rfl, -, rfl⟩ := hv
      obtain ⟨gb, cb', curb, hv, -, -, hcb, -⟩ := owns_at HB.out (by omega)
      simp only [Value.slice.injEq] at hv
      obtain ⟨rfl, -, rfl⟩ := hv
      have hx : (zs.map (Value.int .i32))[k]? = some (.int .i32 (zs.getD k 0)) := by simp [show k < zs.length by rw [HLn.out]; exact hk]
      have hc1 : wr.cell? ⟨ga, k, none⟩ = some (.int .i32 (zs.getD k 0)) := hs.cell ((HA.out.cellAt k (by omega)).trans hx) (by simp)
      have hc2 : wr.cell? ⟨gb, k, none⟩ = some (.int .i32 (zs.getD k 0)) := hs.cell ((HB.out.cellAt k (by omega)).trans hx) (by simp)
      have HS : Hid (Same [] w wr) := hs
      generalize zs.getD k 0 = x at hc1 hc2
      clear hs hx
      go_wp2_with fail
      go_quiet (fail)
      go_wp2_with fail
      go_roundg (gk - 1)
      case measure => omega
      case rel => exact ⟨k + 1, by omega, by go_num, HS.out.drewN _⟩
    · have HS : Hid (Same [] w wr) := hs
      clear hs
      go_wp2_with fail
      go_ret
      exact ⟨rfl, HS.out⟩

/-- slices.Index of an owned slice: at least nought just where x is among its numbers. -/
theorem index_own {b1 n : Nat} {va : Value} {zs : List Int} (x : Int) {w : World} (hn : n < 100000) (ha : w.ownsRow b1 21 1 va n (zs.map (Value.int .i32))) :
    Calls Yba.prog 29 #[va, .int .i32 x] w fun e w' => w = w' ∧ ∃ r : Int, e = .returned (.int .i64 r) ∧ ((0 ≤ r) ↔ x ∈ zs) := by
  obtain ⟨aa, ca, rfl⟩ := owns_form ha
  have HA : Hid (w.ownsRow b1 21 1 (.slice aa n ca) n (zs.map (Value.int .i32))) := ha
  have hlen : zs.length = n := by simpa using owns_len ha
  have HLn : Hid (zs.length = n) := hlen
  clear ha hlen
  go_enter Yba.func29, Yba.ntmps29
  go_wp2_with fail
  go_loopg [8] n (fun q i wr => ∃ k : Nat, k + q = n ∧ i = .int .i64 k ∧ x ∉ zs.take k ∧ w = wr)
  case atStart => exact ⟨0, by omega, rfl, by simp, rfl⟩
  case round =>
    obtain ⟨k, hkq, rfl, hno, rfl⟩ := hrel
    have HNo : Hid (x ∉ zs.take k) := hno
    clear hno
    by_cases hk : k < n
    · obtain ⟨ga, ca', cura, hv, -, -, hca, -⟩ := owns_at HA.out (by omega)
      simp only [Value.slice.injEq] at hv
      obtain ⟨rfl, -, rfl⟩ := hv
      have hkl : k < zs.length := by rw [HLn.out]; exact hk
      have hx : (zs.map (Value.int .i32))[k]? = some (.int .i32 (zs[k])) := by simp [hkl]
      have hc1 : w.cell? ⟨ga, k, none⟩ = some (.int .i32 (zs[k])) := (HA.out.cellAt k (by omega)).trans hx
      have HZ : Hid (zs[k] ∈ zs ∧ zs.take (k + 1) = zs.take k ++ [zs[k]]) := ⟨List.getElem_mem _, by rw [List.take_succ_eq_append_getElem hkl]⟩
      generalize zs[k] = y at hc1 HZ
      clear hx hkl
      by_cases hxy : x = y
      · subst hxy
        go_wp2_with fail
        go_ret
        exact ⟨rfl, _, rfl, fun _ => HZ.out.1, fun _ => by omega⟩
      · have hne : (x == y) = false := beq_eq_false_iff_ne.2 hxy
        go_wp2_with fail
        go_roundg (gk - 1)
        case measure => omega
        case rel => exact ⟨k + 1, by omega, by go_num, by rw [HZ.out.2]; simp; exact ⟨HNo.out, hxy⟩, rfl⟩
    · obtain rfl : k = n := by omega
      go_wp2_with fail
      go_ret
      refine ⟨rfl, _, rfl, ?_⟩
      have := HNo.out
      rw [← HLn.out, List.take_length] at this
      constructor
      · intro h; omega
      · intro h; exact absurd h this

theorem contains_own {b1 n : Nat} {va : Value} {zs : List Int} (x : Int) {w : World} (hn : n < 100000) (ha : w.ownsRow b1 21 1 va n (zs.map (Value.int .i32))) :
    Calls Yba.prog 22 #[va, .int .i32 x] w fun e w' => w = w' ∧ e = .returned (.bool (decide (x ∈ zs))) := by
  have HA : Hid (w.ownsRow b1 21 1 va n (zs.map (Value.int .i32))) := ha
  clear ha
  go_enter Yba.func22, Yba.ntmps22
  go_wp2_with (go_at_call 29; go_must (refine (index_own x hn HA.out).mono ?_); rintro e w' ⟨rfl, r, rfl, hr⟩; have HR : Hid ((0 ≤ r) ↔ x ∈ zs) := hr; clear hr)
  go_ret
  refine ⟨rfl, ?_⟩
  by_cases h : x ∈ zs
  · simp [h, HR.out.2 h]
  · have : ¬ 0 ≤ r := fun hr => h (HR.out.1 hr)
    simp [h, this]
end Go.Proofs.Ybulkbksk
