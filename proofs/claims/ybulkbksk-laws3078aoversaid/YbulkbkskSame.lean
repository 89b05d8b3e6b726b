/-
  slices.Clone at []int32, 'zzs3078asame'.
-/
import Derived.Test.YbulkbkskExpect
import Derived.Test.YbulkbkskApp
import Derived.Lib.Slices
namespace Go.Proofs.Ybulkbksk
open Go.RowKit
set_option linter.unusedVariables false

/-- A slice of int32 that can be read: it holds zs. -/
structure Seg32 (w : World) (ao : Option Addr) (len : Nat) (zs : List Int) : Prop where
  size : zs.length = len
  cells : 0 < len → ∃ b off, ao = some ⟨b, off, none⟩ ∧ b < w.heap.size ∧ ∀ j u, zs[j]? = some u → w.cell? ⟨b, off + j, none⟩ = some (.int .i32 u)

theorem Seg32.below {w w' : World} {ao : Option Addr} {len : Nat} {zs : List Int} (h : Seg32 w ao len zs) (hb : Below w.heap.size w w') : Seg32 w' ao len zs := by
  refine ⟨h.size, fun h0 => ?_⟩
  obtain ⟨b, off, e, hl, hc⟩ := h.cells h0
  exact ⟨b, off, e, Nat.lt_of_lt_of_le hl hb.size, fun j u hu => by rw [hb.cell hl]; exact hc j u hu⟩

theorem owns_below {w w' : World} {base : Nat} {e : TypeId} {v : Value} {n : Nat} {xs : List Value} (ho : w.ownsRow base e 1 v n xs) (hb : Below w.heap.size w w') : w'.ownsRow base e 1 v n xs := by
  refine ⟨ho.1, ?_⟩
  rcases ho.2 with h2 | ⟨g, cap, cur, hv, hg, hh, r⟩
  · exact .inl h2
  · exact .inr ⟨g, cap, cur, hv, hg, by rw [hb.block g (lt_of_block hh)]; exact hh, r⟩

set_option maxHeartbeats 400000 in
theorem clone_any (len cap : Nat) (ao : Option Addr) (zs : List Int) (w : World) (hseg : Seg32 w ao len zs) (hlen : len ≤ 4096) :
    Calls Yba.prog 19 #[.slice ao len cap] w fun e w' => ∃ v, e = .returned v ∧ w'.ownsRow w.heap.size 21 1 v len (zs.map (Value.int .i32)) ∧ Below w.heap.size w w' := by
  have heq := fun (w : World) (a : Option Addr) (l c : Nat) => Lib.run_eql_slice_nil (P := Yba.prog) w 59 21 a l c 0 0 Yba.underlying59
  have HSeg : Hid (Seg32 w ao len zs) := hseg
  have hl := hseg.size
  cases ao with
  | none =>
    have hl0 : len = 0 := by
      rcases Nat.eq_zero_or_pos len with h | h
      · exact h
      · obtain ⟨b, off, e, _⟩ := hseg.cells h
        cases e
    subst hl0
    have hx : zs = [] := List.eq_nil_of_length_eq_zero hl
    subst hx
    clear hseg HSeg
    go_enter Yba.func19, Yba.ntmps19
    go_wp2
    go_ret
    exact ⟨_, rfl, World.ownsRow_nil _ _ _ _, Below.refl _ _⟩
  | some ad =>
    have hown : (w.alloc (.cells #[] 21)).ownsRow w.heap.size 21 1 (.slice (some ⟨w.heap.size, 0, none⟩) 0 0) 0 [] := by
      have := World.ownsRow_lit (base := w.heap.size) (e := 21) (size := 1) w #[] 0 (Nat.le_refl _) (by unfold maxLen; omega) rfl
      simpa using this
    have HO : Hid ((w.alloc (.cells #[] 21)).ownsRow w.heap.size 21 1 (.slice (some ⟨w.heap.size, 0, none⟩) 0 0) 0 []) := hown
    by_cases h0 : 0 < len
    · have hxm : (zs.map (Value.int .i32)).length = len := by rw [List.length_map]; exact hl
      have HX : Hid _ := hxm
      have hnews : 0 < len → ∃ ad', some ad = some ad' ∧ ∀ (j : Nat) (u : Value), (zs.map (Value.int .i32))[j]? = some u → (w.alloc (.cells #[] 21)).cell? (ad'.add j) = some u := by
        intro _
        obtain ⟨b, off, e, hb, hc⟩ := hseg.cells h0
        refine ⟨_, rfl, fun j u hu => ?_⟩
        simp only [Option.some.injEq] at e
        subst e
        rw [List.getElem?_map] at hu
        obtain ⟨x, hx, rfl⟩ := Option.map_eq_some_iff.1 hu
        rw [Addr.add_lit]
        exact ((Same.refl [] w).alloc _).cell (hc j x hx) (by simp)
      have HN : Hid _ := hnews
      have hone : ∀ u ∈ (zs.map (Value.int .i32)), u.oneCell' = true := by
        intro u hu
        obtain ⟨_, _, rfl⟩ := List.mem_map.1 hu
        rfl
      have H1 : Hid _ := hone
      clear hown hxm hnews hseg hl hone
      go_enter Yba.func19, Yba.ntmps19
      go_wp2_with (at_builtin; go_must (refine wpList_append_seg _ rfl (.tmp 5) (.tmp 6) 59 rfl w.heap.size 21 (.int .i32 0) 4 Yba.underlying59 info21' rfl HO.out rfl (some ad) len cap (zs.map (Value.int .i32)) rfl HX.out HN.out H1.out (by omega) (by unfold maxLen; omega) (by omega) (by simp) ?_))
      intro g c w1 ho1 hs1 hat1
      have HP : Hid (w1.ownsRow w.heap.size 21 1 (.slice (some ⟨g, 0, none⟩) len c) len (zs.map (Value.int .i32)) ∧ Below w.heap.size w w1) :=
        ⟨by simpa using ho1, (((Same.refl [] w).alloc _).comp hs1 (by intro b hb; simp [Value.ownBlock] at hb; right; omega)).below (by simp) (Nat.le_refl _)⟩
      clear ho1 hs1 hat1
      go_wp2
      go_ret
      exact ⟨_, rfl, by simpa using HP.out.1, HP.out.2⟩
    · have hl0 : len = 0 := by omega
      subst hl0
      have hx : zs = [] := List.eq_nil_of_length_eq_zero hl
      subst hx
      clear hseg HSeg hl hown
      go_enter Yba.func19, Yba.ntmps19
      go_wp2_with (at_builtin; go_must (refine wpList_append_zero _ rfl (.tmp 5) (.tmp 6) 59 rfl 21 (.int .i32 0) 4 Yba.underlying59 info21' _ 0 0 rfl (Nat.le_refl _) ad cap rfl ?_))
      go_wp2
      go_ret
      exact ⟨_, rfl, HO.out, ((Same.refl [] w).alloc _).below (by simp) (Nat.le_refl _)⟩

/-- 'zzs3078asame': true where 'want' holds what 'got' holds, sorted. -/
theorem same_any (base len cap : Nat) (ao : Option Addr) (zs : List Int) (vw : Value) (w : World) (hseg : Seg32 w ao len zs) (hlen : len ≤ 4096)
    (hw : w.ownsRow base 21 1 vw len ((zs.mergeSort le32).map (Value.int .i32))) :
    Calls Yba.prog 10 #[.slice ao len cap, vw] w fun e w' => e = .returned (.bool true) ∧ Below w.heap.size w w' := by
  have HS : Hid (Seg32 w ao len zs) := hseg
  have HW : Hid (w.ownsRow base 21 1 vw len ((zs.mergeSort le32).map (Value.int .i32))) := hw
  clear hseg hw
  go_enter Yba.func10, Yba.ntmps10
  go_wp2_with (first
    | (go_at_call 19; go_must (refine (clone_any len cap ao zs w HS.out hlen).mono ?_); rintro e w1 ⟨v1, rfl, ho1, hb1⟩; have H1 : Hid (w1.ownsRow w.heap.size 21 1 v1 len (zs.map (Value.int .i32)) ∧ Below w.heap.size w w1) := ⟨ho1, hb1⟩; clear ho1 hb1)
    | (go_at_call 20; go_must (refine (sort_own H1.out.1 (by omega)).mono ?_); rintro e w2 ⟨rfl, ho2, hs2⟩; have H2 : Hid (w2.ownsRow w.heap.size 21 1 v1 len ((zs.mergeSort le32).map (Value.int .i32)) ∧ Below w.heap.size w w2) := ⟨ho2, H1.out.2.trans (hs2.below (fun b hb => (owns_block H1.out.1 (by simpa using hb)).1) H1.out.2.size)⟩; clear ho2 hs2)
    | (go_at_call 21; go_must (refine (equal_same (by omega) H2.out.1 (owns_below HW.out H2.out.2)).mono ?_); rintro e w3 ⟨rfl, hs3⟩; have H3 : Hid (Same [] w2 w3) := hs3; clear hs3))
  go_ret
  exact ⟨rfl, H2.out.2.trans (H3.out.below (by simp) H2.out.2.size)⟩
end Go.Proofs.Ybulkbksk
