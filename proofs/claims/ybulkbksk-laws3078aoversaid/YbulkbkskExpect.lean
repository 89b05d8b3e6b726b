/-
  'zzs3078aexpect'.
-/
import Derived.Test.YbulkbkskSortOwn
namespace Go.Proofs.Ybulkbksk
open Go.RowKit
set_option linter.unusedVariables false

theorem info21' : (Yba.prog.info? 21).map (fun i => (i.zero, i.size, i.bytes)) = some (some (.int .i32 0), 1, 4) := by kernel_rfl

/-- The argument 'defs': its pairs, from the blocks below B. -/
structure Defs (B : Nat) (ao : Option Addr) (len : Nat) (ds : List (Nat × Int)) (w : World) : Prop where
  size : ds.length = len
  cells : 0 < len → ∃ b off, ao = some ⟨b, off, none⟩ ∧ b < B ∧ ∀ i p, ds[i]? = some p → w.cell? ⟨b, off + i * 2, none⟩ = some (.int .u8 p.1) ∧ w.cell? ⟨b, off + i * 2 + 1, none⟩ = some (.int .i32 p.2)
  small : ∀ p ∈ ds, p.1 ≤ 255

theorem Defs.below {B : Nat} {ao : Option Addr} {len : Nat} {ds : List (Nat × Int)} {w w' : World} (h : Defs B ao len ds w) (hb : Below B w w') : Defs B ao len ds w' := by
  refine ⟨h.size, fun h0 => ?_, h.small⟩
  obtain ⟨b, off, e, hl, hc⟩ := h.cells h0
  refine ⟨b, off, e, hl, fun i p hp => ?_⟩
  rw [hb.cell (p := ⟨b, off + i * 2, none⟩) hl, hb.cell (p := ⟨b, off + i * 2 + 1, none⟩) hl]
  exact hc i p hp

def expStep (m : Nat) (q : Int) (out : List Int) (d : Nat × Int) : List Int := if ((d.1 % m : Nat) : Int) = q then (if d.2 ∈ out then out else out ++ [d.2]) else out
/-- The distinct atoms that q defines, in the order of their first place. -/
def expL (m : Nat) (q : Int) (ds : List (Nat × Int)) : List Int := ds.foldl (expStep m q) []

theorem expL_succ (m : Nat) (q : Int) (ds : List (Nat × Int)) (k : Nat) (hk : k < ds.length) : expL m q (ds.take (k + 1)) = expStep m q (expL m q (ds.take k)) ds[k] := by
  unfold expL
  rw [List.take_succ_eq_append_getElem hk, List.foldl_append]
  rfl

theorem expL_len (m : Nat) (q : Int) (ds : List (Nat × Int)) : (expL m q ds).length ≤ ds.length := by
  suffices h : ∀ (ds : List (Nat × Int)) (out : List Int), (ds.foldl (expStep m q) out).length ≤ out.length + ds.length by
    have := h ds []
    simpa [expL] using this
  intro ds
  induction ds with
  | nil => intro out; simp
  | cons d ds ih =>
    intro out
    have h1 := ih (expStep m q out d)
    have h2 : (expStep m q out d).length ≤ out.length + 1 := by
      unfold expStep
      split
      · split <;> simp
      · omega
    simp only [List.foldl_cons, List.length_cons]
    omega

set_option maxHeartbeats 1000000 in
theorem expect_any (ao : Option Addr) (len cap m : Nat) (q : Int) (ds : List (Nat × Int)) (w : World) (hD : Defs w.heap.size ao len ds w) (hl : len ≤ 1024) (hm : 0 < m) (hm2 : m ≤ 10) :
    Calls Yba.prog 11 #[.slice ao len cap, .int .i64 m, .int .i32 q] w fun e w' => ∃ v, e = .returned v ∧ w'.ownsRow w.heap.size 21 1 v (expL m q ds).length (((expL m q ds).mergeSort le32).map (Value.int .i32)) ∧ Below w.heap.size w w' := by
  have HD : Hid (Defs w.heap.size ao len ds w) := hD
  have HLn : Hid (ds.length = len) := hD.size
  clear hD
  go_enter Yba.func11, Yba.ntmps11
  go_wp2_with fail
  go_loopg [7, 9, 12] len (fun qq o _ i wr => ∃ k : Nat, k + qq = len ∧ i = .int .i64 k ∧ wr.ownsRow w.heap.size 21 1 o (expL m q (ds.take k)).length ((expL m q (ds.take k)).map (Value.int .i32)) ∧ Below w.heap.size w wr)
  case atStart => exact ⟨0, by omega, rfl, World.ownsRow_nil _ _ _ _, Below.refl _ _⟩
  case round =>
    obtain ⟨k, hkq, rfl, ho, hb⟩ := hrel
    by_cases hk : k < len
    · obtain ⟨b, off, rfl, hbl, hc⟩ := (HD.out.below hb).cells (by omega)
      have hkl : k < ds.length := by rw [HLn.out]; exact hk
      obtain ⟨c1, c2⟩ := hc k ds[k] (by simp [hkl])
      have hsm := HD.out.small ds[k] (List.getElem_mem _)
      have HE : Hid (expL m q (ds.take (k + 1)) = expStep m q (expL m q (ds.take k)) ds[k]) := expL_succ m q ds k hkl
      have hel := expL_len m q (ds.take k)
      rw [List.length_take] at hel
      generalize expL m q (ds.take k) = out at ho HE hel
      generalize ds[k] = d at c1 c2 hsm HE
      obtain ⟨P, A⟩ := d
      simp only at c1 c2 hsm
      have HO : Hid (wr.ownsRow w.heap.size 21 1 u7 out.length (out.map (Value.int .i32))) := ho
      have HB : Hid (Below w.heap.size w wr) := hb
      clear ho hb hc
      have hpm : P % m < m := Nat.mod_lt _ hm
      have hwr : ((P : Int) % (m : Int)) = ((P % m : Nat) : Int) := by omega
      have hbs := HB.out.size
      by_cases hq : ((P % m : Nat) : Int) = q
      · have hne : (((P : Int) % (m : Int)) != q) = false := by rw [hwr, hq]; simp
        by_cases hin : A ∈ out
        · have hdec : decide (A ∈ out) = true := by simp [hin]
          have HS : Hid (expStep m q out (P, A) = out) := by show _ = _; simp only [expStep]; rw [if_pos hq, if_pos hin]
          clear hq hin hwr
          go_wp2_with (go_at_call 22; go_must (refine (contains_own (zs := out) A (n := out.length) (by omega) (HO.out.alloc _)).mono ?_); rintro e w' ⟨rfl, rfl⟩)
          go_roundg (gk - 1)
          case measure => omega
          case rel => exact ⟨k + 1, by omega, by go_num, by rw [HE.out, HS.out]; exact HO.out.alloc _, HB.out.alloc hbs _⟩
        · have hdec : decide (A ∈ out) = false := by simp [hin]
          have HS : Hid (expStep m q out (P, A) = out ++ [A]) := by show _ = _; simp only [expStep]; rw [if_pos hq, if_neg hin]
          clear hq hin hwr
          go_wp2_with (first
            | (go_at_call 22; go_must (refine (contains_own (zs := out) A (n := out.length) (by omega) (HO.out.alloc _)).mono ?_); rintro e w' ⟨rfl, rfl⟩)
            | (at_builtin; go_must (refine wpList_append_one_at (wr.alloc _) rfl (.tmp 29) (.tmp 32) 59 rfl w.heap.size 21 (.int .i32 0) 4 Yba.underlying59 info21' rfl (HO.out.alloc _) rfl _ (wr.heap.size + 1) rfl (by simp) rfl (by unfold maxLen; omega) (by omega) (by simp; omega) ?_)))
          intro g1 c1 w1 ho1 hs1 hat1
          have hb1 : Below w.heap.size w w1 := (HB.out.alloc hbs _).trans (hs1.below (fun b hb => (owns_block HO.out (by simpa using hb)).1) (by simp; omega))
          have H1 : Hid _ := And.intro ho1 hb1
          clear ho1 hb1 hs1 hat1
          go_wp2_with fail
          go_roundg (gk - 1)
          case measure => omega
          case rel => exact ⟨k + 1, by omega, by go_num, by rw [HE.out, HS.out]; simpa using H1.out.1, H1.out.2⟩
      · have hne : (((P : Int) % (m : Int)) != q) = true := by rw [hwr]; exact bne_iff_ne.2 hq
        have HS : Hid (expStep m q out (P, A) = out) := by show _ = _; simp only [expStep]; rw [if_neg hq]
        clear hq hwr
        go_wp2_with fail
        go_roundg (gk - 1)
        case measure => omega
        case rel => exact ⟨k + 1, by omega, by go_num, by rw [HE.out, HS.out]; exact HO.out.alloc _, HB.out.alloc hbs _⟩
    · obtain rfl : k = len := by omega
      have hel := expL_len m q (ds.take k)
      rw [List.length_take] at hel
      have HK : Hid (ds.take k = ds) := by show _ = _; rw [← HLn.out, List.take_length]
      have HO : Hid (wr.ownsRow w.heap.size 21 1 u7 (expL m q (ds.take k)).length ((expL m q (ds.take k)).map (Value.int .i32))) := ho
      have HB : Hid (Below w.heap.size w wr) := hb
      clear ho hb
      go_wp2_with (go_at_call 20; go_must (refine (sort_own HO.out (by omega)).mono ?_); rintro e w1 ⟨rfl, ho1, hs1⟩; have H1 : Hid _ := And.intro ho1 hs1; clear ho1 hs1)
      go_ret
      refine ⟨_, rfl, ?_, HB.out.trans (H1.out.2.below (fun b hb => (owns_block HO.out (by simpa using hb)).1) HB.out.size)⟩
      have := H1.out.1
      rw [HK.out] at this
      exact this
end Go.Proofs.Ybulkbksk
