/-
  The contracts of labelSet's three methods and of the law's two helpers.
-/
import Derived.Test.YbulkbkskRows
import Derived.Test.YbulkbkskBits
import Derived.WalkKit
import Derived.WalkLawsBesides
import Derived.WalkSpells
import Derived.BigQuiet
import Derived.Deep.LoopGhost
import Derived.Deep.QuietTactic
import Derived.Deep.Cut
import Derived.Deep.CutRange
import Derived.Deep.DeepCutAuto
import Derived.Deep.DeepMust
namespace Go.Proofs.Ybulkbksk
open Go.RowKit
set_option linter.unusedVariables false

theorem info81 : (Yba.prog.info? 81).map (fun i => (i.zero, i.size, i.bytes)) = some (some (.int .u64 0), 1, 8) := by kernel_rfl
theorem info21 : (Yba.prog.info? 21).map (fun i => (i.zero, i.size, i.bytes)) = some (some (.int .i32 0), 1, 4) := by kernel_rfl

theorem bmap_any (x : Nat) (w : World) (hx : x ≤ 65535) : Calls Yba.prog 13 #[.int .u16 x] w fun e w' => e = .returned (.int .i32 ((x % 2048 : Nat) : Int)) ∧ w = w' := by
  go_enter Yba.func13, Yba.ntmps13
  go_wp2
  go_ret
  exact ⟨rfl, rfl⟩

set_option maxHeartbeats 400000 in
theorem bin_any (x : Nat) (base : Nat) (vw : Value) (W : List Nat) (w : World) (hW : w.ownsRow base 21 1 vw W.length (W.map fun n : Nat => Value.int .i32 (n : Int))) (hlen : W.length ≤ 4096) :
    Calls Yba.prog 16 #[vw, .int .i32 x] w fun e w' => e = .returned (.bool (decide (x ∈ W))) ∧ w = w' := by
  obtain ⟨ao, cap, rfl⟩ := owns_form hW
  have hcell : ∀ k, k < W.length → ∃ g, ao = some ⟨g, 0, none⟩ ∧ w.cell? ⟨g, k, none⟩ = some (.int .i32 ((W.getD k 0 : Nat) : Int)) := by
    intro k hk
    obtain ⟨g, c, cur, e1, _, a1, n1, _⟩ := owns_at hW (by omega)
    simp only [Value.slice.injEq] at e1
    obtain ⟨rfl, _, rfl⟩ := e1
    refine ⟨g, rfl, ?_⟩
    rw [hW.cellAt k (by omega)]
    simp [hk]
  clear hW
  go_enter Yba.func16, Yba.ntmps16
  go_wp2
  go_loop [5] (fun i => ∃ k : Nat, k ≤ W.length ∧ i = .int .i64 k ∧ ∀ j, j < k → W.getD j 0 ≠ x) (fun i => W.length - (intOf i).toNat)
  case atStart => exact ⟨0, Nat.zero_le _, rfl, fun j hj => by omega⟩
  case round =>
    obtain ⟨k, hk, rfl, hno⟩ := hrel
    have HN : Hid (∀ j, j < k → W.getD j 0 ≠ x) := hno
    clear hno
    by_cases hlt : k < W.length
    · obtain ⟨g, rfl, hc⟩ := hcell k hlt
      have hmem : W.getD k 0 ∈ W := by
        simp only [List.getD, List.getElem?_eq_getElem hlt, Option.getD_some]
        exact List.getElem_mem _
      generalize hy : W.getD k 0 = y at hc hmem
      have HY : Hid (W.getD k 0 = y) := hy
      clear hy hcell
      by_cases he : y = x
      · subst he
        have HM : Hid (decide (y ∈ W) = true) := by show decide _ = true; simpa using hmem
        clear hmem
        go_wp2
        go_ret
        exact ⟨by rw [HM.out]; rfl, rfl⟩
      · have he' : ((y : Int) == (x : Int)) = false := by simp; omega
        clear hmem
        go_wp2
        go_round
        case rel =>
          refine ⟨k + 1, by omega, by go_num, fun j hj => ?_⟩
          by_cases hjk : j = k
          · subst hjk; rw [HY.out]; exact he
          · exact HN.out j (by omega)
        case measure => simp [intOf]; omega
    · have HM : Hid (decide (x ∈ W) = false) := by
        show decide _ = false
        apply decide_eq_false
        intro hm
        obtain ⟨j, hj⟩ := List.mem_iff_getElem?.1 hm
        have hjl := (List.getElem?_eq_some_iff.1 hj).1
        exact HN.out j (by omega) (by simp [List.getD, hj])
      clear hcell
      go_wp2
      go_ret
      exact ⟨by rw [HM.out]; rfl, rfl⟩

set_option maxHeartbeats 400000 in
theorem holds_any (Sb base x : Nat) (vb vl : Value) (B L : List Nat) (w : World) (h : LS w base Sb vb vl B L) (hx : x < 2048) :
    Calls Yba.prog 15 #[.pointer (some ⟨Sb, 0, none⟩), .int .i32 x] w fun e w' => e = .returned (.bool (decide (x ∈ L))) ∧ ∃ nd, w' = w.drewN nd := by
  have hS := h.hS.cell 0
  simp at hS
  by_cases hlt : x / 64 < B.length
  · obtain ⟨gb, cb, rfl, hc, _, _, hcb⟩ := h.word hlt
    have hlt' : (x : Int) / 64 < (B.length : Int) := by omega
    have hbl := h.blen
    have HE : Hid ((bits .and .u64 ((B.getD (x / 64) 0 : Nat) : Int) (IntKind.u64.wrap ((2 : Int) ^ (x % 64))) != 0) = decide (x ∈ L)) := by
      show _ = _
      rw [and_ne _ _ (h.small _) (by omega)]
      have := h.bit x hx
      cases hb : (B.getD (x / 64) 0).testBit (x % 64)
      · rw [hb] at this
        simp at this
        simp [this]
      · simp [this.1 hb]
    generalize B.getD (x / 64) 0 = W at *
    clear h
    go_enter Yba.func15, Yba.ntmps15
    go_wp2_with fail
    go_quiet (fail)
    go_wp2
    go_ret
    exact ⟨by rw [← HE.out]; rfl, _, rfl⟩
  · have hno : x ∉ L := fun hm => hlt (h.has hx hm)
    have hd : decide ((x : Int) / 64 < (B.length : Int)) = false := by simp; omega
    have hbl := h.blen
    obtain ⟨ab, cb, rfl⟩ := owns_form h.hb
    have HM : Hid (decide (x ∈ L) = false) := by show decide _ = false; simp [hno]
    clear h hno
    go_enter Yba.func15, Yba.ntmps15
    go_wp2_with fail
    go_quiet (fail)
    go_wp2
    go_ret
    exact ⟨by rw [HM.out]; rfl, _, rfl⟩
end Go.Proofs.Ybulkbksk
