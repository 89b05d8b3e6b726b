/-
  The law's helpers that read the rings, the queues and the lists of numbers.
-/
import Derived.Test.YbulkblccRows
import Derived.Test.YbulkblccPut
import Derived.WalkKit
import Derived.WalkLawsBesides
import Derived.WalkSpells
import Derived.BigQuiet
import Derived.Deep.LoopGhost
import Derived.Deep.QuietTactic
import Derived.Deep.Cut
import Derived.Deep.CutRange
import Derived.Deep.DeepCutAuto
import Derived.Deep.DeepMust
namespace Go.Proofs.Ybulkblcc
open Go.RowKit
set_option linter.unusedVariables false



/-- The value is a pointer to a goroutine of the number id. -/
def GId (w : World) (v : Value) (id : Int) : Prop := ∃ b cur, v = .pointer (some ⟨b, 0, none⟩) ∧ At w b cur 58 ∧ cur[0]? = some (.int .i64 id)
def GIds (w : World) (L : List Value) (ids : List Int) : Prop := L.length = ids.length ∧ ∀ (i : Nat) (v : Value) (id : Int), L[i]? = some v → ids[i]? = some id → GId w v id
def iv (i : Int) : Value := .int .i64 i

theorem GId.fr {T : List TypeId} {B : Nat} {w w' : World} {v : Value} {id : Int} (h : GId w v id) (hf : Fr T B w w') (ht : 58 ∉ T) : GId w' v id := by
  obtain ⟨b, cur, h1, h2, h3⟩ := h
  exact ⟨b, cur, h1, hf.keep _ _ _ ht h2, h3⟩
theorem GIds.fr {T : List TypeId} {B : Nat} {w w' : World} {L : List Value} {ids : List Int} (h : GIds w L ids) (hf : Fr T B w w') (ht : 58 ∉ T) : GIds w' L ids :=
  ⟨h.1, fun i v id h1 h2 => (h.2 i v id h1 h2).fr hf ht⟩
theorem GIds.nil (w : World) : GIds w [] [] := ⟨rfl, by simp⟩
theorem GIds.append {w : World} {L L' : List Value} {ids ids' : List Int} (h : GIds w L ids) (h' : GIds w L' ids') : GIds w (L ++ L') (ids ++ ids') := by
  refine ⟨by simp [h.1, h'.1], fun i v id h1 h2 => ?_⟩
  by_cases hi : i < L.length
  · rw [List.getElem?_append_left hi] at h1
    rw [List.getElem?_append_left (by rw [← h.1]; exact hi)] at h2
    exact h.2 i v id h1 h2
  · rw [List.getElem?_append_right (by omega)] at h1
    rw [List.getElem?_append_right (by rw [← h.1]; omega), ← h.1] at h2
    exact h'.2 _ v id h1 h2
theorem GIds.one {w : World} {v : Value} {id : Int} (h : GId w v id) : GIds w [v] [id] := by
  refine ⟨rfl, fun i u j h1 h2 => ?_⟩
  have hi := (List.getElem?_eq_some_iff.1 h1).1
  simp at hi
  subst hi
  simp at h1 h2
  subst h1
  subst h2
  exact h
theorem GIds.take {w : World} {L : List Value} {ids : List Int} (h : GIds w L ids) (n : Nat) : GIds w (L.take n) (ids.take n) := by
  refine ⟨by simp [h.1], fun i v id h1 h2 => ?_⟩
  rw [List.getElem?_take] at h1 h2
  by_cases hi : i < n
  · rw [if_pos hi] at h1 h2
    exact h.2 i v id h1 h2
  · rw [if_neg hi] at h1
    simp at h1
theorem GIds.drop {w : World} {L : List Value} {ids : List Int} (h : GIds w L ids) (n : Nat) : GIds w (L.drop n) (ids.drop n) := by
  refine ⟨by simp [h.1], fun i v id h1 h2 => ?_⟩
  rw [List.getElem?_drop] at h1 h2
  exact h.2 _ v id h1 h2
theorem GIds.at_ {w : World} {L : List Value} {ids : List Int} (h : GIds w L ids) {k : Nat} (hk : k < L.length) : ∃ b cur, L[k]? = some (.pointer (some ⟨b, 0, none⟩)) ∧ At w b cur 58 ∧ cur[0]? = some (.int .i64 (ids.getD k 0)) := by
  have hi : k < ids.length := by rw [← h.1]; exact hk
  obtain ⟨b, cur, h1, h2, h3⟩ := h.2 k L[k] ids[k] (by simp [hk]) (by simp [hi])
  exact ⟨b, cur, by rw [List.getElem?_eq_getElem hk, h1], h2, by rw [h3]; simp [hi]⟩
theorem GIds.ptr {w : World} {L : List Value} {ids : List Int} (h : GIds w L ids) : ∀ v ∈ L, ∃ a, v = .pointer (some a) := by
  intro v hv
  obtain ⟨k, hk, rfl⟩ := List.mem_iff_getElem.1 hv
  obtain ⟨b, cur, h1, _⟩ := h.at_ hk
  rw [List.getElem?_eq_getElem hk] at h1
  exact ⟨_, Option.some.inj h1⟩
theorem GIds.cellAt {w w' : World} {L : List Value} {ids : List Int} (h : GIds w L ids) (hb : Below w.heap.size w w') {k : Nat} (hk : k < L.length) : ∃ b, L[k]? = some (.pointer (some ⟨b, 0, none⟩)) ∧ w'.cell? ⟨b, 0, none⟩ = some (.int .i64 (ids.getD k 0)) := by
  obtain ⟨b, cur, h1, h2, h3⟩ := h.at_ hk
  exact ⟨b, h1, by rw [hb.cell h2.lt, h2.cell, h3]⟩

theorem own_new (w : World) (base : Nat) (hb : base ≤ w.heap.size) : (w.alloc (.cells #[] 3)).ownsRow base 3 1 (.slice (some ⟨w.heap.size, 0, none⟩) 0 0) 0 [] := by
  have := World.ownsRow_lit (base := base) (e := 3) (size := 1) w #[] 0 hb (by unfold maxLen; omega) rfl
  simpa using this

/-- The first k numbers, as cells. -/
def pre (ids : List Int) (k : Nat) : List Value := (ids.take k).map iv
theorem pre_step (ids : List Int) (k : Nat) (hk : k < ids.length) : pre ids k ++ [.int .i64 (ids.getD k 0)] = pre ids (k + 1) := by
  unfold pre
  rw [List.take_succ_eq_append_getElem hk, List.map_append]
  simp [iv, hk]
theorem pre_all (ids : List Int) (k : Nat) (h : k = ids.length) : pre ids k = ids.map iv := by
  subst h
  unfold pre
  rw [List.take_length]
theorem pre_zero (ids : List Int) : pre ids 0 = [] := rfl

/-- 'zzs3096beq' of two rows that hold the same numbers. -/
theorem eq_any (b1 b2 n : Nat) (va vb : Value) (ids : List Int) (w : World) (hn : n < 100000) (ha : w.ownsRow b1 3 1 va n (ids.map iv)) (hb : w.ownsRow b2 3 1 vb n (ids.map iv)) :
    Calls Yba.prog 8 #[va, vb] w fun e w' => e = .returned (.bool true) ∧ Same [] w w' := by
  obtain ⟨aa, ca, rfl⟩ := owns_form ha
  obtain ⟨ab, cb, rfl⟩ := owns_form hb
  have HA : Hid (w.ownsRow b1 3 1 (.slice aa n ca) n (ids.map iv)) := ha
  have HB : Hid (w.ownsRow b2 3 1 (.slice ab n cb) n (ids.map iv)) := hb
  have hlen : ids.length = n := by simpa using owns_len ha
  have HLn : Hid (ids.length = n) := hlen
  clear ha hb hlen
  go_enter Yba.func8, Yba.ntmps8
  go_wp2_with fail
  go_loopg [13] n (fun q i wr => ∃ k : Nat, k + q = n ∧ i = .int .i64 k ∧ Same [] w wr)
  case atStart => exact ⟨0, by omega, rfl, Same.refl _ _⟩
  case round =>
    obtain ⟨k, hkq, rfl, hs⟩ := hrel
    by_cases hk : k < n
    · obtain ⟨ga, ca', cura, hv, _, _, hca, _⟩ := owns_at HA.out (by omega)
      simp only [Value.slice.injEq] at hv
      obtain ⟨rfl, -, rfl⟩ := hv
      obtain ⟨gb, cb', curb, hv, _, _, hcb, _⟩ := owns_at HB.out (by omega)
      simp only [Value.slice.injEq] at hv
      obtain ⟨rfl, -, rfl⟩ := hv
      have hx : (ids.map iv)[k]? = some (.int .i64 (ids.getD k 0)) := by simp [iv, show k < ids.length by rw [HLn.out]; exact hk]
      have hc1 : wr.cell? ⟨ga, k, none⟩ = some (.int .i64 (ids.getD k 0)) := hs.cell ((HA.out.cellAt k (by omega)).trans hx) (by simp)
      have hc2 : wr.cell? ⟨gb, k, none⟩ = some (.int .i64 (ids.getD k 0)) := hs.cell ((HB.out.cellAt k (by omega)).trans hx) (by simp)
      have HS : Hid (Same [] w wr) := hs
      generalize ids.getD k 0 = x at hc1 hc2
      clear hs hx
      go_wp2_with fail
      go_quiet (fail)
      go_wp2_with fail
      go_roundg (gk - 1)
      case measure => omega
      case rel => exact ⟨k + 1, by omega, by go_num, HS.out.drewN _⟩
    · have HS : Hid (Same [] w wr) := hs
      clear hs
      go_wp2_with fail
      go_ret
      exact ⟨rfl, HS.out⟩

set_option maxRecDepth 20000 in
set_option maxHeartbeats 1000000 in
theorem qids_any {B Sb Pb : Nat} {now : Int} {head : Nat} {L G : List Value} {vG nx nxAt : Value} {w : World} (h : St B Sb Pb now head L G vG nx nxAt w) (ids : List Int) (hg : GIds w G ids) (hG : G.length < 1000) :
    Calls Yba.prog 9 #[.pointer (some ⟨Sb, 14, none⟩)] w fun e w' => ∃ v, e = .returned (.tuple #[v, .bool true]) ∧ w'.ownsRow w.heap.size 3 1 v ids.length (ids.map iv) ∧ Below w.heap.size w w' := by
  obtain ⟨ao, cap, rfl⟩ := owns_form h.gs
  have hc1 := h.cQ
  have hc2 := h.cQh
  have hSb : Sb < w.heap.size := by obtain ⟨f, hB, _⟩ := h.sim; exact hB.lt
  have HS : Hid (St B Sb Pb now head L G (.slice ao G.length cap) nx nxAt w) := h
  have HG : Hid (GIds w G ids) := hg
  have hl := hg.1
  generalize hn : G.length = n at *
  have HN : Hid (G.length = n) := hn
  have HL : Hid (n = ids.length) := hl
  clear h hg hn hl
  have hd : decide ((n : Int) < 0) = false := decide_eq_false (by omega)
  go_enter Yba.func9, Yba.ntmps9
  go_wp2_with fail
  go_quiet (fail)
  have hc3 : ((w.drewN nq).alloc (Obj.cells #[] 3)).cell? ⟨Sb, 15, none⟩ = some (.int .i64 0) := (((Same.refl [] w).drewN nq).alloc _).cell hc2 (by simp)
  go_wp2_with fail
  clear hc3
  go_loopg [4, 5] n (fun q o i wr => ∃ (k : Nat), k + q = n ∧ i = .int .i64 k ∧ wr.ownsRow w.heap.size 3 1 o k (pre ids k) ∧ Below w.heap.size w wr)
  case atStart => exact ⟨0, by omega, rfl, own_new (w.drewN nq) w.heap.size (Nat.le_refl _), (((Same.refl [] w).drewN nq).alloc _).below (by simp) (Nat.le_refl _)⟩
  case round =>
    obtain ⟨k, hkq, rfl, ho, hb⟩ := hrel
    have hd1 := hb.cell (p := ⟨Sb, 14, none⟩) hSb
    rw [hc1] at hd1
    obtain ⟨ao4, cap4, rfl⟩ := owns_form ho
    have HO : Hid (wr.ownsRow w.heap.size 3 1 (.slice ao4 k cap4) k (pre ids k)) := ho
    have HB : Hid (Below w.heap.size w wr) := hb
    by_cases hk : k < n
    · have hgs := HS.out.gs
      obtain ⟨ga, ca', cura, hv, -, hga, -, -⟩ := owns_at hgs (by rw [HN.out]; omega)
      simp only [Value.slice.injEq] at hv
      obtain ⟨rfl, -, rfl⟩ := hv
      rw [HN.out] at hgs
      obtain ⟨b, hgk, hcb⟩ := HG.out.cellAt hb (k := k) (by rw [HN.out]; exact hk)
      have hd2 : wr.cell? ⟨ga, k, none⟩ = some (.pointer (some ⟨b, 0, none⟩)) := by rw [hb.cell hga.lt, hgs.cellAt k (by omega), hgk]
      have HX : Hid _ := pre_step ids k (by rw [← HL.out]; exact hk)
      have hbs := hb.size
      generalize ids.getD k 0 = x at hcb HX
      clear ho hb hgs hga hgk
      go_wp2_with (at_builtin; go_must (refine wpList_append_one wr rfl (.tmp 45) (.tmp 56) 37 rfl w.heap.size 3 (.int .i64 0) 8 Yba.underlying37 info3 rfl HO.out rfl _ rfl rfl (by unfold maxLen; omega) (by omega) hbs ?_))
      intro g1 c1 w1 ho1 hs1 hat1
      have hb1 : Below w.heap.size w w1 := HB.out.trans (hs1.below (fun b hb => (owns_block HO.out (by simpa using hb)).1) hbs)
      rw [HX.out] at ho1
      have H1 : Hid _ := And.intro ho1 hb1
      clear ho1 hb1 hs1 hat1
      go_wp2_with fail
      go_roundg (gk - 1)
      case measure => omega
      case rel => exact ⟨k + 1, by omega, by go_num, H1.out.1, H1.out.2⟩
    · obtain rfl : k = n := by omega
      clear ho hb
      go_wp2_with fail
      go_ret2
      refine ⟨_, rfl, ?_, HB.out⟩
      rw [← pre_all ids k HL.out, ← HL.out]
      exact HO.out
end Go.Proofs.Ybulkblcc
