/-
  'zzs3096bringids'.
-/
import Derived.Test.YbulkblccRows
import Derived.Test.YbulkblccRead
import Derived.WalkKit
import Derived.WalkLawsBesides
import Derived.WalkSpells
import Derived.BigQuiet
import Derived.Deep.LoopGhost
import Derived.Deep.QuietTactic
import Derived.Deep.Cut
import Derived.Deep.CutRange
import Derived.Deep.DeepCutAuto
import Derived.Deep.DeepMust
namespace Go.Proofs.Ybulkblcc
open Go.RowKit
set_option linter.unusedVariables false



/-- How many of the first k cells of the ring are taken. -/
def cnt (head n k : Nat) : Nat := (min k (head + n) - min k head) + min k (head + n - 256)

theorem Ring.taken {f : Nat → Value} {head : Nat} {L : List Value} (h : Ring f head L) {k : Nat} (hk : k < 256) (hin : (head ≤ k ∧ k < head + L.length) ∨ k + 256 < head + L.length) :
    (∃ v, v ∈ L ∧ f (4 + k) = v) ∧ cnt head L.length (k + 1) = cnt head L.length k + 1 := by
  have hd := h.hd
  have hl := h.len
  constructor
  · obtain ⟨i, hi, hm⟩ : ∃ i, i < L.length ∧ (head + i) % 256 = k := by
      rcases hin with hin | hin
      · exact ⟨k - head, by omega, by omega⟩
      · exact ⟨k + 256 - head, by omega, by omega⟩
    exact ⟨L[i], List.getElem_mem _, by rw [← hm]; exact h.at_ i _ (by simp [hi])⟩
  · unfold cnt
    omega
theorem Ring.free {f : Nat → Value} {head : Nat} {L : List Value} (h : Ring f head L) {k : Nat} (hk : k < 256) (hin : ¬ ((head ≤ k ∧ k < head + L.length) ∨ k + 256 < head + L.length)) :
    f (4 + k) = .pointer none ∧ cnt head L.length (k + 1) = cnt head L.length k := by
  have hd := h.hd
  have hl := h.len
  constructor
  · refine h.off k hk (fun i hi hm => hin ?_)
    omega
  · unfold cnt
    omega
theorem cnt_all {head n : Nat} (hd : head < 256) (hn : n ≤ 256) : cnt head n 256 = n := by unfold cnt; omega
theorem cnt_le {head n k : Nat} : cnt head n k ≤ k + k := by unfold cnt; omega

set_option maxRecDepth 20000 in
set_option maxHeartbeats 2000000 in
theorem rids_any {B Sb Pb : Nat} {now : Int} {head : Nat} {L G : List Value} {vG nx nxAt : Value} {w : World} (h : St B Sb Pb now head L G vG nx nxAt w) (ids : List Int) (hg : GIds w L ids) :
    Calls Yba.prog 7 #[.pointer (some ⟨Pb, 4, none⟩)] w fun e w' => ∃ v, e = .returned (.tuple #[v, .bool true]) ∧ w'.ownsRow w.heap.size 3 1 v ids.length (ids.map iv) ∧ Below w.heap.size w w' := by
  obtain ⟨fp, hP, hR, _⟩ := h.p
  have hcn : w.cell? ⟨Pb, 261, none⟩ = some (.int .i64 L.length) := by rw [hP.cell (by omega), hR.fn]
  have hch : w.cell? ⟨Pb, 260, none⟩ = some (.int .i64 head) := by rw [hP.cell (by omega), hR.fh]
  have hPb : Pb < w.heap.size := hP.lt
  have hd := hR.hd
  have hL := hR.len
  have HR : Hid (Blk w Pb 54 264 fp ∧ Ring fp head L) := ⟨hP, hR⟩
  have HG : Hid (GIds w L ids) := hg
  have hl := hg.1
  generalize hn : L.length = n at *
  have HN : Hid (L.length = n) := hn
  have HL : Hid (n = ids.length) := hl
  clear h hg hn hl hP hR
  have hd1 : decide ((n : Int) < 0) = false := decide_eq_false (by omega)
  have hd2 : decide ((256 : Int) < (n : Int)) = false := decide_eq_false (by omega)
  have hd3 : decide ((head : Int) < 0) = false := decide_eq_false (by omega)
  have hd4 : decide ((256 : Int) ≤ (head : Int)) = false := decide_eq_false (by omega)
  go_enter Yba.func7, Yba.ntmps7
  go_wp2_with fail
  go_loopg [4, 5] n (fun q o i wr => ∃ (k : Nat), k + q = n ∧ i = .int .i64 k ∧ wr.ownsRow w.heap.size 3 1 o k (pre ids k) ∧ Below w.heap.size w wr)
  case atStart => exact ⟨0, by omega, rfl, own_new w w.heap.size (Nat.le_refl _), ((Same.refl [] w).alloc _).below (by simp) (Nat.le_refl _)⟩
  case round =>
    obtain ⟨k, hkq, rfl, ho, hb⟩ := hrel
    have he1 := hb.cell (p := ⟨Pb, 261, none⟩) hPb
    rw [hcn] at he1
    have he2 := hb.cell (p := ⟨Pb, 260, none⟩) hPb
    rw [hch] at he2
    obtain ⟨ao4, cap4, rfl⟩ := owns_form ho
    have HO : Hid (wr.ownsRow w.heap.size 3 1 (.slice ao4 k cap4) k (pre ids k)) := ho
    have HB : Hid (Below w.heap.size w wr) := hb
    by_cases hk : k < n
    · obtain ⟨b, hgk, hcb⟩ := HG.out.cellAt hb (k := k) (by rw [HN.out]; exact hk)
      have hm : (head + k) % 256 < 256 := Nat.mod_lt _ (by decide)
      have he3 : wr.cell? ⟨Pb, 4 + (head + k) % 256, none⟩ = some (.pointer (some ⟨b, 0, none⟩)) := by
        rw [hb.cell hPb, HR.out.1.cell (by omega), HR.out.2.at_ k _ hgk]
      have hmI : ((head : Int) + (k : Int)) % 256 = (((head + k) % 256 : Nat) : Int) := by omega
      generalize (head + k) % 256 = m at hm he3 hmI
      have HX : Hid _ := pre_step ids k (by rw [← HL.out]; exact hk)
      have hbs := hb.size
      generalize ids.getD k 0 = x at hcb HX
      clear ho hb hgk hcn hch
      go_wp2_with fail
      go_quiet (fail)
      have hcb' : (wr.drewN nq).cell? ⟨b, 0, none⟩ = some (.int .i64 x) := hcb
      go_wp2_with (at_builtin; go_must (refine wpList_append_one_at (wr.drewN nq) rfl (.tmp 58) (.tmp 63) 37 rfl w.heap.size 3 (.int .i64 0) 8 Yba.underlying37 info3 rfl (owns_drewN HO.out nq) rfl _ wr.heap.size rfl rfl rfl (by unfold maxLen; omega) (by omega) (by exact hbs) ?_))
      intro g1 c1 w1 ho1 hs1 hat1
      have hb1 : Below w.heap.size w w1 := HB.out.trans ((((Same.refl _ wr).drewN nq).comp hs1 (fun b hb => .inl hb)).below (fun b hb => (owns_block HO.out (by simpa using hb)).1) hbs)
      rw [HX.out] at ho1
      have H1 : Hid _ := And.intro ho1 hb1
      clear ho1 hb1 hs1 hat1
      go_wp2_with fail
      go_roundg (gk - 1)
      case measure => omega
      case rel => exact ⟨k + 1, by omega, by go_num, H1.out.1, H1.out.2⟩
    · obtain rfl : k = n := by omega
      obtain ⟨w1, rfl⟩ : ∃ w1 : World, w1 = wr := ⟨_, rfl⟩
      clear ho hb hcn hch
      go_wp2_with fail
      go_loopg [7, 8] 256 (fun q c i wr => ∃ (j : Nat), j + q = 256 ∧ i = .int .i64 j ∧ c = .int .i64 (cnt head k j : Nat) ∧ wr = w1)
      case atStart => exact ⟨0, by omega, rfl, by simp [cnt], rfl⟩
      case round =>
        obtain ⟨j, hjq, rfl, rfl, rfl⟩ := hrel
        by_cases hj : j < 256
        · by_cases hin : (head ≤ j ∧ j < head + L.length) ∨ j + 256 < head + L.length
          · obtain ⟨⟨v, hv, hfv⟩, hc⟩ := HR.out.2.taken hj hin
            obtain ⟨a, rfl⟩ := HG.out.ptr v hv
            have he3 : wr.cell? ⟨Pb, 4 + j, none⟩ = some (.pointer (some a)) := by
              rw [HB.out.cell hPb, HR.out.1.cell (by omega), hfv]
            have hcl := @cnt_le head L.length j
            rw [HN.out] at hc hcl
            have HC : Hid (cnt head k (j + 1) = cnt head k j + 1) := hc
            generalize hcg : cnt head k j = c at *
            clear hin hv hfv hc hcg
            go_wp2_with fail
            go_roundg (gk - 1)
            case measure => omega
            case rel => exact ⟨j + 1, by omega, by go_num, by rw [HC.out]; go_num, rfl⟩
          · obtain ⟨hfv, hc⟩ := HR.out.2.free hj hin
            have he3 : wr.cell? ⟨Pb, 4 + j, none⟩ = some (.pointer none) := by
              rw [HB.out.cell hPb, HR.out.1.cell (by omega), hfv]
            rw [HN.out] at hc
            have HC : Hid (cnt head k (j + 1) = cnt head k j) := hc
            generalize hcg : cnt head k j = c at *
            clear hin hfv hc hcg
            go_wp2_with fail
            go_roundg (gk - 1)
            case measure => omega
            case rel => exact ⟨j + 1, by omega, by go_num, by rw [HC.out], rfl⟩
        · obtain rfl : j = 256 := by omega
          have hca := cnt_all hd hL
          have hne : (((cnt head k 256 : Nat) : Int) == (k : Int)) = true := by rw [hca]; simp
          generalize cnt head k 256 = c at hne
          clear hca
          go_wp2_with fail
          go_ret2
          refine ⟨_, rfl, ?_, HB.out⟩
          rw [← pre_all ids k HL.out, ← HL.out]
          exact HO.out
end Go.Proofs.Ybulkblcc
