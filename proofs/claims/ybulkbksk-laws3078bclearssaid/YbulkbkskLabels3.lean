import Derived.Test.YbulkbkskLabels2
namespace Go.Proofs.Ybulkbksk
open Go.RowKit
set_option linter.unusedVariables false

def EmptyPost (w : World) (base Sb : Nat) (vb vl : Value) (B : List Nat) (w' : World) : Prop :=
  ∃ vl' B', LS w' base Sb vb vl' B' [] ∧ B'.length = B.length ∧ (∀ j, B'.getD j 0 = 0) ∧ Same (Sb :: (vb.ownBlock.toList ++ vl.ownBlock.toList)) w w' ∧ vl'.ownBlock = vl.ownBlock

theorem owns_cut {w : World} {base : Nat} {e : TypeId} {ao : Option Addr} {n cap : Nat} {xs : List Value} (h : w.ownsRow base e 1 (.slice ao n cap) n xs) : w.ownsRow base e 1 (.slice ao 0 cap) 0 [] := by
  rcases h.2 with ⟨h1, h2⟩ | ⟨g, c, cur, hv, hb, hh, h3, h4, h5, h6⟩
  · simp only [Value.slice.injEq] at h1
    obtain ⟨rfl, _, rfl⟩ := h1
    exact World.ownsRow_nil _ _ _ _
  · simp only [Value.slice.injEq] at hv
    obtain ⟨rfl, _, rfl⟩ := hv
    exact ⟨by simp, .inr ⟨g, _, cur, rfl, hb, hh, Nat.zero_le _, h4, h5, by simp⟩⟩

theorem empty_end {w wr : World} {base Sb cl : Nat} {al : Option Addr} {vb : Value} {B B' L : List Nat} (h : LS w base Sb vb (.slice al L.length cl) B L) (hw : Wiped B L B' L.length) (hs : Same vb.ownBlock.toList w wr)
    (hb : wr.ownsRow base 81 1 vb B'.length (B'.map fun n : Nat => Value.int .u64 (n : Int))) : EmptyPost w base Sb vb (.slice al L.length cl) B (wr.setCell ⟨Sb, 1, none⟩ (.slice al 0 cl)) := by
  have hz := hw.zero h
  have hS : At wr Sb #[vb, .slice al L.length cl] 77 := hs.at_ h.hS (by intro hm; simp at hm; exact owns_ne h.hb h.hS (by decide) hm)
  have hl : wr.ownsRow base 21 1 (.slice al L.length cl) L.length (L.map fun n : Nat => Value.int .i32 (n : Int)) := hs.owns h.hl (by
    intro g hg hm
    simp at hm
    obtain ⟨_, c, hc⟩ := owns_block h.hl hg
    exact owns_ne h.hb hc (by decide) hm)
  refine ⟨.slice al 0 cl, B', ⟨by simpa using hS.set 1 (.slice al 0 cl), ?_, ?_, fun i => by rw [hz i]; decide, by simp, fun x hx => by rw [hz]; simp, by rw [hw.1]; exact h.blen⟩, hw.1, hz, ?_, by cases al <;> rfl⟩
  · exact ownsRow_setCell_other hb (a := ⟨Sb, 1, none⟩) (owns_ne hb hS (by decide)) _
  · exact ownsRow_setCell_other (owns_cut hl) (a := ⟨Sb, 1, none⟩) (owns_ne (owns_cut hl) hS (by decide)) _
  · refine Same.setCell (hs.mono ?_) (.inl (by simp)) _
    intro b hb
    simp at hb ⊢
    exact .inr (.inl hb)

set_option maxHeartbeats 1000000 in
theorem empty_any (Sb base : Nat) (vb vl : Value) (B L : List Nat) (w : World) (h : LS w base Sb vb vl B L) (hL : L.length ≤ 4096) :
    Calls Yba.prog 14 #[.pointer (some ⟨Sb, 0, none⟩)] w fun e w' => e = .returned (.tuple #[]) ∧ EmptyPost w base Sb vb vl B w' := by
  obtain ⟨al, cl, rfl⟩ := owns_form h.hl
  obtain ⟨ab, cb, rfl⟩ := owns_form h.hb
  have hc0 := h.hS.cell 0
  have hc1 := h.hS.cell 1
  simp at hc0 hc1
  have H0 : Hid (LS w base Sb (.slice ab B.length cb) (.slice al L.length cl) B L) := h
  have hbl := h.blen
  clear h
  go_enter Yba.func14, Yba.ntmps14
  go_wp2_with fail
  go_loopg [9] L.length (fun q i wr => ∃ k B', k + q = L.length ∧ i = .int .i64 (k : Nat) ∧ Wiped B L B' k ∧ Same (Value.slice ab B.length cb).ownBlock.toList w wr ∧ wr.ownsRow base 81 1 (.slice ab B.length cb) B'.length (B'.map fun n : Nat => Value.int .u64 (n : Int)))
  case atStart => exact ⟨0, B, by omega, rfl, ⟨rfl, fun _ => .inl rfl, fun t ht => by omega⟩, Same.refl _ _, H0.out.hb⟩
  case round =>
    obtain ⟨k, B', hkq, rfl, hw, hs, hb⟩ := hrel
    have hS : At wr Sb #[.slice ab B.length cb, .slice al L.length cl] 77 := hs.at_ H0.out.hS (by intro hm; simp at hm; exact owns_ne H0.out.hb H0.out.hS (by decide) hm)
    have hc0' := hS.cell 0
    have hc1' := hS.cell 1
    have hf1' := hS.free 1
    simp at hc0' hc1'
    have hl : wr.ownsRow base 21 1 (.slice al L.length cl) L.length (L.map fun n : Nat => Value.int .i32 (n : Int)) := hs.owns H0.out.hl (by
      intro g hg hm
      simp at hm
      obtain ⟨_, c, hc⟩ := owns_block H0.out.hl hg
      exact owns_ne H0.out.hb hc (by decide) hm)
    have HW : Hid (Wiped B L B' k ∧ Same (Value.slice ab B.length cb).ownBlock.toList w wr ∧ wr.ownsRow base 81 1 (.slice ab B.length cb) B'.length (B'.map fun n : Nat => Value.int .u64 (n : Int))) := ⟨hw, hs, hb⟩
    clear hS hw hs
    by_cases hlt : k < L.length
    · obtain ⟨gl, c, cur, e1, _, a1, n1, _⟩ := owns_at hl (by omega)
      simp only [Value.slice.injEq] at e1
      obtain ⟨rfl, _, rfl⟩ := e1
      have hcl : wr.cell? ⟨gl, k, none⟩ = some (.int .i32 ((L.getD k 0 : Nat) : Int)) := by
        rw [hl.cellAt k (by omega)]
        simp [hlt]
      have hmem : L.getD k 0 ∈ L := by
        simp only [List.getD, List.getElem?_eq_getElem hlt, Option.getD_some]
        exact List.getElem_mem _
      have hx := H0.out.lt _ hmem
      have hlt1 := H0.out.has hx hmem
      have hBl : B'.length = B.length := HW.out.1.1
      obtain ⟨gb, c2, cur2, e2, _, a2, n2, _⟩ := owns_at hb (by omega)
      simp only [Value.slice.injEq] at e2
      obtain ⟨rfl, _, rfl⟩ := e2
      have hcw : wr.cell? ⟨gb, L.getD k 0 / 64, none⟩ = some (.int .u64 ((B'.getD (L.getD k 0 / 64) 0 : Nat) : Int)) := by
        rw [hBl] at hb
        rw [hb.cellAt _ (by omega)]
        simp [List.getD, show L[k]?.getD 0 / 64 < B'.length by simp only [List.getD] at hlt1; omega]
      have hfw := a2.free (L.getD k 0 / 64)
      have HX : Hid (Wiped B L (B'.set (L.getD k 0 / 64) 0) (k + 1)) := HW.out.1.step (by omega)
      have HY : Hid (Same (Value.slice (some ⟨gb, 0, none⟩) B.length cb).ownBlock.toList w (wr.setCell ⟨gb, L.getD k 0 / 64, none⟩ (.int .u64 0)) ∧ (wr.setCell ⟨gb, L.getD k 0 / 64, none⟩ (.int .u64 0)).ownsRow base 81 1 (.slice (some ⟨gb, 0, none⟩) B.length cb) (B'.set (L.getD k 0 / 64) 0).length ((B'.set (L.getD k 0 / 64) 0).map fun n : Nat => Value.int .u64 (n : Int))) := by
        refine ⟨HW.out.2.1.setCell (.inl (by simp [Value.ownBlock])) _, ?_⟩
        rw [List.length_set, List.map_set]
        have hb' := HW.out.2.2
        rw [hBl] at hb' ⊢
        exact (hb'.stored _ _).1
      clear hb hl hmem HW hBl a1 a2
      generalize hxg : L.getD k 0 = x at *
      have hlt2 : (x : Int) / 64 < (B.length : Int) := by omega
      have HXG : Hid (L.getD k 0 = x) := hxg
      clear hxg
      go_wp2
      go_roundg (gk - 1)
      case measure => omega
      case rel => exact ⟨k + 1, _, by omega, by go_num, HX.out, HY.out.1, HY.out.2⟩
    · obtain rfl : k = L.length := by omega
      clear hl hb
      have HE : Hid (EmptyPost w base Sb (.slice ab B.length cb) (.slice al L.length cl) B (wr.setCell ⟨Sb, 1, none⟩ (.slice al 0 cl))) := empty_end H0.out HW.out.1 HW.out.2.1 HW.out.2.2
      go_wp2
      go_end0
      exact ⟨rfl, HE.out⟩
end Go.Proofs.Ybulkbksk
