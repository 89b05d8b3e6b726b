/-
  The argument '[]ZzS3078ADef', opened.
-/
import Derived.Test.YbulkbkskAlone
import Derived.Deep.SlicePairs
import Derived.ProofKit
import Derived.OpenShut
import Derived.ChangeOld
namespace Go.Proofs.Ybulkbksk
open Go.ChangeShapes Go.WideShapes Go.ChangeAt Go.RowKit Go.Deep
set_option linter.unusedVariables false

theorem cells107 : Yba.prog.cellsOf 107 = 2 := by kernel_rfl
theorem cells5 : Yba.prog.cellsOf 5 = 1 := by kernel_rfl
theorem laidOut' : laidOutB Yba.prog = true := by kernel_rfl
theorem own' : ownKnob Yba.prog.godebug = none := by kernel_rfl

theorem rng8' {a : Int} (h : (Lit.int .u8 a).wf = true) : ∃ n : Nat, a = (n : Int) ∧ n ≤ 255 := by
  have h2 : 0 ≤ a ∧ a ≤ 255 := by simpa [Lit.wf, IntKind.min, IntKind.max, IntKind.signed, IntKind.bits] using h
  exact ⟨a.toNat, by omega, by omega⟩

theorem open_defs {H : Type} {enc : TypeId × Value → H} {W : World} {a0 : Option Addr} {len cap : Nat} {x : DataW H × List MemPlace} {n : Nat}
    (h : DataW.trod enc Yba.prog W 0 (fun _ => true) true n 22 [.slice a0 len cap] = some x) :
    ∃ ds, Defs W.heap.size a0 len ds W ∧ (∀ d ∈ ds, wf32 d.2) ∧ len ≤ 9223372036854775807 := by
  rcases open_slice_pairs Yba.underlying22 Yba.underlying107 cells107 rfl rfl cells5 cells21 h with ⟨hc, _⟩ | ⟨a, len', cap', m, k, V0, V1, D0, D1, P0, P1, hc, _, hl, hm, hmm, _, hall⟩
  · simp only [List.cons.injEq, Value.slice.injEq, and_true] at hc
    obtain ⟨rfl, rfl, rfl⟩ := hc
    exact ⟨[], ⟨rfl, fun h => by omega, by simp⟩, by simp, by omega⟩
  · simp only [List.cons.injEq, Value.slice.injEq, and_true] at hc
    obtain ⟨rfl, rfl, rfl⟩ := hc
    simp only [if_true] at hmm
    subst hmm
    have each : ∀ i, i < len → ∃ d : Nat × Int, d.1 ≤ 255 ∧ wf32 d.2 ∧ W.cell? (a.add (i * 2)) = some (.int .u8 d.1) ∧ W.cell? (a.add (i * 2 + 1)) = some (.int .i32 d.2) := by
      intro i hi
      obtain ⟨h1, h2, h3, h4⟩ := hall i (by omega)
      obtain ⟨N, e1, _, wN⟩ := DataW.trod_int Yba.underlying5 h3
      obtain ⟨A, e2, _, wA⟩ := DataW.trod_int Yba.underlying21 h4
      simp only [List.cons.injEq, and_true] at e1 e2
      obtain ⟨p, rfl, hp⟩ := rng8' wN
      exact ⟨(p, A), hp, wA, by rw [h1, e1], by rw [h2, e2]⟩
    obtain ⟨f, hf⟩ := choose_lt each
    refine ⟨(List.range len).map f, ⟨by simp, fun h0 => ?_, ?_⟩, ?_, ?_⟩
    · obtain ⟨b, off, spot⟩ := a
      have hspot : spot = none := by simpa [Addr.add] using World.cell?_spot (hf 0 h0).2.2.1
      subst hspot
      refine ⟨b, off, rfl, ?_, fun i p hp => ?_⟩
      · have := World.block_lt_of_cell? W _ (hf 0 h0).2.2.1
        simpa [Addr.add] using this
      · have hi : i < len := by have := (List.getElem?_eq_some_iff.1 hp).1; simpa using this
        simp [hi] at hp
        subst hp
        have h1 := (hf i hi).2.2
        rw [Addr.add_lit, Addr.add_lit] at h1
        exact ⟨h1.1, by rw [Nat.add_assoc]; exact h1.2⟩
    · intro p hp
      obtain ⟨i, hi, rfl⟩ := List.mem_map.1 hp
      exact (hf i (by simpa using hi)).1
    · intro p hp
      obtain ⟨i, hi, rfl⟩ := List.mem_map.1 hp
      exact (hf i (by simpa using hi)).2.1
    · simp only [maxLen] at hm
      omega
end Go.Proofs.Ybulkbksk
