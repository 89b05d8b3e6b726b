/-
  The row's step for LawS3078AAlone.
-/
import Derived.Test.YbulkbkskOpenDefs
namespace Go.Proofs.Ybulkbksk.AAlone
open Go.ChangeShapes Go.WideShapes Go.ChangeAt Go.RowKit
open Go.Proofs.Ybulkbksk
set_option linter.unusedVariables false

set_option maxRecDepth 20000 in
theorem law3_long (np q : Nat) (lazy : Bool) (ao : Option Addr) (len cap : Nat) (w : World) (hl : 1024 < len) (hm : len ≤ 9223372036854775807) :
    Calls Yba.prog 3 #[.int .u8 np, .slice ao len cap, .int .u8 q, .bool lazy] w fun e w' => e = .returned (.bool true) ∧ Below w.heap.size w w' := by
  go_enter Yba.func3, Yba.ntmps3
  go_wp2_with fail
  go_ret
  exact ⟨rfl, Below.refl _ _⟩

theorem walk (np q : Nat) (lazy : Bool) (ao : Option Addr) (len cap : Nat) (ds : List (Nat × Int)) (w : World) (hnp : np ≤ 255) (hq : q ≤ 255) (hD : Defs w.heap.size ao len ds w) (hwf : ∀ d ∈ ds, wf32 d.2) (hm : len ≤ 9223372036854775807) :
    Calls Yba.prog 3 #[.int .u8 np, .slice ao len cap, .int .u8 q, .bool lazy] w fun e w' => e = .returned (.bool true) ∧ Below w.heap.size w w' := by
  by_cases hl : len ≤ 1024
  · exact law3_short np q lazy ao len cap ds w hnp hq hD hwf hl
  · exact law3_long np q lazy ao len cap w (by omega) hm

set_option maxRecDepth 100000 in
theorem lifted (os : Os) (started : os.Started) (H : Type) (enc : TypeId × Value → H) :
    ReturnsInHanded {} Yba.checked os 3 .any (Rows.lawS3078AAloneSpec.pre6 enc Yba.prog Yba.f3 Rows.lawS3078AAloneRow.domain false) (Rows.lawS3078AAloneSpec.post enc Yba.prog Yba.f3 false true false false) := by
  refine returnsInHanded_of_change (C := Yba.checked) own' started (by kernel_rfl) Yba.func3
    (ChangeSpec.witness6 (enc := enc) (C := Yba.checked) false ⟨#[], #[.int .u8 0, .slice none 0 0, .int .u8 0, .bool false], []⟩ 8 (by kernel_rfl) (by kernel_rfl) (by kernel_rfl) (by kernel_rfl)) ?_
  intro W base args ds gs before hval0 hW hcnd _
  have hval : ∀ (j : Nat) t v, Yba.f3.params[j]? = some t → args[j]? = some v → Value.okWide Yba.prog W .any base t v := hval0
  have hW' := hW
  obtain ⟨p, q, hA0, hV, rfl, hfz, hnd⟩ := hW
  have hA : DataW.TrodAll enc Yba.prog W 0 (fun _ => true) true Yba.f3.params.toList args.toList ds p := hA0
  rw [Yba.params3] at hA hval
  obtain ⟨v0, vs0, d0, ds0, p0, q0, hargs, rfl, rfl, h0, r0⟩ := trodAll_cons hA
  obtain ⟨v1, vs1, d1, ds1, p1, q1, rfl, rfl, rfl, h1, r1⟩ := trodAll_cons r0
  obtain ⟨v2, vs2, d2, ds2, p2, q2, rfl, rfl, rfl, h2, r2⟩ := trodAll_cons r1
  obtain ⟨v3, vs3, d3, ds3, p3, q3, rfl, rfl, rfl, h3, r3⟩ := trodAll_cons r2
  obtain ⟨rfl, rfl, rfl⟩ := trodAll_nil r3
  obtain rfl : args = #[v0, v1, v2, v3] := by cases args; simp_all
  obtain ⟨rfl, rfl⟩ := trodVars_none hV
  obtain ⟨a0, rfl, rfl, rfl, w0⟩ := open_int Yba.underlying5 (hval 0 5 v0 rfl rfl) h0
  obtain ⟨sa, slen, scap, rfl⟩ := okWide_slice Yba.underlying22 (hval 1 22 v1 rfl rfl)
  obtain ⟨a2, rfl, rfl, rfl, w2⟩ := open_int Yba.underlying5 (hval 2 5 v2 rfl rfl) h2
  obtain ⟨a3, rfl, rfl, rfl⟩ := open_bool Yba.underlying4 (hval 3 4 v3 rfl rfl) h3
  have k1 := h1
  have lt1 : ∀ x ∈ p1, x.block < W.heap.size := by obtain ⟨m, hm⟩ := k1; exact DataW.trod_lt m _ _ _ hm
  obtain ⟨dd, hD, hwf, hm⟩ : ∃ dd, Defs W.heap.size sa slen dd W ∧ (∀ d ∈ dd, wf32 d.2) ∧ slen ≤ 9223372036854775807 := by
    obtain ⟨fuel, hf⟩ := h1
    exact open_defs hf
  clear hA0 hval0
  obtain ⟨n0, rfl, hn0⟩ := rng8' w0
  obtain ⟨n2, rfl, hn2⟩ := rng8' w2
  refine (walk n0 n2 a3 sa slen scap dd W hn0 hn2 hD hwf hm).mono fun e W' ⟨he, bel⟩ => ?_
  subst he
  exact ⟨_, rfl, _, _, _, [], _, [], hW', trodAll_mk1 (shut_bool Yba.underlying4 _), (trodAll_cons_mk (shut_int Yba.underlying5 w0) (trodAll_cons_mk (Below.trod laidOut' (by kernel_rfl) (of_decide_eq_true (by kernel_rfl)) k1 bel lt1) (trodAll_cons_mk (shut_int Yba.underlying5 w2) (trodAll_cons_mk (shut_bool Yba.underlying4 _) trodAll_mk0)))), rfl, bel.frame _, fun h => by cases h⟩

theorem over : Rows.lawS3078AAloneRow.holds Yba.pinned (OpenSpec.ofChange Rows.lawS3078AAloneSpec) :=
  OpenClaim.holds_of_wide 3 Yba.f3 rfl rfl rfl rfl rfl rfl rfl ⟨rfl, rfl, rfl, rfl, rfl⟩ rfl rfl rfl rfl rfl (by kernel_rfl) Yba.func3 (by kernel_rfl)
    (of_decide_eq_true (by kernel_rfl)) (by unfold Func.isWrapper; first | (rw [if_pos (by decide +kernel)]; kernel_rfl) | (rw [if_neg (by decide +kernel)]; exact ⟨rfl, rfl⟩))
    (fun os started H enc _ => lifted os started H enc)

/-- ████ THE STATEMENT ████ -/
theorem proved : Rows.LawS3078AAloneSaid := over
end Go.Proofs.Ybulkbksk.AAlone
