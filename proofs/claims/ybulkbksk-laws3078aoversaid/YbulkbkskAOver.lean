/-
  The row's step for LawS3078AOver.
-/
import Derived.Test.YbulkbkskOver
import Derived.Test.YbulkbkskOpenDefs
namespace Go.Proofs.Ybulkbksk.AOver
open Go.ChangeShapes Go.WideShapes Go.ChangeAt Go.RowKit
open Go.Proofs.Ybulkbksk
set_option linter.unusedVariables false

set_option maxRecDepth 20000 in
theorem law4_long1 (np q : Nat) (ao1 : Option Addr) (len1 cap1 : Nat) (ao2 : Option Addr) (len2 cap2 : Nat) (w : World) (hl : 1024 < len1) (hm : len1 ≤ 9223372036854775807) (hm2 : len2 ≤ 9223372036854775807) :
    Calls Yba.prog 4 #[.int .u8 np, .slice ao1 len1 cap1, .slice ao2 len2 cap2, .int .u8 q] w fun e w' => e = .returned (.bool true) ∧ Below w.heap.size w w' := by
  go_enter Yba.func4, Yba.ntmps4
  go_wp2_with fail
  go_ret
  exact ⟨rfl, Below.refl _ _⟩

set_option maxRecDepth 20000 in
theorem law4_long2 (np q : Nat) (ao1 : Option Addr) (len1 cap1 : Nat) (ao2 : Option Addr) (len2 cap2 : Nat) (w : World) (hl1 : len1 ≤ 1024) (hl : 1024 < len2) (hm2 : len2 ≤ 9223372036854775807) :
    Calls Yba.prog 4 #[.int .u8 np, .slice ao1 len1 cap1, .slice ao2 len2 cap2, .int .u8 q] w fun e w' => e = .returned (.bool true) ∧ Below w.heap.size w w' := by
  go_enter Yba.func4, Yba.ntmps4
  go_wp2_with fail
  go_ret
  exact ⟨rfl, Below.refl _ _⟩

theorem walk (np q : Nat) (ao1 : Option Addr) (len1 cap1 : Nat) (ds1 : List (Nat × Int)) (ao2 : Option Addr) (len2 cap2 : Nat) (ds2 : List (Nat × Int)) (w : World) (hnp : np ≤ 255) (hq : q ≤ 255)
    (hD1 : Defs w.heap.size ao1 len1 ds1 w) (hwf1 : ∀ d ∈ ds1, wf32 d.2) (hm1 : len1 ≤ 9223372036854775807) (hD2 : Defs w.heap.size ao2 len2 ds2 w) (hwf2 : ∀ d ∈ ds2, wf32 d.2) (hm2 : len2 ≤ 9223372036854775807) :
    Calls Yba.prog 4 #[.int .u8 np, .slice ao1 len1 cap1, .slice ao2 len2 cap2, .int .u8 q] w fun e w' => e = .returned (.bool true) ∧ Below w.heap.size w w' := by
  by_cases h1 : len1 ≤ 1024
  · by_cases h2 : len2 ≤ 1024
    · exact law4_short np q ao1 len1 cap1 ds1 ao2 len2 cap2 ds2 w hnp hq hD1 hwf1 h1 hD2 hwf2 h2
    · exact law4_long2 np q ao1 len1 cap1 ao2 len2 cap2 w h1 (by omega) hm2
  · exact law4_long1 np q ao1 len1 cap1 ao2 len2 cap2 w (by omega) hm1 hm2

set_option maxRecDepth 100000 in
theorem lifted (os : Os) (started : os.Started) (H : Type) (enc : TypeId × Value → H) :
    ReturnsInHanded {} Yba.checked os 4 .any (Rows.lawS3078AOverSpec.pre6 enc Yba.prog Yba.f4 Rows.lawS3078AOverRow.domain false) (Rows.lawS3078AOverSpec.post enc Yba.prog Yba.f4 false true false false) := by
  refine returnsInHanded_of_change (C := Yba.checked) own' started (by kernel_rfl) Yba.func4
    (ChangeSpec.witness6 (enc := enc) (C := Yba.checked) false ⟨#[], #[.int .u8 0, .slice none 0 0, .slice none 0 0, .int .u8 0], []⟩ 8 (by kernel_rfl) (by kernel_rfl) (by kernel_rfl) (by kernel_rfl)) ?_
  intro W base args ds gs before hval0 hW hcnd _
  have hval : ∀ (j : Nat) t v, Yba.f4.params[j]? = some t → args[j]? = some v → Value.okWide Yba.prog W .any base t v := hval0
  have hW' := hW
  obtain ⟨p, q, hA0, hV, rfl, hfz, hnd⟩ := hW
  have hA : DataW.TrodAll enc Yba.prog W 0 (fun _ => true) true Yba.f4.params.toList args.toList ds p := hA0
  rw [Yba.params4] at hA hval
  obtain ⟨v0, vs0, d0, ds0, p0, q0, hargs, rfl, rfl, h0, r0⟩ := trodAll_cons hA
  obtain ⟨v1, vs1, d1, ds1, p1, q1, rfl, rfl, rfl, h1, r1⟩ := trodAll_cons r0
  obtain ⟨v2, vs2, d2, ds2, p2, q2, rfl, rfl, rfl, h2, r2⟩ := trodAll_cons r1
  obtain ⟨v3, vs3, d3, ds3, p3, q3, rfl, rfl, rfl, h3, r3⟩ := trodAll_cons r2
  obtain ⟨rfl, rfl, rfl⟩ := trodAll_nil r3
  obtain rfl : args = #[v0, v1, v2, v3] := by cases args; simp_all
  obtain ⟨rfl, rfl⟩ := trodVars_none hV
  obtain ⟨a0, rfl, rfl, rfl, w0⟩ := open_int Yba.underlying5 (hval 0 5 v0 rfl rfl) h0
  obtain ⟨sa, slen, scap, rfl⟩ := okWide_slice Yba.underlying22 (hval 1 22 v1 rfl rfl)
  obtain ⟨ta, tlen, tcap, rfl⟩ := okWide_slice Yba.underlying22 (hval 2 22 v2 rfl rfl)
  obtain ⟨a3, rfl, rfl, rfl, w3⟩ := open_int Yba.underlying5 (hval 3 5 v3 rfl rfl) h3
  have k1 := h1
  have k2 := h2
  have lt1 : ∀ x ∈ p1, x.block < W.heap.size := by obtain ⟨m, hm⟩ := k1; exact DataW.trod_lt m _ _ _ hm
  have lt2 : ∀ x ∈ p2, x.block < W.heap.size := by obtain ⟨m, hm⟩ := k2; exact DataW.trod_lt m _ _ _ hm
  obtain ⟨dd1, hD1, hwf1, hm1⟩ : ∃ dd, Defs W.heap.size sa slen dd W ∧ (∀ d ∈ dd, wf32 d.2) ∧ slen ≤ 9223372036854775807 := by
    obtain ⟨fuel, hf⟩ := h1
    exact open_defs hf
  obtain ⟨dd2, hD2, hwf2, hm2⟩ : ∃ dd, Defs W.heap.size ta tlen dd W ∧ (∀ d ∈ dd, wf32 d.2) ∧ tlen ≤ 9223372036854775807 := by
    obtain ⟨fuel, hf⟩ := h2
    exact open_defs hf
  clear hA0 hval0
  obtain ⟨n0, rfl, hn0⟩ := rng8' w0
  obtain ⟨n3, rfl, hn3⟩ := rng8' w3
  refine (walk n0 n3 sa slen scap dd1 ta tlen tcap dd2 W hn0 hn3 hD1 hwf1 hm1 hD2 hwf2 hm2).mono fun e W' ⟨he, bel⟩ => ?_
  subst he
  exact ⟨_, rfl, _, _, _, [], _, [], hW', trodAll_mk1 (shut_bool Yba.underlying4 _), (trodAll_cons_mk (shut_int Yba.underlying5 w0) (trodAll_cons_mk (Below.trod laidOut' (by kernel_rfl) (of_decide_eq_true (by kernel_rfl)) k1 bel lt1) (trodAll_cons_mk (Below.trod laidOut' (by kernel_rfl) (of_decide_eq_true (by kernel_rfl)) k2 bel lt2) (trodAll_cons_mk (shut_int Yba.underlying5 w3) trodAll_mk0)))), rfl, bel.frame _, fun h => by cases h⟩

theorem over : Rows.lawS3078AOverRow.holds Yba.pinned (OpenSpec.ofChange Rows.lawS3078AOverSpec) :=
  OpenClaim.holds_of_wide 4 Yba.f4 rfl rfl rfl rfl rfl rfl rfl ⟨rfl, rfl, rfl, rfl, rfl⟩ rfl rfl rfl rfl rfl (by kernel_rfl) Yba.func4 (by kernel_rfl)
    (of_decide_eq_true (by kernel_rfl)) (by unfold Func.isWrapper; first | (rw [if_pos (by decide +kernel)]; kernel_rfl) | (rw [if_neg (by decide +kernel)]; exact ⟨rfl, rfl⟩))
    (fun os started H enc _ => lifted os started H enc)

/-- ████ THE STATEMENT ████ -/
theorem proved : Rows.LawS3078AOverSaid := over
end Go.Proofs.Ybulkbksk.AOver
