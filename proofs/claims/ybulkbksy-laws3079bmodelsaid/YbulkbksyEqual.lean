import Derived.Test.YbulkbksyParse
import Derived.Laws.BytesArg
import Derived.Lib.Bytes
namespace Go.Proofs.Ybulkbksy
open Go.RowKit
set_option linter.unusedVariables false

theorem conv_empty (w : World) (a : Addr) (cap : Nat) : (convert 22 9 (.slice (some a) 0 cap)).run Yba.prog w = .ok (.string (strOfNums [])) w := by
  have hl : (loadCells a 0).run Yba.prog w = .ok (([] : List Int).map (Value.int .u8)).toArray w := by
    simp [loadCells, loadCellsFrom]
  rw [run_convert_bytes_string w 22 9 5 _ 0 cap Yba.underlying22 Yba.underlying5 Yba.underlying9, run_bytesToString w _ 0 cap [] hl]
  rfl

theorem conv_seg {w : World} {B : Nat} {ao : Option Addr} {len cap : Nat} {xs : List Nat} (h : Seg w B ao len cap xs) : (convert 22 9 (.slice ao len cap)).run Yba.prog w = .ok (.string (strOfNums (xs.map fun n : Nat => (n : Int)))) w := by
  by_cases h0 : 0 < len
  · obtain ⟨b, off, rfl, _, _, hc⟩ := h.cells h0
    refine run_convert_bytes_arg (P := Yba.prog) w 22 5 Yba.underlying22 Yba.underlying5 b off len cap _ (by simp [h.len_eq]) (fun i hi => ?_) 9 Yba.underlying9
    rw [hc i hi]
    have := h.len_eq
    simp [List.getD, show i < xs.length by omega]
  · have hl : len = 0 := by omega
    subst hl
    have hx : xs = [] := List.eq_nil_of_length_eq_zero h.len_eq
    subst hx
    cases ao with
    | none =>
      rw [run_convert_bytes_nil (P := Yba.prog) w 22 5 Yba.underlying22 Yba.underlying5 0 cap 9 Yba.underlying9]
      rfl
    | some a => exact conv_empty w a cap

theorem nums_inj {xs ys : List Nat} (hx : ∀ x ∈ xs, x < 256) (hy : ∀ y ∈ ys, y < 256) : (Lib.bytesOf (xs.map fun n : Nat => (n : Int)) == Lib.bytesOf (ys.map fun n : Nat => (n : Int))) = decide (xs = ys) := by
  have key : ∀ xs ys : List Nat, (∀ x ∈ xs, x < 256) → (∀ y ∈ ys, y < 256) → (Lib.bytesOf (xs.map fun n : Nat => (n : Int)) = Lib.bytesOf (ys.map fun n : Nat => (n : Int)) → xs = ys) := by
    intro xs
    induction xs with
    | nil => intro ys _ _ h; cases ys with
      | nil => rfl
      | cons y ys => simp [Lib.bytesOf] at h
    | cons x xs ih =>
      intro ys hx hy h
      cases ys with
      | nil => simp [Lib.bytesOf] at h
      | cons y ys =>
        simp [Lib.bytesOf] at h
        have h1 : x % 256 = y % 256 := by
          have := congrArg UInt8.toNat h.1
          simpa using this
        have a := hx x (by simp)
        have b := hy y (by simp)
        have e : x = y := by omega
        subst e
        rw [ih ys (fun z hz => hx z (by simp [hz])) (fun z hz => hy z (by simp [hz])) (by simpa [Lib.bytesOf] using h.2)]
  by_cases h : xs = ys
  · subst h; simp
  · have : ¬ (Lib.bytesOf (xs.map fun n : Nat => (n : Int)) = Lib.bytesOf (ys.map fun n : Nat => (n : Int))) := fun e => h (key xs ys hx hy e)
    simp [h, this]

set_option maxHeartbeats 400000 in
theorem equal_any (B B' : Nat) (v v' : Value) (r r' : Option (List Nat)) (w : World) (h : RV w B v r) (h' : RV w B' v' r') :
    Calls Yba.prog 8 #[v, v'] w fun e w' => e = .returned (.bool (decide (r.getD [] = r'.getD []))) ∧ w = w' := by
  obtain ⟨ao, cap, rfl, hs⟩ := h.getD
  obtain ⟨ao', cap', rfl, hs'⟩ := h'.getD
  have c1 := conv_seg hs
  have c2 := conv_seg hs'
  have HE : Hid _ := nums_inj hs.small hs'.small
  clear hs hs' h h'
  generalize r.getD [] = xs at *
  generalize r'.getD [] = ys at *
  go_enter Yba.func8, Yba.ntmps8
  go_wp2
  go_ret
  refine ⟨?_, rfl⟩
  show Ending.returned (.bool ((strOfNums (xs.map fun n : Nat => (n : Int))).toList == (strOfNums (ys.map fun n : Nat => (n : Int))).toList)) = _
  rw [Lib.strOfNums_toList, Lib.strOfNums_toList, HE.out]

theorem Auth.at {w : World} {B base k cap n : Nat} {ao : Option Addr} {As : List (List Nat)} {a : List Nat} (h : Auth w B base (.slice ao n cap) As) (ha : As[k]? = some a) :
    n = As.length ∧ ∃ g v, ao = some ⟨g, 0, none⟩ ∧ w.cell? ⟨g, k, none⟩ = some v ∧ RV w B v (some a) := by
  obtain ⟨vs, h1, h2⟩ := h
  have hk := (List.getElem?_eq_some_iff.1 ha).1
  obtain ⟨g, c, cur, e1, _, a1, n1, _⟩ := owns_at h1 (by omega)
  simp only [Value.slice.injEq] at e1
  obtain ⟨rfl, rfl, rfl⟩ := e1
  have hl : vs.length = As.length := by simpa using h1.1
  obtain ⟨v, hv⟩ : ∃ v, vs[k]? = some v := ⟨vs[k]'(by omega), by simp [show k < vs.length by omega]⟩
  refine ⟨rfl, g, v, rfl, ?_, h2 k v a hv ha⟩
  rw [h1.cellAt k (by omega)]
  exact hv

theorem Auth.draw {w : World} {B base : Nat} {va : Value} {As : List (List Nat)} (h : Auth w B base va As) (n : Nat) : Auth (w.drewN n) B base va As :=
  h.same ((Same.refl [] w).drewN n) (by simp) (by simp)

/-- What the comparison reads. -/
def Cmp (w : World) (B B2 base base2 Mb : Nat) (vt va v2 va2 : Value) (t t2 : Option (List Nat)) (As : List (List Nat)) : Prop :=
  At w Mb #[vt, va] 40 ∧ RV w B vt t ∧ Auth w B base va As ∧ RV w B2 v2 t2 ∧ Auth w B2 base2 va2 As

theorem Cmp.draw {w : World} {B B2 base base2 Mb : Nat} {vt va v2 va2 : Value} {t t2 : Option (List Nat)} {As : List (List Nat)} (h : Cmp w B B2 base base2 Mb vt va v2 va2 t t2 As) (n : Nat) : Cmp (w.drewN n) B B2 base base2 Mb vt va v2 va2 t t2 As :=
  ⟨h.1, h.2.1.same ((Same.refl [] w).drewN n) (by simp), h.2.2.1.draw n, h.2.2.2.1.same ((Same.refl [] w).drewN n) (by simp), h.2.2.2.2.draw n⟩

theorem Auth.form {w : World} {B base : Nat} {va : Value} {As : List (List Nat)} (h : Auth w B base va As) : ∃ ao cap, va = .slice ao As.length cap := by
  obtain ⟨vs, h1, _⟩ := h
  exact owns_form h1

set_option maxHeartbeats 1000000 in
theorem same_any (B B2 base base2 Mb : Nat) (vt va v2 va2 : Value) (t t2 : Option (List Nat)) (As : List (List Nat)) (w : World) (h : Cmp w B B2 base base2 Mb vt va v2 va2 t t2 As) (he : t.getD [] = t2.getD []) (hl : As.length ≤ 10000000) :
    Calls Yba.prog 9 #[.pointer (some ⟨Mb, 0, none⟩), v2, va2] w fun e w' => e = .returned (.bool true) ∧ Same [] w w' := by
  obtain ⟨a1, c1, rfl⟩ := h.2.2.1.form
  obtain ⟨a2, c2, rfl⟩ := h.2.2.2.2.form
  have hc0 := h.1.cell 0
  have hc1 := h.1.cell 1
  simp at hc0 hc1
  have HQ := equal_any B B2 vt v2 t t2 w h.2.1 h.2.2.2.1
  rw [decide_eq_true he] at HQ
  have HC : Hid (Cmp w B B2 base base2 Mb vt (.slice a1 As.length c1) v2 (.slice a2 As.length c2) t t2 As) := h
  clear h he
  obtain ⟨at1, ct1, hvt, _⟩ := HC.out.2.1.getD
  subst hvt
  go_enter Yba.func9, Yba.ntmps9
  go_wp2_with fail
  refine HQ.mono ?_
  rintro e w' ⟨rfl, rfl⟩
  clear HQ
  go_wp2_with fail
  go_loopg [7] As.length (fun q i wf => ∃ k : Nat, k + q = As.length ∧ i = .int .i64 k ∧ Same [] w wf ∧ Cmp wf B B2 base base2 Mb (.slice at1 (t.getD []).length ct1) (.slice a1 As.length c1) v2 (.slice a2 As.length c2) t t2 As)
  case atStart => exact ⟨0, by omega, rfl, Same.refl _ _, HC.out⟩
  case round =>
    obtain ⟨k, hkq, rfl, hsm, hcm⟩ := hrel
    have HM : Hid (Same [] w wr ∧ Cmp wr B B2 base base2 Mb (.slice at1 (t.getD []).length ct1) (.slice a1 As.length c1) v2 (.slice a2 As.length c2) t t2 As) := ⟨hsm, hcm⟩
    have hc1' := hcm.1.cell 1
    simp at hc1'
    clear hsm hcm
    by_cases hlt : k < As.length
    · obtain ⟨a, ha⟩ : ∃ a, As[k]? = some a := ⟨As[k], by simp [hlt]⟩
      obtain ⟨_, g1, u1, rfl, hu1, hr1⟩ := HM.out.2.2.2.1.at ha
      obtain ⟨_, g2, u2, rfl, hu2, hr2⟩ := HM.out.2.2.2.2.2.at ha
      obtain ⟨x1, y1, rfl, _⟩ := hr1.getD
      obtain ⟨x2, y2, rfl, _⟩ := hr2.getD
      have HE : Hid (∀ n, Calls Yba.prog 8 #[.slice x1 ((some a).getD []).length y1, .slice x2 ((some a).getD []).length y2] (wr.drewN n) fun e w' => e = .returned (.bool true) ∧ w' = wr.drewN n) := by
        intro n
        refine (equal_any B B2 _ _ (some a) (some a) (wr.drewN n) (hr1.same ((Same.refl [] wr).drewN n) (by simp)) (hr2.same ((Same.refl [] wr).drewN n) (by simp))).mono ?_
        rintro e w' ⟨rfl, rfl⟩
        exact ⟨by simp, rfl⟩
      clear hr1 hr2 ha
      simp only [Option.getD_some] at hu1 hu2 HE
      go_wp2_with fail
      go_quiet ((go_at_call 8; exact Calls.quiet_of_same (HE.out _)))
      go_wp2_with fail
      go_roundg (gk - 1)
      case measure => omega
      case rel => exact ⟨k + 1, by omega, by go_num, HM.out.1.drewN _, HM.out.2.draw _⟩
    · go_wp2
      go_ret
      exact ⟨rfl, HM.out.1⟩
end Go.Proofs.Ybulkbksy
