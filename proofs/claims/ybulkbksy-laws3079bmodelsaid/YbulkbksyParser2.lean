import Derived.Test.YbulkbksyParser
import Derived.Laws.BitsAllLaws
namespace Go.Proofs.Ybulkbksy
open Go.RowKit
set_option linter.unusedVariables false

theorem or_u16 (x y : Nat) (hx : x < 256) (hy : y < 256) : bits .or .u16 (y : Int) ((x : Int) * 256) = ((x * 256 + y : Nat) : Int) := by
  have e : (x : Int) * 256 = ((x * 256 : Nat) : Int) := by omega
  rw [e, u16_or_nat y (x * 256) (by omega) (by omega), Nat.or_comm, nat_join 8 (x * 256) y (by omega) (by simpa using hy)]

set_option maxHeartbeats 400000 in
theorem uint16_any (b off x y cap : Nat) (hx : x < 256) (hy : y < 256) (w : World) (h0 : w.cell? ⟨b, off, none⟩ = some (.int .u8 x)) (h1 : w.cell? ⟨b, off + 1, none⟩ = some (.int .u8 y)) (hb : b < w.heap.size) :
    Calls Yba.prog 16 #[.agg #[], .slice (some ⟨b, off, none⟩) 2 cap] w fun e w' => e = .returned (.int .u16 ((x * 256 + y : Nat) : Int)) ∧ Same [] w w' := by
  go_enter Yba.func16, Yba.ntmps16
  go_wp2_with fail
  go_quiet (fail)
  go_wp2
  go_ret
  exact ⟨by rw [← or_u16 x y hx hy]; rfl, ((Same.refl _ _).alloc _).drewN _⟩

theorem u16_lt (st : Option (List Nat)) {w : World} {Pb B : Nat} (h : PSt w Pb B st) : (pU16 st).1 ≤ 65535 := by
  unfold pU16
  rcases pBytes_form 2 st with e | ⟨xs, rfl, hl, e⟩
  · rw [e]; simp
  · rw [e]
    obtain ⟨ao, len, cap, _, hseg⟩ := h
    match xs, hl with
    | x :: y :: xs, _ =>
      have h1 := hseg.small x (by simp)
      have h2 := hseg.small y (by simp)
      simp
      omega

theorem PSt.same {w w' : World} {Pb B : Nat} {st : Option (List Nat)} {S : List Nat} (h : PSt w Pb B st) (hs : Same S w w') (hS : ∀ b ∈ S, B ≤ b) (hP : Pb ∉ S) : PSt w' Pb B st := by
  cases st with
  | none =>
    obtain ⟨v, h⟩ := h
    exact ⟨v, hs.at_ h hP⟩
  | some xs =>
    obtain ⟨ao, len, cap, h1, h2⟩ := h
    exact ⟨ao, len, cap, hs.at_ h1 hP, h2.same hs hS⟩

theorem RV.same {w w' : World} {B : Nat} {v : Value} {r : Option (List Nat)} {S : List Nat} (h : RV w B v r) (hs : Same S w w') (hS : ∀ b ∈ S, B ≤ b) : RV w' B v r := by
  cases r with
  | none => exact h
  | some ys =>
    obtain ⟨ao, cap, h1, h2⟩ := h
    exact ⟨ao, cap, h1, h2.same hs hS⟩

set_option maxHeartbeats 400000 in
theorem u16_any (Pb B : Nat) (st : Option (List Nat)) (w : World) (hP : PSt w Pb B st) (hB : B ≤ Pb) :
    Calls Yba.prog 15 #[.pointer (some ⟨Pb, 0, none⟩)] w fun e w' => e = .returned (.int .u16 ((pU16 st).1 : Nat)) ∧ PSt w' Pb B (pU16 st).2 ∧ Same [Pb] w w' := by
  have hneq := fun (w : World) (a : Option Addr) (n c : Nat) => run_neq_slice_nil_any (P := Yba.prog) w 22 5 a n c 0 0 Yba.underlying22
  have H := bytes_any Pb 2 B st w hP hB (by omega)
  unfold pU16
  rcases pBytes_form 2 st with e | ⟨xs, rfl, hl, e⟩
  · rw [e] at H ⊢
    clear e hP
    go_enter Yba.func15, Yba.ntmps15
    go_wp2_with fail
    refine H.mono ?_
    rintro e w1 ⟨v, rfl, rfl, hst, hs⟩
    have HS : Hid _ := And.intro hst hs
    clear hst hs H
    go_wp2
    go_ret
    exact ⟨rfl, HS.out.1, HS.out.2⟩
  · rw [e] at H ⊢
    clear e hP
    match xs, hl with
    | x :: y :: xs, _ =>
      simp only [List.take_succ_cons, List.take_zero, List.drop_succ_cons, List.drop_zero, Option.getD_some, List.getD_cons_zero, List.getD_cons_succ] at H ⊢
      go_enter Yba.func15, Yba.ntmps15
      go_wp2_with fail
      refine H.mono ?_
      rintro e w1 ⟨v, rfl, ⟨ao, cap, rfl, hseg⟩, hst, hs⟩
      obtain ⟨b, off, rfl, _, hbw, hc⟩ := hseg.cells (by simp)
      have hc0 := hc 0 (by simp)
      have hc1 := hc 1 (by simp)
      simp at hc0 hc1
      have hx := hseg.small x (by simp)
      have hy := hseg.small y (by simp)
      have H16 := uint16_any b off x y cap hx hy w1 hc0 hc1 hbw
      have HS : Hid _ := And.intro hst hs
      clear hst hs H hc hseg hc0 hc1
      go_wp2_with fail
      refine H16.mono ?_
      rintro e w2 ⟨rfl, hs2⟩
      have HS2 : Hid _ := hs2
      clear hs2 H16
      go_wp2
      go_ret
      exact ⟨rfl, HS.out.1.same HS2.out (by simp) (by simp), HS.out.2.comp HS2.out (by simp)⟩

/-- What a read leaves: a value, the parser's struct, the frame. -/
def Read (w : World) (Pb B : Nat) (p : Option (List Nat) × Option (List Nat)) (e : Ending) (w' : World) : Prop :=
  ∃ v, e = .returned v ∧ RV w' B v p.1 ∧ PSt w' Pb B p.2 ∧ Same [Pb] w w'

set_option maxHeartbeats 400000 in
theorem vec8_any (Pb B : Nat) (st : Option (List Nat)) (w : World) (hP : PSt w Pb B st) (hB : B ≤ Pb) :
    Calls Yba.prog 10 #[.pointer (some ⟨Pb, 0, none⟩)] w fun e w' => Read w Pb B (pV8 st) e w' := by
  have H := u8_any Pb B st w hP hB
  have hlt := u8_lt st hP
  unfold pV8
  have HP : Hid (∀ w1, PSt w1 Pb B (pU8 st).2 → Calls Yba.prog 13 #[.pointer (some ⟨Pb, 0, none⟩), .int .i64 (pU8 st).1] w1 fun e w' => Read w1 Pb B (pBytes (pU8 st).1 (pU8 st).2) e w') := fun w1 h1 => bytes_any Pb (pU8 st).1 B (pU8 st).2 w1 h1 hB (by omega)
  generalize (pU8 st).1 = n at *
  generalize (pU8 st).2 = st' at *
  clear hP
  go_enter Yba.func10, Yba.ntmps10
  go_wp2_with fail
  refine H.mono ?_
  rintro e w1 ⟨rfl, hst, hs⟩
  have HS : Hid _ := And.intro hst hs
  clear hst hs H
  go_wp2_with fail
  refine (HP.out w1 HS.out.1).mono ?_
  rintro e w2 ⟨v, rfl, h1, h2, h3⟩
  have HR : Hid (Read w Pb B (pBytes n st') (.returned v) w2) := ⟨v, rfl, h1, h2, HS.out.2.comp h3 (by simp)⟩
  clear h1 h2 h3
  go_wp2
  go_ret
  exact HR.out

set_option maxHeartbeats 400000 in
theorem vec16_any (Pb B : Nat) (st : Option (List Nat)) (w : World) (hP : PSt w Pb B st) (hB : B ≤ Pb) :
    Calls Yba.prog 11 #[.pointer (some ⟨Pb, 0, none⟩)] w fun e w' => Read w Pb B (pV16 st) e w' := by
  have H := u16_any Pb B st w hP hB
  have hlt := u16_lt st hP
  unfold pV16
  have HP : Hid (∀ w1, PSt w1 Pb B (pU16 st).2 → Calls Yba.prog 13 #[.pointer (some ⟨Pb, 0, none⟩), .int .i64 (pU16 st).1] w1 fun e w' => Read w1 Pb B (pBytes (pU16 st).1 (pU16 st).2) e w') := fun w1 h1 => bytes_any Pb (pU16 st).1 B (pU16 st).2 w1 h1 hB hlt
  generalize (pU16 st).1 = n at *
  generalize (pU16 st).2 = st' at *
  clear hP
  go_enter Yba.func11, Yba.ntmps11
  go_wp2_with fail
  refine H.mono ?_
  rintro e w1 ⟨rfl, hst, hs⟩
  have HS : Hid _ := And.intro hst hs
  clear hst hs H
  go_wp2_with fail
  refine (HP.out w1 HS.out.1).mono ?_
  rintro e w2 ⟨v, rfl, h1, h2, h3⟩
  have HR : Hid (Read w Pb B (pBytes n st') (.returned v) w2) := ⟨v, rfl, h1, h2, HS.out.2.comp h3 (by simp)⟩
  clear h1 h2 h3
  go_wp2
  go_ret
  exact HR.out

set_option maxHeartbeats 400000 in
theorem done_any (Pb B : Nat) (st : Option (List Nat)) (w : World) (hP : PSt w Pb B st) :
    Calls Yba.prog 12 #[.pointer (some ⟨Pb, 0, none⟩)] w fun e w' => e = .returned (.bool (decide (st = some []))) ∧ w = w' := by
  cases st with
  | none =>
    obtain ⟨v, h⟩ := hP
    have hc1 := h.cell 1
    simp at hc1
    clear h
    go_enter Yba.func12, Yba.ntmps12
    go_wp2
    go_ret
    exact ⟨rfl, rfl⟩
  | some xs =>
    obtain ⟨ao, len, cap, h, hseg⟩ := hP
    have hc0 := h.cell 0
    have hc1 := h.cell 1
    simp at hc0 hc1
    have hl := hseg.len_eq
    have hle := hseg.le
    have hcap := hseg.cap_le
    cases xs with
    | nil =>
      simp at hl
      subst hl
      clear h hseg
      go_enter Yba.func12, Yba.ntmps12
      go_wp2
      go_ret
      exact ⟨rfl, rfl⟩
    | cons x xs =>
      have hpos : ((len : Int) == 0) = false := by simp at hl ⊢; omega
      have HD : Hid (decide (some (x :: xs) = some []) = false) := by show decide _ = false; simp
      clear h hseg hl
      go_enter Yba.func12, Yba.ntmps12
      go_wp2
      go_ret
      exact ⟨by rw [HD.out]; rfl, rfl⟩
end Go.Proofs.Ybulkbksy
