/-
  The parser: what its struct holds, the plain model of its reads, the contracts of its methods.
-/
import Derived.Test.YbulkbksyRows
import Derived.Test.YbulkbksyHeap
import Derived.WalkKit
import Derived.WalkLawsBesides
import Derived.WalkSpells
import Derived.BigQuiet
import Derived.Deep.LoopGhost
import Derived.Deep.QuietTactic
import Derived.Deep.Cut
import Derived.Deep.CutRange
import Derived.Deep.DeepCutAuto
import Derived.Deep.DeepMust
namespace Go.Proofs.Ybulkbksy
open Go.RowKit
set_option linter.unusedVariables false

/-- A slice over bytes that lie in a block below B: its bytes 'xs'. -/
structure Seg (w : World) (B : Nat) (ao : Option Addr) (len cap : Nat) (xs : List Nat) : Prop where
  len_eq : xs.length = len
  le : len ≤ cap
  cap_le : cap ≤ 9223372036854775807
  small : ∀ x ∈ xs, x < 256
  cells : 0 < len → ∃ b off, ao = some ⟨b, off, none⟩ ∧ b < B ∧ b < w.heap.size ∧ ∀ i, i < len → w.cell? ⟨b, off + i, none⟩ = some (.int .u8 ((xs.getD i 0 : Nat) : Int))

theorem Seg.same {w w' : World} {B : Nat} {ao : Option Addr} {len cap : Nat} {xs : List Nat} {S : List Nat} (h : Seg w B ao len cap xs) (hs : Same S w w') (hS : ∀ b ∈ S, B ≤ b) : Seg w' B ao len cap xs := by
  refine ⟨h.len_eq, h.le, h.cap_le, h.small, fun h0 => ?_⟩
  obtain ⟨b, off, h1, h2, h3, h4⟩ := h.cells h0
  refine ⟨b, off, h1, h2, Nat.lt_of_lt_of_le h3 hs.size, fun i hi => hs.cell (h4 i hi) ?_⟩
  intro hm
  have := hS b hm
  omega

theorem Seg.nil (w : World) (B : Nat) : Seg w B none 0 0 [] := ⟨rfl, Nat.le_refl _, by omega, by simp, fun h => by omega⟩

theorem getD_take (xs : List Nat) (n i : Nat) (h : i < n) : (xs.take n).getD i 0 = xs.getD i 0 := by simp [List.getD, h]
theorem getD_drop (xs : List Nat) (n i : Nat) : (xs.drop n).getD i 0 = xs.getD (n + i) 0 := by simp [List.getD]

theorem Seg.take {w : World} {B : Nat} {ao : Option Addr} {len cap : Nat} {xs : List Nat} (h : Seg w B ao len cap xs) {n : Nat} (hn : n ≤ len) : Seg w B ao n n (xs.take n) := by
  refine ⟨by simp [h.len_eq, hn], Nat.le_refl _, by have := h.le; have := h.cap_le; omega, fun x hx => h.small x (List.mem_of_mem_take hx), fun h0 => ?_⟩
  obtain ⟨b, off, h1, h2, h3, h4⟩ := h.cells (by omega)
  exact ⟨b, off, h1, h2, h3, fun i hi => by rw [getD_take _ _ _ hi]; exact h4 i (by omega)⟩

theorem Seg.drop {w : World} {B b off : Nat} {ao' : Option Addr} {len cap : Nat} {xs : List Nat} (h : Seg w B (some ⟨b, off, none⟩) len cap xs) {n : Nat} (hn : n ≤ len) (hao : n < len → ao' = some ⟨b, off + n, none⟩) : Seg w B ao' (len - n) (cap - n) (xs.drop n) := by
  refine ⟨by simp [h.len_eq], by have := h.le; omega, by have := h.cap_le; omega, fun x hx => h.small x (List.mem_of_mem_drop hx), fun h0 => ?_⟩
  obtain ⟨b', off', h1, h2, h3, h4⟩ := h.cells (by omega)
  simp only [Option.some.injEq, Addr.mk.injEq, and_true] at h1
  obtain ⟨rfl, rfl⟩ := h1
  refine ⟨b, off + n, hao (by omega), h2, h3, fun i hi => ?_⟩
  rw [getD_drop, Nat.add_assoc]
  exact h4 (n + i) (by omega)

set_option maxHeartbeats 400000 in
theorem bytes_bad (Pb n : Nat) (v : Value) (w : World) (h : At w Pb #[v, .bool true] 37) :
    Calls Yba.prog 13 #[.pointer (some ⟨Pb, 0, none⟩), .int .i64 n] w fun e w' => e = .returned (.slice none 0 0) ∧ w.setCell ⟨Pb, 1, none⟩ (.bool true) = w' := by
  have hc1 := h.cell 1
  have hf1 := h.free 1
  simp at hc1
  clear h
  go_enter Yba.func13, Yba.ntmps13
  go_wp2
  go_ret
  exact ⟨rfl, rfl⟩

set_option maxHeartbeats 400000 in
theorem bytes_long (Pb n len cap : Nat) (ao : Option Addr) (w : World) (h : At w Pb #[.slice ao len cap, .bool false] 37) (hl : len < n) (hn : n ≤ 65535) :
    Calls Yba.prog 13 #[.pointer (some ⟨Pb, 0, none⟩), .int .i64 n] w fun e w' => e = .returned (.slice none 0 0) ∧ w.setCell ⟨Pb, 1, none⟩ (.bool true) = w' := by
  have hc0 := h.cell 0
  have hc1 := h.cell 1
  have hf1 := h.free 1
  simp at hc0 hc1
  clear h
  go_enter Yba.func13, Yba.ntmps13
  go_wp2
  go_ret
  exact ⟨rfl, rfl⟩

set_option maxHeartbeats 400000 in
theorem bytes_some (Pb n len cap b off : Nat) (w : World) (h : At w Pb #[.slice (some ⟨b, off, none⟩) len cap, .bool false] 37) (hl : n ≤ len) (hlc : len ≤ cap) (hc : cap ≤ 9223372036854775807) :
    Calls Yba.prog 13 #[.pointer (some ⟨Pb, 0, none⟩), .int .i64 n] w fun e w' => e = .returned (.slice (some ⟨b, off, none⟩) n n) ∧ ∃ ao', (n < len → ao' = some ⟨b, off + n, none⟩) ∧ w.setCell ⟨Pb, 0, none⟩ (.slice ao' (len - n) (cap - n)) = w' := by
  have hc0 := h.cell 0
  have hc1 := h.cell 1
  have hf0 := h.free 0
  simp at hc0 hc1
  clear h
  go_enter Yba.func13, Yba.ntmps13
  go_wp2
  · go_ret
    exact ⟨rfl, _, fun h => by omega, rfl⟩
  · go_ret
    exact ⟨rfl, _, fun _ => rfl, rfl⟩

set_option maxHeartbeats 400000 in
theorem bytes_zero (Pb len cap : Nat) (ao : Option Addr) (w : World) (h : At w Pb #[.slice ao len cap, .bool false] 37) (hlc : len ≤ cap) (hc : cap ≤ 9223372036854775807) :
    Calls Yba.prog 13 #[.pointer (some ⟨Pb, 0, none⟩), .int .i64 0] w fun e w' => e = .returned (.slice ao 0 0) ∧ w.setCell ⟨Pb, 0, none⟩ (.slice ao len cap) = w' := by
  have hc0 := h.cell 0
  have hc1 := h.cell 1
  have hf0 := h.free 0
  simp at hc0 hc1
  clear h
  go_enter Yba.func13, Yba.ntmps13
  go_wp2
  go_ret
  exact ⟨rfl, rfl⟩

/-! ### The plain model of the reads: 'none': the parser is bad. -/
def pBytes (n : Nat) : Option (List Nat) → Option (List Nat) × Option (List Nat)
  | none => (none, none)
  | some xs => if n ≤ xs.length then (some (xs.take n), some (xs.drop n)) else (none, none)

def pU8 (st : Option (List Nat)) : Nat × Option (List Nat) := (((pBytes 1 st).1.getD []).getD 0 0, (pBytes 1 st).2)
def pU16 (st : Option (List Nat)) : Nat × Option (List Nat) := (((pBytes 2 st).1.getD []).getD 0 0 * 256 + ((pBytes 2 st).1.getD []).getD 1 0, (pBytes 2 st).2)
def pV8 (st : Option (List Nat)) : Option (List Nat) × Option (List Nat) := pBytes (pU8 st).1 (pU8 st).2
def pV16 (st : Option (List Nat)) : Option (List Nat) × Option (List Nat) := pBytes (pU16 st).1 (pU16 st).2

/-- The parser's struct in memory. -/
def PSt (w : World) (Pb B : Nat) : Option (List Nat) → Prop
  | none => ∃ v, At w Pb #[v, .bool true] 37
  | some xs => ∃ ao len cap, At w Pb #[.slice ao len cap, .bool false] 37 ∧ Seg w B ao len cap xs

/-- A slice that a read hands back. -/
def RV (w : World) (B : Nat) (v : Value) : Option (List Nat) → Prop
  | none => v = .slice none 0 0
  | some ys => ∃ ao cap, v = .slice ao ys.length cap ∧ Seg w B ao ys.length cap ys

theorem PSt.bad {w : World} {Pb B : Nat} {v : Value} {bd : Bool} (h : At w Pb #[v, .bool bd] 37) : PSt (w.setCell ⟨Pb, 1, none⟩ (.bool true)) Pb B none :=
  ⟨v, by simpa using h.set 1 (.bool true)⟩

theorem bytes_any (Pb n B : Nat) (st : Option (List Nat)) (w : World) (hP : PSt w Pb B st) (hB : B ≤ Pb) (hn : n ≤ 65535) :
    Calls Yba.prog 13 #[.pointer (some ⟨Pb, 0, none⟩), .int .i64 n] w fun e w' => ∃ v, e = .returned v ∧ RV w' B v (pBytes n st).1 ∧ PSt w' Pb B (pBytes n st).2 ∧ Same [Pb] w w' := by
  have hsame : ∀ o v, Same [Pb] w (w.setCell ⟨Pb, o, none⟩ v) := fun o v => (Same.refl _ _).setCell (.inl (by simp)) _
  cases st with
  | none =>
    obtain ⟨v, h⟩ := hP
    refine (bytes_bad Pb n v w h).mono ?_
    rintro e w' ⟨rfl, rfl⟩
    exact ⟨_, rfl, rfl, PSt.bad h, hsame _ _⟩
  | some xs =>
    obtain ⟨ao, len, cap, h, hseg⟩ := hP
    have hl := hseg.len_eq
    by_cases hnl : n ≤ xs.length
    · have e1 : pBytes n (some xs) = (some (xs.take n), some (xs.drop n)) := by simp [pBytes, hnl]
      rw [e1]
      by_cases hlen : 0 < len
      · obtain ⟨b, off, rfl, hb, hbw, hcell⟩ := hseg.cells hlen
        refine (bytes_some Pb n len cap b off w h (by omega) hseg.le hseg.cap_le).mono ?_
        rintro e w' ⟨rfl, ao', hao, rfl⟩
        have hseg' := hseg.same (hsame 0 (.slice ao' (len - n) (cap - n))) (by simpa using hB)
        refine ⟨_, rfl, ⟨some ⟨b, off, none⟩, n, by simp [show min n xs.length = n by omega], by simpa [show min n xs.length = n by omega] using hseg'.take (n := n) (by omega)⟩, ⟨ao', len - n, cap - n, by simpa using h.set 0 (.slice ao' (len - n) (cap - n)), hseg'.drop (by omega) hao⟩, hsame _ _⟩
      · have hn0 : n = 0 := by omega
        subst hn0
        have hx : xs = [] := List.eq_nil_of_length_eq_zero (by omega)
        subst hx
        refine (bytes_zero Pb len cap ao w h hseg.le hseg.cap_le).mono ?_
        rintro e w' ⟨rfl, rfl⟩
        have hseg' := hseg.same (hsame 0 (.slice ao len cap)) (by simpa using hB)
        refine ⟨_, rfl, ⟨ao, 0, rfl, ?_⟩, ⟨ao, len, cap, by simpa using h.set 0 (.slice ao len cap), by simpa using hseg'⟩, hsame _ _⟩
        simpa using hseg'.take (n := 0) (by omega)
    · have e1 : pBytes n (some xs) = (none, none) := by simp [pBytes, hnl]
      rw [e1]
      refine (bytes_long Pb n len cap ao w h (by omega) hn).mono ?_
      rintro e w' ⟨rfl, rfl⟩
      exact ⟨_, rfl, rfl, PSt.bad h, hsame _ _⟩

theorem pBytes_form (n : Nat) (st : Option (List Nat)) : pBytes n st = (none, none) ∨ ∃ xs, st = some xs ∧ n ≤ xs.length ∧ pBytes n st = (some (xs.take n), some (xs.drop n)) := by
  cases st with
  | none => exact .inl rfl
  | some xs =>
    by_cases h : n ≤ xs.length
    · exact .inr ⟨xs, rfl, h, by simp [pBytes, h]⟩
    · exact .inl (by simp [pBytes, h])

theorem u8_lt (st : Option (List Nat)) {w : World} {Pb B : Nat} (h : PSt w Pb B st) : (pU8 st).1 ≤ 255 := by
  unfold pU8
  rcases pBytes_form 1 st with e | ⟨xs, rfl, hl, e⟩
  · rw [e]; simp
  · rw [e]
    obtain ⟨ao, len, cap, _, hseg⟩ := h
    match xs, hl with
    | x :: xs, _ =>
      have := hseg.small x (by simp)
      simp
      omega

set_option maxHeartbeats 400000 in
theorem u8_any (Pb B : Nat) (st : Option (List Nat)) (w : World) (hP : PSt w Pb B st) (hB : B ≤ Pb) :
    Calls Yba.prog 14 #[.pointer (some ⟨Pb, 0, none⟩)] w fun e w' => e = .returned (.int .u8 ((pU8 st).1 : Nat)) ∧ PSt w' Pb B (pU8 st).2 ∧ Same [Pb] w w' := by
  have hneq := fun (w : World) (a : Option Addr) (n c : Nat) => run_neq_slice_nil_any (P := Yba.prog) w 22 5 a n c 0 0 Yba.underlying22
  have H := bytes_any Pb 1 B st w hP hB (by omega)
  unfold pU8
  rcases pBytes_form 1 st with e | ⟨xs, rfl, hl, e⟩
  · rw [e] at H ⊢
    clear e hP
    go_enter Yba.func14, Yba.ntmps14
    go_wp2_with fail
    refine H.mono ?_
    rintro e w1 ⟨v, rfl, rfl, hst, hs⟩
    have HS : Hid _ := And.intro hst hs
    clear hst hs H
    go_wp2
    go_ret
    exact ⟨rfl, HS.out.1, HS.out.2⟩
  · rw [e] at H ⊢
    clear e hP
    match xs, hl with
    | x :: xs, _ =>
      simp only [List.take_succ_cons, List.take_zero, List.drop_succ_cons, List.drop_zero, Option.getD_some, List.getD_cons_zero] at H ⊢
      go_enter Yba.func14, Yba.ntmps14
      go_wp2_with fail
      refine H.mono ?_
      rintro e w1 ⟨v, rfl, ⟨ao, cap, rfl, hseg⟩, hst, hs⟩
      obtain ⟨b, off, rfl, _, _, hc⟩ := hseg.cells (by simp)
      have hc0 := hc 0 (by simp)
      simp at hc0
      have HS : Hid _ := And.intro hst hs
      clear hst hs H hc hseg
      go_wp2
      go_ret
      exact ⟨rfl, HS.out.1, HS.out.2⟩
end Go.Proofs.Ybulkbksy
