/-
  The ring in a P's block, the queue in the sim's block: what they hold, plainly; and the contracts of their methods.
-/
import Derived.Test.YbulkblccRows
import Derived.Test.YbulkblccHeap
import Derived.WalkKit
import Derived.WalkLawsBesides
import Derived.WalkSpells
import Derived.BigQuiet
import Derived.Deep.LoopGhost
import Derived.Deep.QuietTactic
import Derived.Deep.Cut
import Derived.Deep.CutRange
import Derived.Deep.DeepCutAuto
import Derived.Deep.DeepMust
namespace Go.Proofs.Ybulkblcc
open Go.RowKit
set_option linter.unusedVariables false

/-- A block of n cells of type e, the i-th holding 'f i'. -/
def Blk (w : World) (b : Nat) (e : TypeId) (n : Nat) (f : Nat → Value) : Prop := ∃ cur, At w b cur e ∧ cur.size = n ∧ ∀ i, i < n → cur[i]? = some (f i)

def upd (f : Nat → Value) (i : Nat) (v : Value) : Nat → Value := fun j => if j = i then v else f j

theorem upd_same (f : Nat → Value) (i : Nat) (v : Value) : upd f i v i = v := by simp [upd]
theorem upd_ne (f : Nat → Value) {i j : Nat} (v : Value) (h : j ≠ i) : upd f i v j = f j := by simp [upd, h]

section
variable {w w' : World} {b n : Nat} {e : TypeId} {f : Nat → Value}
theorem Blk.cell (h : Blk w b e n f) {i : Nat} (hi : i < n) : w.cell? ⟨b, i, none⟩ = some (f i) := by
  obtain ⟨cur, h1, _, h3⟩ := h
  rw [h1.cell, h3 i hi]
theorem Blk.free (h : Blk w b e n f) (i : Nat) : w.frozen? ⟨b, i, none⟩ = false := by
  obtain ⟨cur, h1, _⟩ := h
  exact h1.free i
theorem Blk.lt (h : Blk w b e n f) : b < w.heap.size := by
  obtain ⟨cur, h1, _⟩ := h
  exact h1.lt
theorem Blk.set (h : Blk w b e n f) (i : Nat) (v : Value) (hi : i < n) : Blk (w.setCell ⟨b, i, none⟩ v) b e n (upd f i v) := by
  obtain ⟨cur, h1, h2, h3⟩ := h
  refine ⟨_, h1.set i v, by simpa using h2, fun j hj => ?_⟩
  by_cases hji : j = i
  · subst hji
    rw [upd_same, Array.getElem?_setIfInBounds_self_of_lt (by omega)]
  · rw [upd_ne _ _ hji, Array.getElem?_setIfInBounds_ne (by omega)]
    exact h3 j hj
theorem Blk.same {S : List Nat} (h : Blk w b e n f) (hs : Same S w w') (hb : b ∉ S) : Blk w' b e n f := by
  obtain ⟨cur, h1, h2, h3⟩ := h
  exact ⟨cur, hs.at_ h1 hb, h2, h3⟩
theorem Blk.drewN (h : Blk w b e n f) (k : Nat) : Blk (w.drewN k) b e n f := h
theorem Blk.ne {b' n' : Nat} {e' : TypeId} {f' : Nat → Value} (h : Blk w b e n f) (h' : Blk w b' e' n' f') (he : e ≠ e') : b ≠ b' := by
  obtain ⟨cur, h1, _⟩ := h
  obtain ⟨cur', h1', _⟩ := h'
  exact h1.ne h1' he
theorem Blk.congr {f' : Nat → Value} (h : Blk w b e n f) (hf : ∀ i, i < n → f i = f' i) : Blk w b e n f' := by
  obtain ⟨cur, h1, h2, h3⟩ := h
  exact ⟨cur, h1, h2, fun i hi => by rw [h3 i hi, hf i hi]⟩
end

/-- The ring's cells in a P's block (the array at 4 .. 259, the head at 260, the count at 261): the list L, oldest first. -/
structure Ring (f : Nat → Value) (head : Nat) (L : List Value) : Prop where
  hd : head < 256
  len : L.length ≤ 256
  fh : f 260 = .int .i64 head
  fn : f 261 = .int .i64 L.length
  at_ : ∀ i v, L[i]? = some v → f (4 + (head + i) % 256) = v
  off : ∀ j, j < 256 → (∀ i, i < L.length → (head + i) % 256 ≠ j) → f (4 + j) = .pointer none

theorem Ring.push {f : Nat → Value} {head : Nat} {L : List Value} (h : Ring f head L) (hl : L.length < 256) (v : Value) :
    Ring (upd (upd f (4 + (head + L.length) % 256) v) 261 (.int .i64 ((L.length : Int) + 1))) head (L ++ [v]) := by
  have hm : (head + L.length) % 256 < 256 := Nat.mod_lt _ (by decide)
  refine ⟨h.hd, by simp; omega, ?_, ?_, ?_, ?_⟩
  · rw [upd_ne _ _ (by omega), upd_ne _ _ (by omega)]; exact h.fh
  · rw [upd_same]; simp
  · intro i u hu
    have hi := (List.getElem?_eq_some_iff.1 hu).1
    simp at hi
    rw [upd_ne _ _ (by omega)]
    by_cases hil : i = L.length
    · subst hil
      simp at hu
      rw [upd_same, hu]
    · rw [List.getElem?_append_left (by omega)] at hu
      rw [upd_ne _ _ (by have := h.hd; omega)]
      exact h.at_ i u hu
  · intro j hj hno
    have h1 := hno L.length (by simp)
    rw [upd_ne _ _ (by omega), upd_ne _ _ (by omega)]
    exact h.off j hj (fun i hi => hno i (by simp; omega))

theorem Ring.pop {f : Nat → Value} {head : Nat} {L : List Value} {v : Value} (h : Ring f head (v :: L)) :
    f (4 + head) = v ∧ Ring (upd (upd (upd f (4 + head) (.pointer none)) 260 (.int .i64 (((head + 1) % 256 : Nat) : Int))) 261 (.int .i64 (L.length : Int))) ((head + 1) % 256) L := by
  have hd := h.hd
  have hlen := h.len
  simp at hlen
  constructor
  · have := h.at_ 0 v rfl
    rw [Nat.add_zero, Nat.mod_eq_of_lt hd] at this
    exact this
  · refine ⟨Nat.mod_lt _ (by decide), by omega, ?_, ?_, ?_, ?_⟩
    · rw [upd_ne _ _ (by omega), upd_same]
    · rw [upd_same]
    · intro i u hu
      have hi := (List.getElem?_eq_some_iff.1 hu).1
      have h1 := h.at_ (i + 1) u (by simpa using hu)
      have e : ((head + 1) % 256 + i) % 256 = (head + (i + 1)) % 256 := by omega
      rw [e, upd_ne _ _ (by omega), upd_ne _ _ (by omega), upd_ne _ _ (by omega)]
      exact h1
    · intro j hj hno
      rw [upd_ne _ _ (by omega), upd_ne _ _ (by omega)]
      by_cases hjh : j = head
      · subst hjh; rw [upd_same]
      · rw [upd_ne _ _ (by omega)]
        refine h.off j hj (fun i hi => ?_)
        rcases Nat.eq_zero_or_pos i with rfl | hp
        · omega
        · have := hno (i - 1) (by simp at hi; omega)
          omega

set_option maxHeartbeats 400000 in
theorem push_any (Pb head : Nat) (L : List Value) (f : Nat → Value) (g : Addr) (w : World) (hB : Blk w Pb 54 264 f) (hR : Ring f head L) (hl : L.length < 256) :
    Calls Yba.prog 4 #[.pointer (some ⟨Pb, 4, none⟩), .pointer (some g)] w fun e w' => e = .returned (.tuple #[]) ∧ Same [Pb] w w' ∧ Blk w' Pb 54 264 (upd (upd f (4 + (head + L.length) % 256) (.pointer (some g))) 261 (.int .i64 ((L.length : Int) + 1))) := by
  have hd := hR.hd
  have hch := hB.cell (i := 260) (by omega)
  have hcn := hB.cell (i := 261) (by omega)
  rw [hR.fh] at hch
  rw [hR.fn] at hcn
  have hm : (head + L.length) % 256 < 256 := Nat.mod_lt _ (by decide)
  have hca := hB.cell (i := 4 + (head + L.length) % 256) (by omega)
  have hfa := hB.free (4 + (head + L.length) % 256)
  have hfn := hB.free 261
  have HB : Hid (Blk w Pb 54 264 f) := hB
  have hn256 : ((L.length : Int) == 256) = false := beq_eq_false_iff_ne.2 (by omega)
  clear hB hR
  generalize hLg : L.length = n at *
  have hmI : ((head : Int) + (n : Int)) % 256 = (((head + n) % 256 : Nat) : Int) := by omega
  generalize hq : (head + n) % 256 = q at *
  have hqne : q ≠ 257 := by omega
  clear hLg hq
  go_enter Yba.func4, Yba.ntmps4
  go_wp2_with fail
  go_region
  all_goals (go_wp2_with fail)
  go_end0
  have hB : Blk w Pb 54 264 f := HB
  refine ⟨rfl, (((Same.refl [Pb] w).setCell (.inl (by simp)) _).setCell (.inl (by simp)) _).drew, ?_⟩
  exact ((hB.set (4 + q) (.pointer (some g)) (by omega)).set 261 _ (by omega)).drewN 1

theorem len_any (Pb head : Nat) (L : List Value) (f : Nat → Value) (w : World) (hB : Blk w Pb 54 264 f) (hR : Ring f head L) :
    Calls Yba.prog 11 #[.pointer (some ⟨Pb, 4, none⟩)] w fun e w' => e = .returned (.int .i64 L.length) ∧ w = w' := by
  have hcn := hB.cell (i := 261) (by omega)
  rw [hR.fn] at hcn
  clear hB hR
  generalize L.length = n at *
  go_enter Yba.func11, Yba.ntmps11
  go_wp2_with fail
  go_ret
  exact ⟨rfl, rfl⟩

set_option maxHeartbeats 400000 in
theorem pop_any (Pb head : Nat) (L : List Value) (f : Nat → Value) (v : Value) (w : World) (hB : Blk w Pb 54 264 f) (hR : Ring f head (v :: L)) :
    Calls Yba.prog 12 #[.pointer (some ⟨Pb, 4, none⟩)] w fun e w' => e = .returned v ∧ Same [Pb] w w' ∧ Blk w' Pb 54 264 (upd (upd (upd f (4 + head) (.pointer none)) 260 (.int .i64 (((head + 1) % 256 : Nat) : Int))) 261 (.int .i64 (L.length : Int))) := by
  have hd := hR.hd
  have hch := hB.cell (i := 260) (by omega)
  have hcn := hB.cell (i := 261) (by omega)
  rw [hR.fh] at hch
  rw [hR.fn] at hcn
  have hca := hB.cell (i := 4 + head) (by omega)
  rw [hR.pop.1] at hca
  have hfa := hB.free (4 + head)
  have hfh := hB.free 260
  have hfn := hB.free 261
  have HB : Hid (Blk w Pb 54 264 f) := hB
  have hn0 : (((v :: L).length : Int) == 0) = false := beq_eq_false_iff_ne.2 (by simp; omega)
  have hlen := hR.len
  simp only [List.length_cons] at hlen hcn hn0
  clear hB hR
  generalize hLg : L.length = n at *
  push_cast at hcn hn0
  have hmI : ((head : Int) + 1) % 256 = (((head + 1) % 256 : Nat) : Int) := by omega
  have hmlt : (head + 1) % 256 < 256 := Nat.mod_lt _ (by decide)
  generalize hq : (head + 1) % 256 = q at *
  have hqne : head ≠ 257 := by omega
  have hqne' : head ≠ 256 := by omega
  clear hLg hq
  go_enter Yba.func12, Yba.ntmps12
  go_wp2_with fail
  go_region
  go_wp2_with fail
  go_region
  go_wp2_with fail
  go_ret
  have hB : Blk w Pb 54 264 f := HB
  refine ⟨rfl, ((((Same.refl [Pb] w).setCell (.inl (by simp)) _).setCell (.inl (by simp)) _).setCell (.inl (by simp)) _).drewN 2, ?_⟩
  exact (((hB.set (4 + head) (.pointer none) (by omega)).set 260 _ (by omega)).set 261 _ (by omega)).drewN 2

end Go.Proofs.Ybulkblcc
