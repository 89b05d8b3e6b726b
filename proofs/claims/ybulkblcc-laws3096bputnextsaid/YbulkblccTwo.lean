/-
  The two rows of numbers that the law lays beside the sim; what each step does to them. No walk in this text.
-/
import Derived.Test.YbulkblccRows
import Derived.Test.YbulkblccLw
import Derived.WalkKit
import Derived.LaidEql
import Derived.WalkLawsBesides
import Derived.WalkSpells
import Derived.BigQuiet
import Derived.Deep.LoopGhost
import Derived.Deep.QuietTactic
import Derived.Deep.Cut
import Derived.Deep.CutRange
import Derived.Deep.DeepCutAuto
import Derived.Deep.DeepMust
namespace Go.Proofs.Ybulkblcc
open Go.RowKit
set_option linter.unusedVariables false



theorem ptr_neq (a : Addr) (w : World) : (binOp .neq 49 (.pointer (some a)) (.pointer (some a))).run Yba.prog w = .ok (.bool false) w := by
  obtain ⟨j, hj⟩ : ∃ j, Yba.prog.info? 58 = some j := ⟨Yba.t58, by kernel_rfl⟩
  have h : ∀ d : Nat, (Op.equalIn (d + 1) 49 (.pointer (some a)) (.pointer (some a))).run Yba.prog w = .ok true w := fun d => by
    simp [Op.equalIn, run_underlying Yba.underlying49, sizeOf, typeInfo, hj, run_sameAddr_same]
  simp only [binOp]
  simp [Op.equal, Op.maxDepth, h 9999]

theorem GId.new (w : World) (xs : Array Value) (id : Int) (h : xs[0]? = some (.int .i64 id)) : GId (w.alloc (.cells xs 58)) (.pointer (some ⟨w.heap.size, 0, none⟩)) id :=
  ⟨w.heap.size, xs, rfl, At.new _ _ _, h⟩

theorem Fr.alloc (B : Nat) (w : World) (hB : B ≤ w.heap.size) (o : Obj) : Fr [] B w (w.alloc o) := Fr.ofSame (S := []) ((Same.refl [] w).alloc o) hB (by simp)
theorem Fr.ofBelow {w w' : World} {B : Nat} (h : Below w.heap.size w w') (hB : B ≤ w.heap.size) : Fr [] B w w' :=
  ⟨h.mono hB, fun k cur e _ ha => ha.ofBlock (h.block k ha.lt)⟩

def rA (a3 : Bool) (n : Nat) : List Int := if a3 then ridsAfter (up n) 1000 else up n
def gA (a3 : Bool) (n q : Nat) : List Int := if a3 then gidsAfter (up n) (gup q) 1000 else gup q

theorem rA_room {a3 : Bool} {n : Nat} (hn : n < 256) (h : a3 = true) : rA a3 n = up n ++ [1000] := by
  subst h
  simp [rA, ridsAfter, up_len, hn]
theorem gA_room {a3 : Bool} {n q : Nat} (hn : n < 256) : gA a3 n q = gup q := by
  cases a3 <;> simp [gA, gidsAfter, up_len, hn]
theorem rA_full : rA true 256 = (up 256).drop 128 := by simp [rA, ridsAfter, up_len]
theorem up_take : (up 256).take 128 = up 128 := by decide
theorem gA_full (q : Nat) : gA true 256 q = gup q ++ up 128 ++ [1000] := by
  simp only [gA, gidsAfter, up_len, up_take]
  rfl
theorem gA_len (a3 : Bool) (n : Nat) {q : Nat} (hq : q < 8) : (gA a3 n q).length < 1000 := by
  unfold gA gidsAfter
  split
  · split
    · rw [gup_len]; omega
    · simp [gup_len]; omega
  · rw [gup_len]; omega
theorem drop_zero : (up 128).drop 128 = [] := by decide
theorem drop_step {j : Nat} (hj : 128 ≤ j) : (up (j + 1)).drop 128 = (up j).drop 128 ++ [(j : Int) + 1] := by
  rw [up_succ, List.drop_append_of_le_length (by rw [up_len]; exact hj)]

/-- 'globalWant' at vg, 'ringWant' at vr. -/
structure Two (B : Nat) (vg vr : Value) (gl rl : List Int) (w : World) : Prop where
  g : w.ownsRow B 3 1 vg gl.length (gl.map iv)
  r : w.ownsRow B 3 1 vr rl.length (rl.map iv)
  d : ∀ k, vg.ownBlock = some k → vr.ownBlock ≠ some k

section
variable {B : Nat} {vg vr : Value} {gl rl : List Int} {w w' : World}
theorem Two.addG {id : Int} {g1 c : Nat} (h : Two B vg vr gl rl w) (ho : w'.ownsRow B 3 1 (.slice (some ⟨g1, 0, none⟩) (gl.length + 1) c) (gl.length + 1) (gl.map iv ++ [.int .i64 id])) (hs : Same vg.ownBlock.toList w w') (hat : vg.ownBlock = some g1 ∨ w.heap.size ≤ g1) :
    Two B (.slice (some ⟨g1, 0, none⟩) (gl.length + 1) c) vr (gl ++ [id]) rl w' := by
  refine ⟨by simpa [iv] using ho, hs.owns h.r (fun k hk hm => h.d k (by simpa using hm) hk), fun k hk hk' => ?_⟩
  simp [Value.ownBlock] at hk
  subst hk
  rcases hat with hat | hat
  · exact h.d _ hat hk'
  · obtain ⟨_, cur, hc⟩ := owns_block h.r hk'
    have := hc.lt
    omega
theorem Two.addR {id : Int} {g1 c : Nat} (h : Two B vg vr gl rl w) (ho : w'.ownsRow B 3 1 (.slice (some ⟨g1, 0, none⟩) (rl.length + 1) c) (rl.length + 1) (rl.map iv ++ [.int .i64 id])) (hs : Same vr.ownBlock.toList w w') (hat : vr.ownBlock = some g1 ∨ w.heap.size ≤ g1) :
    Two B vg (.slice (some ⟨g1, 0, none⟩) (rl.length + 1) c) gl (rl ++ [id]) w' := by
  refine ⟨hs.owns h.g (fun k hk hm => h.d k hk (by simpa using hm)), by simpa [iv] using ho, fun k hk hk' => ?_⟩
  simp [Value.ownBlock] at hk'
  subst hk'
  rcases hat with hat | hat
  · exact h.d _ hk hat
  · obtain ⟨_, cur, hc⟩ := owns_block h.g hk
    have := hc.lt
    omega
theorem Two.start (h : w.ownsRow B 3 1 vg gl.length (gl.map iv)) (hB : B ≤ w.heap.size) : Two B vg (.slice (some ⟨w.heap.size, 0, none⟩) 0 0) gl [] (w.alloc (.cells #[] 3)) := by
  refine ⟨h.alloc _, own_new w B hB, fun k hk hk' => ?_⟩
  simp [Value.ownBlock] at hk'
  subst hk'
  obtain ⟨_, cur, hc⟩ := owns_block h hk
  have := hc.lt
  omega
theorem fr_row {v : Value} {n : Nat} {xs : List Value} (ho : w.ownsRow B 3 1 v n xs) (hs : Same v.ownBlock.toList w w') (hB : B ≤ w.heap.size) : Fr [3] B w w' :=
  Fr.ofSame hs hB (by intro b hb; obtain ⟨hg, cur, hc⟩ := owns_block ho (by simpa using hb); exact ⟨hg, cur, 3, by simp, hc⟩)
end

section
variable {w0 : World} {Sb Pb : Nat} {now : Int} {rids gids : List Int} {nx nxAt : Value} {w w' : World}
theorem Lw.row {v : Value} {n : Nat} {xs : List Value} (h : Lw w0 Sb Pb now rids gids nx nxAt w) (ho : w.ownsRow w0.heap.size 3 1 v n xs) (hs : Same v.ownBlock.toList w w') : Lw w0 Sb Pb now rids gids nx nxAt w' :=
  h.fr (fr_row ho hs h.below.size) (by decide) (by decide) (by decide) (by decide)
theorem Lw.slot (h : Lw w0 Sb Pb now rids gids nx nxAt w) (u v : Value) : Lw w0 Sb Pb now rids gids u v ((w.setCell ⟨Pb, 2, none⟩ u).setCell ⟨Pb, 3, none⟩ v) ∧ Fr [47, 54, 49] w0.heap.size w ((w.setCell ⟨Pb, 2, none⟩ u).setCell ⟨Pb, 3, none⟩ v) := by
  obtain ⟨head, L, G, vG, hs, hL, hG⟩ := h.st
  have h1 := hs.slot u v
  exact ⟨⟨⟨head, L, G, vG, h1.1, hL.fr h1.2 (by decide), hG.fr h1.2 (by decide)⟩, h.below.trans h1.2.below⟩, h1.2⟩
theorem Lw.cells (h : Lw w0 Sb Pb now rids gids nx nxAt w) : w.cell? ⟨Sb, 5, none⟩ = some (.int .i64 now) ∧ w.cell? ⟨Pb, 2, none⟩ = some nx ∧ w.cell? ⟨Pb, 3, none⟩ = some nxAt ∧ w.cell? ⟨Pb, 0, none⟩ = some (.int .i64 3) ∧ w.cell? ⟨Pb, 1, none⟩ = some (.pointer none) ∧
    w.cell? ⟨Pb, 262, none⟩ = some (.int .i64 0) ∧ w.cell? ⟨Pb, 263, none⟩ = some (.int .i64 0) ∧ w.frozen? ⟨Pb, 2, none⟩ = false ∧ w.frozen? ⟨Pb, 3, none⟩ = false := by
  obtain ⟨head, L, G, vG, hs, hL, hG⟩ := h.st
  obtain ⟨fp, hP, hR, h0, h1, h2, h3, h4, h5⟩ := hs.p
  refine ⟨hs.cNow, hs.cNx, hs.cNxAt, ?_, ?_, ?_, ?_, hs.fP 2, hs.fP 3⟩
  · rw [hP.cell (by omega), h0]
  · rw [hP.cell (by omega), h1]
  · rw [hP.cell (by omega), h4]
  · rw [hP.cell (by omega), h5]
end
end Go.Proofs.Ybulkblcc
