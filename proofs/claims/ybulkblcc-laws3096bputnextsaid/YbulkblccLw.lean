/-
  What the law keeps from step to step, and the callees' contracts over it. No walk in this text.
-/
import Derived.Test.YbulkblccRows
import Derived.Test.YbulkblccRids
import Derived.WalkKit
import Derived.WalkLawsBesides
import Derived.WalkSpells
import Derived.BigQuiet
import Derived.Deep.LoopGhost
import Derived.Deep.QuietTactic
import Derived.Deep.Cut
import Derived.Deep.CutRange
import Derived.Deep.DeepCutAuto
import Derived.Deep.DeepMust
namespace Go.Proofs.Ybulkblcc
open Go.RowKit
set_option linter.unusedVariables false



def zf (i : Nat) : Value := if i = 0 then .int .i64 0 else if i = 1 then .pointer none else if i = 2 then .pointer none else if i = 3 then .int .i64 0 else if i < 260 then .pointer none else .int .i64 0
def pZero : Array Value := (Array.range 264).map zf
theorem zero54 (w : World) : (zeroValue 54).run Yba.prog w = .ok (.agg pZero) w := by kernel_rfl
theorem pZero_ne : ¬ pZero = #[] := by
  intro h
  have := congrArg Array.size h
  simp [pZero] at this

theorem Blk.ofAt {w : World} {b : Nat} {cur : Array Value} {e : TypeId} (h : At w b cur e) : Blk w b e cur.size (fun i => cur.getD i (.bool false)) :=
  ⟨cur, h, rfl, fun i hi => by simp [hi]⟩

structure Lw (w0 : World) (Sb Pb : Nat) (now : Int) (rids gids : List Int) (nx nxAt : Value) (w : World) : Prop where
  st : ∃ head L G vG, St w0.heap.size Sb Pb now head L G vG nx nxAt w ∧ GIds w L rids ∧ GIds w G gids
  below : Below w0.heap.size w0 w

section
variable {w0 : World} {Sb Pb : Nat} {now : Int} {rids gids : List Int} {nx nxAt : Value} {w w' : World}

theorem Lw.fr {T : List TypeId} (h : Lw w0 Sb Pb now rids gids nx nxAt w) (hf : Fr T w0.heap.size w w') (h1 : 47 ∉ T) (h2 : 54 ∉ T) (h3 : 49 ∉ T) (h4 : 58 ∉ T) : Lw w0 Sb Pb now rids gids nx nxAt w' := by
  obtain ⟨head, L, G, vG, hs, hL, hG⟩ := h.st
  exact ⟨⟨head, L, G, vG, hs.fr hf h1 h2 h3, hL.fr hf h4, hG.fr hf h4⟩, h.below.trans hf.below⟩
theorem Lw.alloc (h : Lw w0 Sb Pb now rids gids nx nxAt w) (o : Obj) : Lw w0 Sb Pb now rids gids nx nxAt (w.alloc o) :=
  h.fr (T := []) (Fr.ofSame (S := []) ((Same.refl [] w).alloc o) h.below.size (by simp)) (by simp) (by simp) (by simp) (by simp)
theorem Lw.len (h : Lw w0 Sb Pb now rids gids nx nxAt w) : rids.length ≤ 256 := by
  obtain ⟨head, L, G, vG, hs, hL, hG⟩ := h.st
  obtain ⟨f, _, hR, _⟩ := hs.p
  rw [← hL.1]
  exact hR.len

theorem Lw.push {a : Addr} {id : Int} (h : Lw w0 Sb Pb now rids gids nx nxAt w) (hg : GId w (.pointer (some a)) id) (hl : rids.length < 256) :
    Calls Yba.prog 4 #[.pointer (some ⟨Pb, 4, none⟩), .pointer (some a)] w fun e w' => e = .returned (.tuple #[]) ∧ Lw w0 Sb Pb now (rids ++ [id]) gids nx nxAt w' ∧ Fr [47, 54, 49] w0.heap.size w w' := by
  obtain ⟨head, L, G, vG, hs, hL, hG⟩ := h.st
  refine (push_st hs a (by rw [hL.1]; exact hl)).mono fun e w' ⟨he, h1, hf⟩ => ?_
  exact ⟨he, ⟨⟨head, _, G, vG, h1, (hL.append (GIds.one hg)).fr hf (by decide), hG.fr hf (by decide)⟩, h.below.trans hf.below⟩, hf⟩

theorem Lw.qpush {a : Addr} {id : Int} (h : Lw w0 Sb Pb now rids gids nx nxAt w) (hg : GId w (.pointer (some a)) id) (hl : gids.length < 1000) :
    Calls Yba.prog 5 #[.pointer (some ⟨Sb, 14, none⟩), .pointer (some a)] w fun e w' => e = .returned (.tuple #[]) ∧ Lw w0 Sb Pb now rids (gids ++ [id]) nx nxAt w' ∧ Fr [47, 54, 49] w0.heap.size w w' := by
  obtain ⟨head, L, G, vG, hs, hL, hG⟩ := h.st
  refine (qpush_st hs a (by rw [hG.1]; omega)).mono fun e w' ⟨he, vG', h1, hf⟩ => ?_
  exact ⟨he, ⟨⟨head, L, _, vG', h1, hL.fr hf (by decide), (hG.append (GIds.one hg)).fr hf (by decide)⟩, h.below.trans hf.below⟩, hf⟩

def ridsAfter (ids : List Int) (id : Int) : List Int := if ids.length < 256 then ids ++ [id] else ids.drop 128
def gidsAfter (ids gids : List Int) (id : Int) : List Int := if ids.length < 256 then gids else gids ++ ids.take 128 ++ [id]

theorem Lw.putNone {a : Addr} (h : Lw w0 Sb Pb now rids gids (.pointer none) nxAt w) :
    Calls Yba.prog 6 #[.pointer (some ⟨Sb, 0, none⟩), .pointer (some ⟨Pb, 0, none⟩), .pointer (some a)] w fun e w' => e = .returned (.tuple #[]) ∧ Lw w0 Sb Pb now rids gids (.pointer (some a)) (.int .i64 now) w' ∧ Fr [47, 54, 49] w0.heap.size w w' := by
  obtain ⟨head, L, G, vG, hs, hL, hG⟩ := h.st
  refine (putNext_none hs a).mono fun e w' ⟨he, h1, hf⟩ => ?_
  exact ⟨he, ⟨⟨head, L, G, vG, h1, hL.fr hf (by decide), hG.fr hf (by decide)⟩, h.below.trans hf.below⟩, hf⟩

theorem Lw.putSome {a x : Addr} {id : Int} (h : Lw w0 Sb Pb now rids gids (.pointer (some x)) nxAt w) (hx : GId w (.pointer (some x)) id) (hl : gids.length < 1000) :
    Calls Yba.prog 6 #[.pointer (some ⟨Sb, 0, none⟩), .pointer (some ⟨Pb, 0, none⟩), .pointer (some a)] w fun e w' => e = .returned (.tuple #[]) ∧ Lw w0 Sb Pb now (ridsAfter rids id) (gidsAfter rids gids id) (.pointer (some a)) (.int .i64 now) w' ∧ Fr [47, 54, 49] w0.heap.size w w' := by
  obtain ⟨head, L, G, vG, hs, hL, hG⟩ := h.st
  refine (putNext_some hs a hL.ptr (by rw [hG.1]; exact hl)).mono fun e w' ⟨he, head', vG', h1, hf⟩ => ?_
  refine ⟨he, ⟨⟨head', _, _, vG', h1, ?_, ?_⟩, h.below.trans hf.below⟩, hf⟩
  · unfold ringAfter ridsAfter
    rw [hL.1]
    split
    · exact (hL.append (GIds.one hx)).fr hf (by decide)
    · exact (hL.drop _).fr hf (by decide)
  · unfold globAfter gidsAfter
    rw [hL.1]
    split
    · exact hG.fr hf (by decide)
    · exact ((hG.append (hL.take _)).append (GIds.one hx)).fr hf (by decide)

theorem Lw.ring (h : Lw w0 Sb Pb now rids gids nx nxAt w) :
    Calls Yba.prog 7 #[.pointer (some ⟨Pb, 4, none⟩)] w fun e w' => ∃ v, e = .returned (.tuple #[v, .bool true]) ∧ w'.ownsRow w.heap.size 3 1 v rids.length (rids.map iv) ∧ Below w.heap.size w w' := by
  obtain ⟨head, L, G, vG, hs, hL, hG⟩ := h.st
  exact rids_any hs rids hL
theorem Lw.queue (h : Lw w0 Sb Pb now rids gids nx nxAt w) (hl : gids.length < 1000) :
    Calls Yba.prog 9 #[.pointer (some ⟨Sb, 14, none⟩)] w fun e w' => ∃ v, e = .returned (.tuple #[v, .bool true]) ∧ w'.ownsRow w.heap.size 3 1 v gids.length (gids.map iv) ∧ Below w.heap.size w w' := by
  obtain ⟨head, L, G, vG, hs, hL, hG⟩ := h.st
  exact qids_any hs gids hG (by rw [hG.1]; exact hl)

/-- The head's store at the start. -/
theorem St.setHead {B : Nat} (h : St B Sb Pb now 0 [] [] (.slice none 0 0) nx nxAt w) {hd : Nat} (hh : hd < 256) : St B Sb Pb now hd [] [] (.slice none 0 0) nx nxAt (w.setCell ⟨Pb, 260, none⟩ (.int .i64 hd)) ∧ Fr [54] B w (w.setCell ⟨Pb, 260, none⟩ (.int .i64 hd)) := by
  obtain ⟨fs, hS, hSr⟩ := h.sim
  obtain ⟨fp, hP, hR, h0, h1, h2, h3, h4, h5⟩ := h.p
  have hs : Same [Pb] w (w.setCell ⟨Pb, 260, none⟩ (.int .i64 hd)) := (Same.refl [Pb] w).setCell (.inl (by simp)) _
  have hf : Fr [54] B w (w.setCell ⟨Pb, 260, none⟩ (.int .i64 hd)) := Fr.ofSame hs h.size (by intro b hb; simp at hb; subst hb; obtain ⟨cur, hc, _⟩ := hP; exact ⟨h.hp, cur, 54, by simp, hc⟩)
  have hne : ∀ j, j ≠ 260 → upd fp 260 (.int .i64 hd) j = fp j := fun j h => by rw [upd_ne _ _ h]
  refine ⟨⟨⟨fs, hf.blk hS (by decide), hSr⟩, ⟨_, hP.set 260 _ (by omega), ?_, ?_, ?_, ?_, ?_, ?_, ?_⟩, World.ownsRow_nil _ _ _ _, h.hs, h.hp⟩, hf⟩
  · refine ⟨hh, by simp, ?_, ?_, by simp, ?_⟩
    · rw [upd_same]
    · rw [hne _ (by omega)]; exact hR.fn
    · intro j hj _
      rw [hne _ (by omega)]; exact hR.off j hj (by simp)
  all_goals (rw [hne _ (by omega)]; assumption)

/-- The P's block as it is made. -/
theorem blk54 {c : Nat} (hc : w.heap.size = c) : Blk (w.alloc (.cells (pZero.setIfInBounds 0 (.int .i64 3)) 54)) c 54 264 (upd zf 0 (.int .i64 3)) := by
  subst hc
  refine ⟨_, At.new _ _ _, by simp [pZero], fun i hi => ?_⟩
  by_cases h0 : i = 0
  · subst h0
    rw [upd_same, Array.getElem?_setIfInBounds_self_of_lt (by simp [pZero])]
  · rw [upd_ne _ _ h0, Array.getElem?_setIfInBounds_ne (by omega)]
    simp [pZero, hi]

theorem st_start {B : Nat} {f : Nat → Value} (hB : Blk w Sb 47 38 f) (h5 : f 5 = .int .i64 now) (h14 : f 14 = .slice none 0 0) (h15 : f 15 = .int .i64 0) (hp : w.heap.size = Pb) (hb : B ≤ Sb) :
    St B Sb Pb now 0 [] [] (.slice none 0 0) (.pointer none) (.int .i64 0) (w.alloc (.cells (pZero.setIfInBounds 0 (.int .i64 3)) 54)) := by
  have hlt := hB.lt
  refine ⟨⟨f, hB.same ((Same.refl [] w).alloc _) (by simp), h5, h14, h15⟩, ⟨_, blk54 hp, ⟨by omega, by simp, rfl, rfl, by simp, ?_⟩, rfl, rfl, rfl, rfl, rfl, rfl⟩, World.ownsRow_nil _ _ _ _, hb, by omega⟩
  intro j hj _
  rw [upd_ne _ _ (by omega)]
  simp only [zf]
  by_cases h : j = 0
  · subst h; rfl
  · rw [if_neg (by omega), if_neg (by omega), if_neg (by omega), if_neg (by omega), if_pos (by omega)]
end

def up (k : Nat) : List Int := (List.range k).map fun i : Nat => (i : Int) + 1
def gup (k : Nat) : List Int := (List.range k).map fun i : Nat => 500 + (i : Int)
theorem up_succ (k : Nat) : up (k + 1) = up k ++ [(k : Int) + 1] := by simp [up, List.range_succ]
theorem gup_succ (k : Nat) : gup (k + 1) = gup k ++ [500 + (k : Int)] := by simp [gup, List.range_succ]
theorem up_len (k : Nat) : (up k).length = k := by simp [up]
theorem gup_len (k : Nat) : (gup k).length = k := by simp [gup]
end Go.Proofs.Ybulkblcc
