/-
  The world that the law keeps (the sim, the P, the rows), and its methods' contracts over it.
-/
import Derived.Test.YbulkblccRows
import Derived.Test.YbulkblccRing
import Derived.WalkKit
import Derived.WalkLawsBesides
import Derived.WalkSpells
import Derived.BigQuiet
import Derived.Deep.LoopGhost
import Derived.Deep.QuietTactic
import Derived.Deep.Cut
import Derived.Deep.CutRange
import Derived.Deep.DeepCutAuto
import Derived.Deep.DeepMust
namespace Go.Proofs.Ybulkblcc
open Go.RowKit
set_option linter.unusedVariables false


/-- Only blocks of the types T (and new ones) may have turned, and none below B. -/
structure Fr (T : List TypeId) (B : Nat) (w w' : World) : Prop where
  below : Below B w w'
  keep : ∀ k cur e, e ∉ T → At w k cur e → At w' k cur e

theorem Fr.refl (T : List TypeId) (B : Nat) (w : World) : Fr T B w w := ⟨Below.refl _ _, fun _ _ _ _ h => h⟩
theorem Fr.trans {T : List TypeId} {B : Nat} {w w' w'' : World} (h : Fr T B w w') (k : Fr T B w' w'') : Fr T B w w'' :=
  ⟨h.below.trans k.below, fun b cur e he ha => k.keep b cur e he (h.keep b cur e he ha)⟩
theorem Fr.mono {T T' : List TypeId} {B : Nat} {w w' : World} (h : Fr T B w w') (ht : ∀ e ∈ T, e ∈ T') : Fr T' B w w' :=
  ⟨h.below, fun b cur e he ha => h.keep b cur e (fun hm => he (ht e hm)) ha⟩
theorem Fr.ofSame {S : List Nat} {T : List TypeId} {B : Nat} {w w' : World} (h : Same S w w') (hB : B ≤ w.heap.size) (hS : ∀ b ∈ S, B ≤ b ∧ ∃ cur e, e ∈ T ∧ At w b cur e) : Fr T B w w' := by
  refine ⟨h.below (fun k hk => (hS k hk).1) hB, fun k cur e he ha => h.at_ ha (fun hm => ?_)⟩
  obtain ⟨_, cur', e', he', ha'⟩ := hS k hm
  exact ha.ne ha' (fun hee => he (hee ▸ he')) rfl
theorem Fr.blk {T : List TypeId} {B : Nat} {w w' : World} {b n : Nat} {e : TypeId} {f : Nat → Value} (h : Fr T B w w') (hb : Blk w b e n f) (he : e ∉ T) : Blk w' b e n f := by
  obtain ⟨cur, h1, h2⟩ := hb
  exact ⟨cur, h.keep _ _ _ he h1, h2⟩
theorem Fr.owns {T : List TypeId} {B base : Nat} {w w' : World} {e : TypeId} {v : Value} {n : Nat} {xs : List Value} (h : Fr T B w w') (ho : w.ownsRow base e 1 v n xs) (he : e ∉ T) : w'.ownsRow base e 1 v n xs := by
  refine ⟨ho.1, ?_⟩
  rcases ho.2 with h2 | ⟨g, cap, cur, hv, hg, hh, r⟩
  · exact .inl h2
  · exact .inr ⟨g, cap, cur, hv, hg, h.keep g cur e he hh, r⟩

theorem info49 : (Yba.prog.info? 49).map (fun i => (i.zero, i.size, i.bytes)) = some (some (.pointer none), 1, 8) := by kernel_rfl
theorem info3 : (Yba.prog.info? 3).map (fun i => (i.zero, i.size, i.bytes)) = some (some (.int .i64 0), 1, 8) := by kernel_rfl

/-- The sim's block at Sb (its clock, its global queue), the P's block at Pb (its ring, its slot). -/
structure St (B Sb Pb : Nat) (now : Int) (head : Nat) (L G : List Value) (vG nx nxAt : Value) (w : World) : Prop where
  sim : ∃ f, Blk w Sb 47 38 f ∧ f 5 = .int .i64 now ∧ f 14 = vG ∧ f 15 = .int .i64 0
  p : ∃ f, Blk w Pb 54 264 f ∧ Ring f head L ∧ f 0 = .int .i64 3 ∧ f 1 = .pointer none ∧ f 2 = nx ∧ f 3 = nxAt ∧ f 262 = .int .i64 0 ∧ f 263 = .int .i64 0
  gs : w.ownsRow B 49 1 vG G.length G
  hs : B ≤ Sb
  hp : B ≤ Pb

section
variable {B Sb Pb : Nat} {now : Int} {head : Nat} {L G : List Value} {vG nx nxAt : Value} {w w' : World}
theorem St.size (h : St B Sb Pb now head L G vG nx nxAt w) : B ≤ w.heap.size := by
  obtain ⟨f, hf, _⟩ := h.sim
  have := hf.lt
  have := h.hs
  omega
theorem St.fr {T : List TypeId} (h : St B Sb Pb now head L G vG nx nxAt w) (hf : Fr T B w w') (h1 : 47 ∉ T) (h2 : 54 ∉ T) (h3 : 49 ∉ T) : St B Sb Pb now head L G vG nx nxAt w' := by
  obtain ⟨fs, hS, hSr⟩ := h.sim
  obtain ⟨fp, hP, hPr⟩ := h.p
  exact ⟨⟨fs, hf.blk hS h1, hSr⟩, ⟨fp, hf.blk hP h2, hPr⟩, hf.owns h.gs h3, h.hs, h.hp⟩

theorem Fr.drewN {T : List TypeId} (h : Fr T B w w') (n : Nat) : Fr T B w (w'.drewN n) := ⟨⟨h.below.os, h.below.tape, h.below.output, h.below.size, h.below.block⟩, h.keep⟩
theorem St.drewN (h : St B Sb Pb now head L G vG nx nxAt w) (n : Nat) : St B Sb Pb now head L G vG nx nxAt (w.drewN n) := h.fr ((Fr.refl [] B w).drewN n) (by simp) (by simp) (by simp)

theorem push_st (h : St B Sb Pb now head L G vG nx nxAt w) (g : Addr) (hl : L.length < 256) :
    Calls Yba.prog 4 #[.pointer (some ⟨Pb, 4, none⟩), .pointer (some g)] w fun e w' => e = .returned (.tuple #[]) ∧ St B Sb Pb now head (L ++ [.pointer (some g)]) G vG nx nxAt w' ∧ Fr [47, 54, 49] B w w' := by
  obtain ⟨fs, hS, hSr⟩ := h.sim
  obtain ⟨fp, hP, hR, h0, h1, h2, h3, h4, h5⟩ := h.p
  refine (push_any Pb head L fp g w hP hR hl).mono fun e w' ⟨he, hsame, hB⟩ => ?_
  have hf : Fr [54] B w w' := Fr.ofSame hsame h.size (by intro b hb; simp at hb; subst hb; obtain ⟨cur, hc, _⟩ := hP; exact ⟨h.hp, cur, 54, by simp, hc⟩)
  have hm : (head + L.length) % 256 < 256 := Nat.mod_lt _ (by decide)
  refine ⟨he, ⟨⟨fs, hf.blk hS (by decide), hSr⟩, ⟨_, hB, hR.push hl _, ?_⟩, hf.owns h.gs (by decide), h.hs, h.hp⟩, hf.mono (by simp)⟩
  refine ⟨?_, ?_, ?_, ?_, ?_, ?_⟩ <;> rw [upd_ne _ _ (by omega), upd_ne _ _ (by omega)] <;> assumption

theorem pop_st {v : Value} (h : St B Sb Pb now head (v :: L) G vG nx nxAt w) :
    Calls Yba.prog 12 #[.pointer (some ⟨Pb, 4, none⟩)] w fun e w' => e = .returned v ∧ St B Sb Pb now ((head + 1) % 256) L G vG nx nxAt w' ∧ Fr [47, 54, 49] B w w' := by
  obtain ⟨fs, hS, hSr⟩ := h.sim
  obtain ⟨fp, hP, hR, h0, h1, h2, h3, h4, h5⟩ := h.p
  have hd := hR.hd
  refine (pop_any Pb head L fp v w hP hR).mono fun e w' ⟨he, hsame, hB⟩ => ?_
  have hf : Fr [54] B w w' := Fr.ofSame hsame h.size (by intro b hb; simp at hb; subst hb; obtain ⟨cur, hc, _⟩ := hP; exact ⟨h.hp, cur, 54, by simp, hc⟩)
  refine ⟨he, ⟨⟨fs, hf.blk hS (by decide), hSr⟩, ⟨_, hB, hR.pop.2, ?_⟩, hf.owns h.gs (by decide), h.hs, h.hp⟩, hf.mono (by simp)⟩
  refine ⟨?_, ?_, ?_, ?_, ?_, ?_⟩ <;> rw [upd_ne _ _ (by omega), upd_ne _ _ (by omega), upd_ne _ _ (by omega)] <;> assumption

theorem len_st (h : St B Sb Pb now head L G vG nx nxAt w) :
    Calls Yba.prog 11 #[.pointer (some ⟨Pb, 4, none⟩)] w fun e w' => e = .returned (.int .i64 L.length) ∧ w = w' := by
  obtain ⟨fp, hP, hR, _⟩ := h.p
  exact len_any Pb head L fp w hP hR
end

theorem qpush_end {Sb base n : Nat} {f : Nat → Value} {v : Value} {xs : List Value} {w w1 : World} {v1 : Value} (hB : Blk w Sb 47 38 f) (hB1 : Blk w1 Sb 47 38 f) (ho1 : w1.ownsRow base 49 1 v1 n xs) (hs : Same v.ownBlock.toList w w1) :
    ∃ v', Same (Sb :: v.ownBlock.toList) w (w1.setCell ⟨Sb, 14, none⟩ v1) ∧ Blk (w1.setCell ⟨Sb, 14, none⟩ v1) Sb 47 38 (upd f 14 v') ∧ (w1.setCell ⟨Sb, 14, none⟩ v1).ownsRow base 49 1 v' n xs := by
  refine ⟨v1, (hs.mono (by intro b hb; exact List.mem_cons_of_mem _ hb)).setCell (.inl (by simp)) _, hB1.set 14 _ (by omega), ?_⟩
  obtain ⟨cur, hc, _⟩ := hB1
  exact ownsRow_setCell_other ho1 (a := ⟨Sb, 14, none⟩) (fun h => owns_ne ho1 hc (by decide) h) _

set_option maxHeartbeats 400000 in
theorem qpush_any (Sb base n : Nat) (f : Nat → Value) (v : Value) (xs : List Value) (g : Addr) (w : World) (hB : Blk w Sb 47 38 f) (h14 : f 14 = v) (h15 : f 15 = .int .i64 0)
    (ho : w.ownsRow base 49 1 v n xs) (hn : n < 100000) (hbase : base ≤ w.heap.size) :
    Calls Yba.prog 5 #[.pointer (some ⟨Sb, 14, none⟩), .pointer (some g)] w fun e w' => e = .returned (.tuple #[]) ∧ ∃ v', Same (Sb :: v.ownBlock.toList) w w' ∧ Blk w' Sb 47 38 (upd f 14 v') ∧ w'.ownsRow base 49 1 v' (n + 1) (xs ++ [.pointer (some g)]) := by
  obtain ⟨ao, cap, rfl⟩ := owns_form ho
  have hc14 := hB.cell (i := 14) (by omega)
  have hc15 := hB.cell (i := 15) (by omega)
  rw [h14] at hc14
  rw [h15] at hc15
  have hnS : Sb ∉ (Value.slice ao n cap).ownBlock.toList := by
    intro hm
    obtain ⟨cur, hc, _⟩ := hB
    exact owns_ne ho hc (by decide) (by simpa using hm)
  have H : Hid (Blk w Sb 47 38 f ∧ w.ownsRow base 49 1 (.slice ao n cap) n xs ∧ Sb ∉ (Value.slice ao n cap).ownBlock.toList) := ⟨hB, ho, hnS⟩
  clear hB ho h14 h15 hnS
  go_enter Yba.func5, Yba.ntmps5
  by_cases hcc : n = cap
  · have hcc' : ((n : Int) == (cap : Int)) = true := by simp [hcc]
    have : Hid (n = cap) := hcc
    clear hcc
    go_wp2_with fail
    go_quiet (fail)
    go_wp2_with (at_builtin; go_must (refine wpList_append_one_at (w.drewN nq) rfl (.tmp 59) (.tmp 61) 34 rfl base 49 (.pointer none) 8 Yba.underlying34 info49 rfl (owns_drewN H.out.2.1 nq) rfl _ w.heap.size rfl rfl rfl (by unfold maxLen; omega) (by omega) (by exact hbase) ?_))
    intro g1 c1 w1 ho1 hs1 hat1
    have hB1 : Blk w1 Sb 47 38 f := (H.out.1.drewN nq).same hs1 H.out.2.2
    have hc1 := hB1.cell (i := 14) (by omega)
    have hf1 := hB1.free 14
    have H1 : Hid (Blk w1 Sb 47 38 f ∧ w1.ownsRow base 49 1 (.slice (some ⟨g1, 0, none⟩) (n + 1) c1) (n + 1) (xs ++ [.pointer (some g)]) ∧ Same (Value.slice ao n cap).ownBlock.toList (w.drewN nq) w1) := ⟨hB1, ho1, hs1⟩
    clear hB1 ho1 hs1 hat1
    go_wp2_with fail
    go_end0
    exact ⟨rfl, qpush_end H.out.1 H1.out.1 H1.out.2.1 (((Same.refl _ w).drewN nq).comp H1.out.2.2 (fun b hb => .inl hb))⟩
  · have hcc' : ((n : Int) == (cap : Int)) = false := beq_eq_false_iff_ne.2 (by omega)
    go_wp2_with fail
    go_quiet (fail)
    go_wp2_with (at_builtin; go_must (refine wpList_append_one_at (w.drewN nq) rfl (.tmp 59) (.tmp 61) 34 rfl base 49 (.pointer none) 8 Yba.underlying34 info49 rfl (owns_drewN H.out.2.1 nq) rfl _ w.heap.size rfl rfl rfl (by unfold maxLen; omega) (by omega) (by exact hbase) ?_))
    intro g1 c1 w1 ho1 hs1 hat1
    have hB1 : Blk w1 Sb 47 38 f := (H.out.1.drewN nq).same hs1 H.out.2.2
    have hc1 := hB1.cell (i := 14) (by omega)
    have hf1 := hB1.free 14
    have H1 : Hid (Blk w1 Sb 47 38 f ∧ w1.ownsRow base 49 1 (.slice (some ⟨g1, 0, none⟩) (n + 1) c1) (n + 1) (xs ++ [.pointer (some g)]) ∧ Same (Value.slice ao n cap).ownBlock.toList (w.drewN nq) w1) := ⟨hB1, ho1, hs1⟩
    clear hB1 ho1 hs1 hat1
    go_wp2_with fail
    go_end0
    exact ⟨rfl, qpush_end H.out.1 H1.out.1 H1.out.2.1 (((Same.refl _ w).drewN nq).comp H1.out.2.2 (fun b hb => .inl hb))⟩
end Go.Proofs.Ybulkblcc
