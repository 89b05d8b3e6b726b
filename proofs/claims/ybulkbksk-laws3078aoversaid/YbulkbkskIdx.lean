/-
  Rows of int32 by a function; what holds while 'localsIndex.build' runs.
-/
import Derived.Test.YbulkbkskPlain
import Derived.Laws.CopyOwn
namespace Go.Proofs.Ybulkbksk
open Go.RowKit
set_option linter.unusedVariables false

/-- Block g holds N int32: f 0, f 1, .. -/
def Ints (w : World) (g N : Nat) (f : Nat → Int) : Prop := ∃ cur, At w g cur 21 ∧ cur.size = N ∧ ∀ i, i < N → cur[i]? = some (.int .i32 (f i))

section
variable {w w' : World} {g N : Nat} {f f' : Nat → Int}
theorem Ints.cell (h : Ints w g N f) {i : Nat} (hi : i < N) : w.cell? ⟨g, i, none⟩ = some (.int .i32 (f i)) := by
  obtain ⟨cur, ha, _, hc⟩ := h
  rw [ha.cell]
  exact hc i hi
theorem Ints.free (h : Ints w g N f) (i : Nat) : w.frozen? ⟨g, i, none⟩ = false := by
  obtain ⟨cur, ha, _⟩ := h
  exact ha.free i
theorem Ints.lt (h : Ints w g N f) : g < w.heap.size := by
  obtain ⟨cur, ha, _⟩ := h
  exact ha.lt
theorem Ints.at_ (h : Ints w g N f) : ∃ cur, At w g cur 21 := by
  obtain ⟨cur, ha, _⟩ := h
  exact ⟨cur, ha⟩
theorem Ints.congr (h : Ints w g N f) (hf : ∀ i, i < N → f i = f' i) : Ints w g N f' := by
  obtain ⟨cur, ha, hs, hc⟩ := h
  exact ⟨cur, ha, hs, fun i hi => by rw [← hf i hi]; exact hc i hi⟩
theorem Ints.set (h : Ints w g N f) (o : Nat) (v : Int) (hf : ∀ i, i < N → f' i = if i = o then v else f i) : Ints (w.setCell ⟨g, o, none⟩ (.int .i32 v)) g N f' := by
  obtain ⟨cur, ha, hs, hc⟩ := h
  refine ⟨_, ha.set o _, by simp [hs], fun i hi => ?_⟩
  rw [hf i hi]
  by_cases e : i = o
  · subst e
    rw [if_pos rfl, Array.getElem?_setIfInBounds_self_of_lt (by omega)]
  · rw [if_neg e, Array.getElem?_setIfInBounds_ne (Ne.symm e)]
    exact hc i hi
theorem Ints.other (h : Ints w g N f) {a : Addr} (hne : g ≠ a.block) (v : Value) : Ints (w.setCell a v) g N f := by
  obtain ⟨cur, ha, r⟩ := h
  exact ⟨cur, ha.other hne v, r⟩
theorem Ints.block (h : Ints w g N f) (hb : w'.heap[g]? = w.heap[g]?) : Ints w' g N f := by
  obtain ⟨cur, ha, r⟩ := h
  exact ⟨cur, ha.ofBlock hb, r⟩
theorem Ints.same {S : List Nat} (h : Ints w g N f) (hs : Same S w w') (hn : g ∉ S) : Ints w' g N f := h.block (hs.block g h.lt hn)
theorem Ints.alloc (h : Ints w g N f) (o : Obj) : Ints (w.alloc o) g N f := h.block (Below.heap_alloc _ _ _ h.lt)
theorem Ints.new (h : At w g (Array.replicate N (.int .i32 0)) 21) : Ints w g N (fun _ => 0) := ⟨_, h, by simp, fun i hi => by simp [hi]⟩
theorem Ints.drew (h : Ints w g N f) : Ints w.drew g N f := h
end

/-- The lazy index block: its two cells that 'build' writes. -/
def LB (cur : Array Value) (v1 v2 : Value) : Array Value := (cur.setIfInBounds 10 v1).setIfInBounds 11 v2

theorem set_self_get {cur : Array Value} {i : Nat} {v : Value} (h : cur[i]? = some v) : cur.setIfInBounds i v = cur := by
  apply Array.ext_getElem?
  intro j
  by_cases e : j = i
  · subst e
    have := (Array.getElem?_eq_some_iff.1 h).1
    rw [Array.getElem?_setIfInBounds_self_of_lt this, h]
  · rw [Array.getElem?_setIfInBounds_ne (Ne.symm e)]

/-- While the keys are counted. -/
structure Cnt (w : World) (L b n r gs : Nat) (cur : Array Value) (ks done : List (Int × Int)) (cnt : Nat) (wr : World) : Prop where
  rng : Rng wr b r ks done cnt
  fr : Same [L] w wr
  hL : At wr L cur 66
  st : Ints wr gs (n + 1) (fun i => if i = 0 then 0 else ((cn (i - 1) done : Nat) : Int))
  new : w.heap.size ≤ gs
  newr : w.heap.size ≤ r

theorem Rng.facts {w : World} {b r : Nat} {ks done : List (Int × Int)} {cnt : Nat} (h : Rng w b r ks done cnt) : done.Nodup ∧ (∀ x ∈ done, x ∈ ks) := by
  obtain ⟨_, _, _, _, _, _, h1, h2⟩ := h
  exact ⟨h1, h2⟩

theorem Cnt.step {w wr w1 : World} {L b n r gs p : Nat} {a : Int} {cur : Array Value} {ks done : List (Int × Int)} {cnt cnt' : Nat} (h : Cnt w L b n r gs cur ks done cnt wr)
    (hr : Rng w1 b r ks (done ++ [((p : Int), a)]) cnt') (hs : Same [r] wr w1) (o : Obj) (hp : p < n) {v : Int} (hv : v = ((cn p done : Nat) : Int) + 1) :
    Cnt w L b n r gs cur ks (done ++ [((p : Int), a)]) cnt' (((w1.alloc o).drew).setCell ⟨gs, p + 1, none⟩ (.int .i32 v)) := by
  subst hv
  have hst1 : Ints w1 gs (n + 1) _ := h.st.same hs (by obtain ⟨c, hc⟩ := h.st.at_; simpa using Ne.symm (h.rng.at_ne hc).2)
  have hL1 : At w1 L cur 66 := hs.at_ h.hL (by simpa using Ne.symm (h.rng.at_ne h.hL).2)
  obtain ⟨cs, hcs⟩ := hst1.at_
  have hne : L ≠ gs := hL1.ne hcs (by decide)
  refine ⟨?_, ?_, ?_, ?_, h.new, h.newr⟩
  · have h1 : Rng (w1.alloc o).drew b r ks (done ++ [((p : Int), a)]) cnt' := hr.keep (Below.heap_alloc _ _ _ hr.lt.1) (Below.heap_alloc _ _ _ hr.lt.2.1)
    exact h1.setCell ((hcs.alloc o).drew) _
  · exact (((h.fr.comp hs (by intro k hk; simp at hk; subst hk; exact .inr h.newr)).alloc o).drew).setCell (.inr h.new) _
  · exact ((hL1.alloc o).drew).other hne _
  · refine ((hst1.alloc o).drew).set (p + 1) _ fun i hi => ?_
    by_cases e : i = p + 1
    · subst e
      simp only [Nat.add_sub_cancel, cn_append]
      simp
    · rw [if_neg e]
      by_cases e0 : i = 0
      · simp [e0]
      · rw [if_neg e0, if_neg e0, cn_append, if_neg (by omega)]
        rfl

theorem Cnt.cellS {w wr : World} {L b n r gs : Nat} {cur : Array Value} {ks done : List (Int × Int)} {cnt : Nat} (h : Cnt w L b n r gs cur ks done cnt wr) {w1 : World} (hs : Same [r] wr w1) :
    At w1 L cur 66 ∧ Ints w1 gs (n + 1) (fun i => if i = 0 then 0 else ((cn (i - 1) done : Nat) : Int)) ∧ Same [L] w w1 := by
  refine ⟨hs.at_ h.hL (by simpa using Ne.symm (h.rng.at_ne h.hL).2), h.st.same hs (by obtain ⟨c, hc⟩ := h.st.at_; simpa using Ne.symm (h.rng.at_ne hc).2), h.fr.comp hs (by intro k hk; simp at hk; subst hk; exact .inr h.newr)⟩

/-- While the sums are run up. -/
structure Pre (w : World) (L n gs : Nat) (cur : Array Value) (ks : List (Int × Int)) (j : Nat) (wr : World) : Prop where
  fr : Same [L] w wr
  hL : At wr L cur 66
  st : Ints wr gs (n + 1) (fun i => if i < j then ((lo ks i : Nat) : Int) else ((cn (i - 1) ks : Nat) : Int))
  new : w.heap.size ≤ gs

theorem Cnt.pre {w wr : World} {L b n r gs : Nat} {cur : Array Value} {ks done : List (Int × Int)} {cnt : Nat} (h : Cnt w L b n r gs cur ks done cnt wr) (hk : ks.Nodup) (hf : ∀ x ∈ ks, x ∈ done) (h0 : ∀ x ∈ ks, 0 ≤ x.1) : Pre w L n gs cur ks 1 wr := by
  obtain ⟨f1, f2⟩ := h.rng.facts
  have hp := full_perm f1 hk f2 hf
  refine ⟨h.fr, h.hL, h.st.congr fun i hi => ?_, h.new⟩
  by_cases e : i = 0
  · subst e
    simp [lo_zero h0]
  · rw [if_neg e, if_neg (by omega), cn_full hp]

theorem Pre.step {w wr : World} {L n gs j : Nat} {cur : Array Value} {ks : List (Int × Int)} (h : Pre w L n gs cur ks j wr) (hj : 0 < j) {v : Int} (hv : v = ((cn (j - 1) ks : Nat) : Int) + ((lo ks (j - 1) : Nat) : Int)) :
    Pre w L n gs cur ks (j + 1) (wr.drew.setCell ⟨gs, j, none⟩ (.int .i32 v)) := by
  subst hv
  obtain ⟨cs, hcs⟩ := h.st.at_
  have hne : L ≠ gs := h.hL.ne hcs (by decide)
  refine ⟨h.fr.drew.setCell (.inr h.new) _, h.hL.drew.other hne _, h.st.drew.set j _ fun i hi => ?_, h.new⟩
  by_cases e : i = j
  · subst e
    obtain ⟨k, rfl⟩ : ∃ k, i = k + 1 := ⟨i - 1, by omega⟩
    rw [if_pos (by omega), if_pos rfl, lo_succ]
    simp
    omega
  · rw [if_neg e]
    by_cases e1 : i < j
    · rw [if_pos e1, if_pos (by omega)]
    · rw [if_neg e1, if_neg (by omega)]

/-- While the atoms are filled in. -/
structure Fil (w : World) (L b n r gs ga gn : Nat) (cur : Array Value) (ks done : List (Int × Int)) (fa : Nat → Int) (cnt : Nat) (wr : World) : Prop where
  rng : Rng wr b r ks done cnt
  fr : Same [L] w wr
  hL : At wr L cur 66
  st : Ints wr gs (n + 1) (fun i => ((lo ks i : Nat) : Int))
  nx : Ints wr gn n (fun p => ((lo ks p + cn p done : Nat) : Int))
  hat : Ints wr ga ks.length fa
  fill : ∀ p, p < n → ∀ i z, (ats p done)[i]? = some z → fa (lo ks p + i) = z
  new : w.heap.size ≤ gs ∧ w.heap.size ≤ ga ∧ w.heap.size ≤ gn ∧ w.heap.size ≤ r
  dis : gs ≠ ga ∧ gs ≠ gn ∧ ga ≠ gn

theorem Fil.mid {w wr w1 : World} {L b n r gs ga gn : Nat} {cur : Array Value} {ks done : List (Int × Int)} {fa : Nat → Int} {cnt : Nat} (h : Fil w L b n r gs ga gn cur ks done fa cnt wr) (hs : Same [r] wr w1) :
    At w1 L cur 66 ∧ Ints w1 gs (n + 1) (fun i => ((lo ks i : Nat) : Int)) ∧ Ints w1 gn n (fun p => ((lo ks p + cn p done : Nat) : Int)) ∧ Ints w1 ga ks.length fa ∧ Same [L] w w1 := by
  have hr : ∀ {g : Nat} {N : Nat} {f : Nat → Int}, Ints wr g N f → g ∉ [r] := fun hi => by obtain ⟨c, hc⟩ := hi.at_; simpa using Ne.symm (h.rng.at_ne hc).2
  exact ⟨hs.at_ h.hL (by simpa using Ne.symm (h.rng.at_ne h.hL).2), h.st.same hs (hr h.st), h.nx.same hs (hr h.nx), h.hat.same hs (hr h.hat), h.fr.comp hs (by intro k hk; simp at hk; subst hk; exact .inr h.new.2.2.2)⟩

theorem Fil.bound {w wr : World} {L b n r gs ga gn : Nat} {cur : Array Value} {ks done : List (Int × Int)} {fa : Nat → Int} {cnt : Nat} (h : Fil w L b n r gs ga gn cur ks done fa cnt wr) {p : Nat} {a : Int} (hx : ((p : Int), a) ∈ ks) (hd : ((p : Int), a) ∉ done) : lo ks p + cn p done < ks.length := by
  have h1 := cn_lt h.rng.facts.1 h.rng.facts.2 hx hd
  have h2 := lo_succ ks p
  have h3 := lo_le ks (p + 1)
  omega

theorem Fil.step {w wr w1 : World} {L b n r gs ga gn p : Nat} {a : Int} {cur : Array Value} {ks done : List (Int × Int)} {fa : Nat → Int} {cnt cnt' : Nat} (h : Fil w L b n r gs ga gn cur ks done fa cnt wr)
    (hr : Rng w1 b r ks (done ++ [((p : Int), a)]) cnt') (hs : Same [r] wr w1) (o : Obj) (hp : p < n) (hx : ((p : Int), a) ∈ ks) (hd : ((p : Int), a) ∉ done) {v : Int} (hv : v = ((lo ks p + cn p done : Nat) : Int) + 1) :
    ∃ fa', Fil w L b n r gs ga gn cur ks (done ++ [((p : Int), a)]) fa' cnt' ((((w1.alloc o).drew).setCell ⟨ga, lo ks p + cn p done, none⟩ (.int .i32 a)).setCell ⟨gn, p, none⟩ (.int .i32 v)) := by
  subst hv
  obtain ⟨hL1, hst1, hnx1, hat1, hfr1⟩ := h.mid hs
  obtain ⟨c1, hc1⟩ := hst1.at_
  obtain ⟨c2, hc2⟩ := hnx1.at_
  obtain ⟨c3, hc3⟩ := hat1.at_
  obtain ⟨d1, d2, d3⟩ := h.dis
  have hcl := cn_lt h.rng.facts.1 h.rng.facts.2 hx hd
  refine ⟨fun i => if i = lo ks p + cn p done then a else fa i, ?_, ?_, ?_, ?_, ?_, ?_, ?_, h.new, h.dis⟩
  · have h1 : Rng (w1.alloc o).drew b r ks (done ++ [((p : Int), a)]) cnt' := hr.keep (Below.heap_alloc _ _ _ hr.lt.1) (Below.heap_alloc _ _ _ hr.lt.2.1)
    exact (h1.setCell ((hc3.alloc o).drew) _).setCell (((hc2.alloc o).drew).other (Ne.symm d3) _) _
  · exact ((((hfr1.alloc o).drew).setCell (.inr h.new.2.1) _)).setCell (.inr h.new.2.2.1) _
  · exact (((hL1.alloc o).drew).other (hL1.ne hc3 (by decide)) _).other (hL1.ne hc2 (by decide)) _
  · exact (((hst1.alloc o).drew).other d1 _).other d2 _
  · refine ((((hnx1.alloc o).drew).other (Ne.symm d3) _)).set p _ fun i hi => ?_
    rw [cn_append]
    by_cases e : i = p
    · subst e
      rw [if_pos rfl, if_pos rfl]
      omega
    · rw [if_neg e, if_neg (by omega)]
      rfl
  · exact (((hat1.alloc o).drew).set _ _ (fun i hi => rfl)).other d3 _
  · intro p' hp' i z hz
    rw [ats_append] at hz
    have hcl' := cn_le (p := p') h.rng.facts.1 h.rng.facts.2
    by_cases e : p = p'
    · subst e
      rw [if_pos rfl] at hz
      by_cases hi : i < (ats p done).length
      · rw [List.getElem?_append_left hi] at hz
        rw [ats_length] at hi
        have := h.fill p hp i z hz
        rw [if_neg (by omega)]
        exact this
      · rw [List.getElem?_append_right (by omega)] at hz
        have hlt := (List.getElem?_eq_some_iff.1 hz).1
        simp only [List.length_singleton] at hlt
        have hi0 : i = (ats p done).length := by omega
        rw [hi0] at hz ⊢
        simp at hz
        rw [ats_length]
        simp [hz]
    · rw [if_neg e, List.append_nil] at hz
      have hi := (List.getElem?_eq_some_iff.1 hz).1
      rw [ats_length] at hi
      have := h.fill p' hp' i z hz
      rw [if_neg ?_]
      · exact this
      · intro he
        have s1 := lo_succ ks p
        have s2 := lo_succ ks p'
        rcases Nat.lt_or_gt_of_ne e with hlt | hlt
        · have := lo_mono ks (show p + 1 ≤ p' by omega)
          omega
        · have := lo_mono ks (show p' + 1 ≤ p by omega)
          omega

/-- What 'build' leaves: the starts and the atoms, by principals. -/
def Idx (L n gs ga : Nat) (cur : Array Value) (ks : List (Int × Int)) (w : World) : Prop :=
  ∃ done fa, done.Perm ks ∧ At w L (LB cur (.slice (some ⟨gs, 0, none⟩) (n + 1) (n + 1)) (.slice (some ⟨ga, 0, none⟩) ks.length ks.length)) 66 ∧ Ints w gs (n + 1) (fun i => ((lo ks i : Nat) : Int)) ∧ Ints w ga ks.length fa ∧
    ∀ p, p < n → ∀ i z, (ats p done)[i]? = some z → fa (lo ks p + i) = z

theorem Fil.idx {w wr : World} {L b n r gs ga gn : Nat} {cur : Array Value} {ks done : List (Int × Int)} {fa : Nat → Int} {cnt : Nat} (h : Fil w L b n r gs ga gn (LB cur (.slice (some ⟨gs, 0, none⟩) (n + 1) (n + 1)) (.slice (some ⟨ga, 0, none⟩) ks.length ks.length)) ks done fa cnt wr)
    (hk : ks.Nodup) (hf : ∀ x ∈ ks, x ∈ done) : Idx L n gs ga cur ks wr :=
  ⟨done, fa, full_perm h.rng.facts.1 hk h.rng.facts.2 hf, h.hL, h.st, h.hat, h.fill⟩
end Go.Proofs.Ybulkbksk
