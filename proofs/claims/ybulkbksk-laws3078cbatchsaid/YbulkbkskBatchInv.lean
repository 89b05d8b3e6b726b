/-
  What the law LawS3078CBatch keeps from round to round, and what each step of a round does to it. No walk in this text.
-/
import Derived.Test.YbulkbkskTake
namespace Go.Proofs.Ybulkbksk
open Go.RowKit
set_option linter.unusedVariables false

def mkOf (k : Nat) : Value := .int .u8 ((k % 251 + 1 : Nat) : Int)

/-- What the k-th slice handed out is good for. -/
def GotOk (w : World) (Bs : List (Nat × Nat × Nat)) (ao : Addr) (n k : Nat) : Prop :=
  0 < n → ∃ t, t ∈ Bs ∧ ao.block = t.1 ∧ ao.spot = none ∧ ao.off + n ≤ t.2.1 ∧ ∀ q, q < n → w.cell? ⟨t.1, ao.off + q, none⟩ = some (mkOf k)

structure St (w0 : World) (R Bt nx : Nat) (vb vg vc vl : Value) (Bs : List (Nat × Nat × Nat)) (cs ls : List Nat) (K : Nat) (gots : List Value) (w : World) : Prop where
  below : Below w0.heap.size w0 w
  r0 : w0.heap.size ≤ R
  b0 : w0.heap.size ≤ Bt
  hR : At w R #[.slice none 0 0, .int .i64 0, .bool false, .int .i64 0, .int .i64 0, .int .i64 0, .slice none 0 0, .pointer (some ⟨Bt, 0, none⟩), .pointer none] 91
  hBt : At w Bt #[.slice none 0 0, .slice none 0 0, .int .i64 0, vb, .int .i64 nx, .slice none 0 0, .slice none 0 0] 102
  hvb : w.ownsRow w0.heap.size 86 1 vb Bs.length (Bs.map RowV)
  hvg : w.ownsRow w0.heap.size 86 1 vg K gots
  hvc : w.ownsRow w0.heap.size 3 1 vc cs.length (cs.map fun c : Nat => Value.int .i64 (c : Int))
  hvl : w.ownsRow w0.heap.size 3 1 vl ls.length (ls.map fun c : Nat => Value.int .i64 (c : Int))
  d1 : ∀ g, vb.ownBlock = some g → vg.ownBlock ≠ some g
  d2 : ∀ g, vc.ownBlock = some g → vl.ownBlock ≠ some g
  hnx : nx ≤ Bs.length
  hlc : ∀ t ∈ Bs, t.2.1 ≤ t.2.2 ∧ t.2.2 ≤ 1024
  blk : ∀ t ∈ Bs, w0.heap.size ≤ t.1 ∧ ∃ cur, At w t.1 cur 5 ∧ cur.size = t.2.2 ∧ ∀ o, t.2.1 ≤ o → o < t.2.2 → cur[o]? = some (.int .u8 0)
  dist : ∀ (i j : Nat) (t u : Nat × Nat × Nat), Bs[i]? = some t → Bs[j]? = some u → t.1 = u.1 → i = j
  got : ∀ k, k < K → ∃ ao n, gots[k]? = some (.slice (some ao) n n) ∧ GotOk w Bs ao n k

/-- What has become of the slab's list in one round. -/
def Step (Bs : List (Nat × Nat × Nat)) (nx n j : Nat) (Bs' : List (Nat × Nat × Nat)) : Prop :=
  nx ≤ j ∧ (∀ i t, nx ≤ i → i < j → Bs[i]? = some t → t.2.2 - t.2.1 < n) ∧
  ((∃ g l c, Bs[j]? = some (g, l, c) ∧ n ≤ c - l ∧ Bs' = Bs.set j (g, l + n, c)) ∨ (j = Bs.length ∧ ∃ g, Bs' = Bs ++ [(g, n, max n (szOf Bs))]))

/-- The slice that has just been handed out: its cells are zero, and none of the earlier ones lies over it. -/
def Pend (w : World) (Bs : List (Nat × Nat × Nat)) (ao : Addr) (n K : Nat) (gots : List Value) : Prop :=
  0 < n → ∃ t, t ∈ Bs ∧ ao.block = t.1 ∧ ao.spot = none ∧ ao.off + n ≤ t.2.1 ∧ (∀ q, q < n → w.cell? ⟨t.1, ao.off + q, none⟩ = some (.int .u8 0)) ∧
    ∀ k ao' n', k < K → gots[k]? = some (.slice (some ao') n' n') → 0 < n' → ao'.block = t.1 → ao'.off + n' ≤ ao.off

section
variable {w0 w w1 w2 : World} {R Bt nx : Nat} {vb vg vc vl : Value} {Bs : List (Nat × Nat × Nat)} {cs ls : List Nat} {K : Nat} {gots : List Value}

theorem below_same {S : List Nat} (h : Below w0.heap.size w0 w) (hs : Same S w w1) (hS : ∀ k ∈ S, w0.heap.size ≤ k) : Below w0.heap.size w0 w1 :=
  h.trans (hs.below hS h.size)

theorem GotOk.keep {Bs' : List (Nat × Nat × Nat)} {ao : Addr} {n k : Nat} (h : GotOk w Bs ao n k)
    (hB : ∀ t ∈ Bs, ∃ t' ∈ Bs', t'.1 = t.1 ∧ t.2.1 ≤ t'.2.1)
    (hc : ∀ t ∈ Bs, ∀ o v, o < t.2.1 → w.cell? ⟨t.1, o, none⟩ = some v → w1.cell? ⟨t.1, o, none⟩ = some v) : GotOk w1 Bs' ao n k := by
  intro hn
  obtain ⟨t, ht, h1, h2, h3, h4⟩ := h hn
  obtain ⟨t', ht', e1, e2⟩ := hB t ht
  exact ⟨t', ht', by rw [h1, e1], h2, by omega, fun q hq => by rw [e1]; exact hc t ht _ _ (by omega) (h4 q hq)⟩

theorem own_bs {base : Nat} {e : TypeId} {v : Value} {n : Nat} {xs : List Value} (h : w.ownsRow base e 1 v n xs) {g : Nat} (hg : v.ownBlock = some g) : base ≤ g := (h.lt g hg).1

/-- Behind a step that writes blocks of the type 'e' alone, which is none of the reader's, the batch's and the blocks'. -/
theorem St.take {n : Nat} {e : Ending} (h : St w0 R Bt nx vb vg vc vl Bs cs ls K gots w) (hn : n ≤ 300)
    (hp : TakePost Bt w0.heap.size n nx (.slice none 0 0) (.slice none 0 0) (.int .i64 0) (.slice none 0 0) (.slice none 0 0) vb Bs w e w1) :
    ∃ j vb' Bs' ab of, e = .returned (.slice (some ⟨ab, of, none⟩) n n) ∧ Step Bs nx n j Bs' ∧ St w0 R Bt j vb' vg vc vl Bs' cs ls K gots w1 ∧ Pend w1 Bs' ⟨ab, of, none⟩ n K gots := by
  obtain ⟨j, hj, hfst, hp⟩ := hp
  have hvbS : ∀ b ∈ Bt :: vb.ownBlock.toList, w0.heap.size ≤ b := by
    intro b hb
    simp at hb
    rcases hb with rfl | hb
    · exact h.b0
    · exact own_bs h.hvb hb
  have nR : R ∉ Bt :: vb.ownBlock.toList := by
    intro hb
    simp at hb
    rcases hb with hb | hb
    · exact h.hR.ne h.hBt (by decide) hb
    · exact owns_ne h.hvb h.hR (by decide) hb
  have nG : ∀ g cur, At w g cur 5 → g ∉ Bt :: vb.ownBlock.toList := by
    intro g cur hg hb
    simp at hb
    rcases hb with hb | hb
    · exact hg.ne h.hBt (by decide) hb
    · exact owns_ne h.hvb hg (by decide) hb
  have n3 : ∀ v m xs, w.ownsRow w0.heap.size 3 1 v m xs → ∀ g, v.ownBlock = some g → g ∉ Bt :: vb.ownBlock.toList := by
    intro v m xs hv g hg hb
    obtain ⟨_, cur, hc⟩ := owns_block hv hg
    simp at hb
    rcases hb with hb | hb
    · exact hc.ne h.hBt (by decide) hb
    · exact owns_ne h.hvb hc (by decide) hb
  have nvg : ∀ g, vg.ownBlock = some g → g ∉ Bt :: vb.ownBlock.toList := by
    intro g hg hb
    obtain ⟨_, cur, hc⟩ := owns_block h.hvg hg
    simp at hb
    rcases hb with hb | hb
    · exact hc.ne h.hBt (by decide) hb
    · exact h.d1 g hb hg
  rcases hp with ⟨g, l, c, ab, of, ht, hroom, he, hao, hBt, hvb, hs⟩ | ⟨rfl, g, vb', he, hg, hz, hBt, hvb, hat, hs⟩
  · have hjl : j < Bs.length := (List.getElem?_eq_some_iff.1 ht).1
    have hmem := List.mem_of_getElem? ht
    obtain ⟨hl1, hl2⟩ := h.hlc _ hmem
    simp only at hl1 hl2
    have hset : ∀ t, t ∈ Bs.set j (g, l + n, c) → t = (g, l + n, c) ∨ ∃ i, i ≠ j ∧ Bs[i]? = some t := by
      intro t ht'
      obtain ⟨i, hi⟩ := List.mem_iff_getElem?.1 ht'
      by_cases hij : j = i
      · subst hij
        rw [List.getElem?_set_self (by simpa using hjl)] at hi
        exact .inl (by simpa using hi.symm)
      · rw [List.getElem?_set_ne hij] at hi
        exact .inr ⟨i, fun e => hij e.symm, hi⟩
    have hup : ∀ t ∈ Bs, ∃ t' ∈ Bs.set j (g, l + n, c), t'.1 = t.1 ∧ t.2.1 ≤ t'.2.1 := by
      intro t ht'
      obtain ⟨i, hi⟩ := List.mem_iff_getElem?.1 ht'
      by_cases hij : j = i
      · subst hij
        rw [ht] at hi
        obtain rfl := (Option.some.inj hi)
        exact ⟨(g, l + n, c), List.mem_iff_getElem?.2 ⟨j, List.getElem?_set_self (by simpa using hjl)⟩, rfl, by simp⟩
      · exact ⟨t, List.mem_iff_getElem?.2 ⟨i, by rw [List.getElem?_set_ne hij]; exact hi⟩, rfl, Nat.le_refl _⟩
    have hblk := h.blk _ hmem
    obtain ⟨hg0, cur, hcur, hcs, hzero⟩ := hblk
    simp only at hg0 hcur hcs hzero
    have hcur1 : At w1 g cur 5 := hs.at_ hcur (nG _ _ hcur)
    refine ⟨j, vb, _, ab, of, he, ⟨hj, hfst, .inl ⟨g, l, c, ht, hroom, rfl⟩⟩, ⟨below_same h.below hs hvbS, h.r0, h.b0, hs.at_ h.hR nR, hBt, ?_, hs.owns h.hvg nvg, hs.owns h.hvc (n3 _ _ _ h.hvc), hs.owns h.hvl (n3 _ _ _ h.hvl), h.d1, h.d2, by simp; omega, ?_, ?_, ?_, ?_⟩, ?_⟩
    · simpa using hvb
    · intro t ht'
      rcases hset t ht' with rfl | ⟨i, _, hi⟩
      · exact ⟨by simp only; omega, hl2⟩
      · exact h.hlc _ (List.mem_of_getElem? hi)
    · intro t ht'
      rcases hset t ht' with rfl | ⟨i, _, hi⟩
      · exact ⟨hg0, cur, hcur1, hcs, fun o h1 h2 => hzero o (by simp only at h1; omega) h2⟩
      · obtain ⟨a1, cur', a2, a3, a4⟩ := h.blk _ (List.mem_of_getElem? hi)
        exact ⟨a1, cur', hs.at_ a2 (nG _ _ a2), a3, a4⟩
    · intro i i' t u hi hi' hee
      have key : ∀ (i : Nat) t, (Bs.set j (g, l + n, c))[i]? = some t → ∃ t', Bs[i]? = some t' ∧ t'.1 = t.1 := by
        intro i t hi
        by_cases hij : j = i
        · subst hij
          rw [List.getElem?_set_self (by simpa using hjl)] at hi
          obtain rfl := (Option.some.inj hi)
          exact ⟨_, ht, rfl⟩
        · rw [List.getElem?_set_ne hij] at hi
          exact ⟨t, hi, rfl⟩
      obtain ⟨t1, q1, q2⟩ := key i t hi
      obtain ⟨u1, q3, q4⟩ := key i' u hi'
      exact h.dist i i' t1 u1 q1 q3 (by rw [q2, q4, hee])
    · intro k hk
      obtain ⟨ao', n', h1, h2⟩ := h.got k hk
      refine ⟨ao', n', h1, h2.keep hup ?_⟩
      intro t ht' o v _ hc
      obtain ⟨_, cur', a2, _, _⟩ := h.blk _ ht'
      exact hs.cell hc (nG _ _ a2)
    · intro hn0
      obtain ⟨e1, e2⟩ := hao hn0
      rw [e1, e2]
      refine ⟨(g, l + n, c), List.mem_iff_getElem?.2 ⟨j, List.getElem?_set_self (by simpa using hjl)⟩, rfl, rfl, Nat.le_refl _, ?_, ?_⟩
      · intro q hq
        rw [hcur1.cell]
        exact hzero (l + q) (by omega) (by omega)
      · intro k ao' n' hk hgk hn' hb'
        obtain ⟨ao2, n2, h1, h2⟩ := h.got k hk
        rw [h1] at hgk
        simp only [Option.some.injEq, Value.slice.injEq] at hgk
        obtain ⟨rfl, rfl, _⟩ := hgk
        obtain ⟨t, ht', q1, q2, q3, _⟩ := h2 hn'
        obtain ⟨i, hi⟩ := List.mem_iff_getElem?.1 ht'
        have hij := h.dist i j t (g, l, c) hi ht (by rw [← q1, hb'])
        subst hij
        rw [ht] at hi
        obtain rfl := (Option.some.inj hi)
        exact q3
  · have hnew : ∀ t ∈ Bs, t.1 < g := by
      intro t ht
      obtain ⟨_, cur, hc, _⟩ := h.blk t ht
      have := hc.lt
      omega
    have hin : ∀ t, t ∈ Bs ++ [(g, n, max n (szOf Bs))] → t ∈ Bs ∨ t = (g, n, max n (szOf Bs)) := by
      intro t ht
      simpa using ht
    refine ⟨Bs.length, vb', _, g, 0, he, ⟨hj, hfst, .inr ⟨rfl, g, rfl⟩⟩, ⟨below_same h.below hs hvbS, h.r0, h.b0, hs.at_ h.hR nR, hBt, ?_, hs.owns h.hvg nvg, hs.owns h.hvc (n3 _ _ _ h.hvc), hs.owns h.hvl (n3 _ _ _ h.hvl), ?_, h.d2, by simp, ?_, ?_, ?_, ?_⟩, ?_⟩
    · simpa using hvb
    · intro g' hg' hvg'
      have hlt := (h.hvg.lt g' hvg').2
      rcases hat with hat | hat
      · exact h.d1 g' (by rw [← hat]; exact hg') hvg'
      · have := hat g' hg'
        omega
    · intro t ht
      rcases hin t ht with ht | rfl
      · exact h.hlc t ht
      · have := szOf_le Bs
        simp only
        omega
    · intro t ht
      rcases hin t ht with ht | rfl
      · obtain ⟨a1, cur', a2, a3, a4⟩ := h.blk t ht
        exact ⟨a1, cur', hs.at_ a2 (nG _ _ a2), a3, a4⟩
      · have hsz := h.below.size
        refine ⟨by simp only; omega, _, hz, by simp, fun o _ h2 => ?_⟩
        simp only at h2
        simp only [Array.getElem?_replicate]
        rw [if_pos h2]
    · intro i i' t u hi hi' hee
      have key : ∀ (i : Nat) t, (Bs ++ [(g, n, max n (szOf Bs))])[i]? = some t → (i < Bs.length ∧ Bs[i]? = some t) ∨ (i = Bs.length ∧ t.1 = g) := by
        intro i t hi
        rw [List.getElem?_append] at hi
        split at hi
        · exact .inl ⟨by assumption, hi⟩
        · right
          have hlt : i - Bs.length < 1 := by
            have := (List.getElem?_eq_some_iff.1 hi).1
            simpa using this
          have : i = Bs.length := by omega
          subst this
          simp at hi
          exact ⟨rfl, by rw [← hi]⟩
      rcases key i t hi with ⟨q1, q2⟩ | ⟨q1, q2⟩ <;> rcases key i' u hi' with ⟨q3, q4⟩ | ⟨q3, q4⟩
      · exact h.dist i i' t u q2 q4 hee
      · have := hnew t (List.mem_of_getElem? q2)
        omega
      · have := hnew u (List.mem_of_getElem? q4)
        omega
      · omega
    · intro k hk
      obtain ⟨ao', n', h1, h2⟩ := h.got k hk
      refine ⟨ao', n', h1, h2.keep (fun t ht => ⟨t, by simp [ht], rfl, Nat.le_refl _⟩) ?_⟩
      intro t ht' o v _ hc
      obtain ⟨_, cur', a2, _, _⟩ := h.blk _ ht'
      exact hs.cell hc (nG _ _ a2)
    · intro hn0
      refine ⟨(g, n, max n (szOf Bs)), by simp, rfl, rfl, by simp, ?_, ?_⟩
      · intro q hq
        rw [hz.cell]
        simp only [Nat.zero_add, Array.getElem?_replicate]
        rw [if_pos (by omega)]
      · intro k ao' n' hk hgk hn' hb'
        exfalso
        obtain ⟨ao2, n2, h1, h2⟩ := h.got k hk
        rw [h1] at hgk
        simp only [Option.some.injEq, Value.slice.injEq] at hgk
        obtain ⟨rfl, rfl, _⟩ := hgk
        obtain ⟨t, ht', q1, _⟩ := h2 hn'
        have := hnew t ht'
        simp only at hb'
        omega

/-- The slice's cells written with the mark, as far as 'i'. -/
def Painted (w w1 : World) (ao : Addr) (i : Nat) (v : Value) : Prop :=
  Same [ao.block] w w1 ∧ ∀ cur, At w ao.block cur 5 → ∃ cur', At w1 ao.block cur' 5 ∧ cur'.size = cur.size ∧ (∀ o, o < ao.off ∨ ao.off + i ≤ o → cur'[o]? = cur[o]?) ∧ ∀ q, q < i → ao.off + q < cur.size → cur'[ao.off + q]? = some v

theorem Painted.zero (w : World) (ao : Addr) (v : Value) : Painted w w ao 0 v :=
  ⟨Same.refl _ _, fun cur h => ⟨cur, h, rfl, fun _ _ => rfl, fun q hq => by omega⟩⟩

theorem Painted.step {ao : Addr} {i : Nat} {v : Value} {cur : Array Value} (h : Painted w w1 ao i v) (hs : ao.spot = none) (hcur : At w ao.block cur 5) (hi : ao.off + i < cur.size) :
    Painted w (w1.setCell ⟨ao.block, ao.off + i, none⟩ v) ao (i + 1) v := by
  refine ⟨h.1.setCell (.inl (by simp)) _, fun cur0 h0 => ?_⟩
  obtain rfl : cur0 = cur := by
    unfold At at h0 hcur
    rw [h0] at hcur
    simpa using hcur
  obtain ⟨cur', h1, h2, h3, h4⟩ := h.2 _ h0
  refine ⟨_, h1.set (ao.off + i) v, by simpa using h2, ?_, ?_⟩
  · intro o ho
    rw [Array.getElem?_setIfInBounds_ne (by omega)]
    exact h3 o (by omega)
  · intro q hq hqs
    by_cases hqi : q = i
    · subst hqi
      rw [Array.getElem?_setIfInBounds_self_of_lt (by omega)]
    · rw [Array.getElem?_setIfInBounds_ne (by omega)]
      exact h4 q (by omega) hqs

theorem At.inj {g : Nat} {c c' : Array Value} {e e' : TypeId} (h : At w g c e) (h' : At w g c' e') : c = c' := by
  unfold At at h h'
  rw [h] at h'
  simp at h'
  exact h'.1

theorem St.paint {ao : Addr} {n : Nat} (h : St w0 R Bt nx vb vg vc vl Bs cs ls K gots w) (hp : Pend w Bs ao n K gots) (hn : 0 < n) (hpt : Painted w w1 ao n (mkOf K)) :
    St w0 R Bt nx vb vg vc vl Bs cs ls K gots w1 ∧ GotOk w1 Bs ao n K := by
  obtain ⟨t, ht, hb, hsp, hle, hz, hov⟩ := hp hn
  obtain ⟨g0, cur, hcur, hcs, hzero⟩ := h.blk t ht
  obtain ⟨hl1, hl2⟩ := h.hlc t ht
  obtain ⟨hs, hpt⟩ := hpt
  rw [hb] at hs hpt
  obtain ⟨cur', hcur', hsz', hout, hin⟩ := hpt cur hcur
  have n5 : ∀ {g : Nat} {c : Array Value} {e : TypeId}, At w g c e → e ≠ 5 → g ∉ [t.1] := by
    intro g c e hg he hm
    simp at hm
    exact hg.ne hcur he hm
  have o5 : ∀ {e : TypeId} {v : Value} {m : Nat} {xs : List Value}, w.ownsRow w0.heap.size e 1 v m xs → e ≠ 5 → ∀ g, v.ownBlock = some g → g ∉ [t.1] := by
    intro e v m xs ho he g hg
    obtain ⟨_, c, hc⟩ := owns_block ho hg
    exact n5 hc he
  have hcell : ∀ k, k < K → ∀ ao' n', gots[k]? = some (.slice (some ao') n' n') → GotOk w Bs ao' n' k → GotOk w1 Bs ao' n' k := by
    intro k hk ao' n' hgk h2 hn'
    obtain ⟨t', ht', q1, q2, q3, q4⟩ := h2 hn'
    refine ⟨t', ht', q1, q2, q3, fun q hq => ?_⟩
    by_cases hbb : t'.1 = t.1
    · have hle' := hov k ao' n' hk hgk hn' (by rw [q1, hbb])
      have h4 := q4 q hq
      rw [hbb] at h4 ⊢
      rw [hcur.cell] at h4
      rw [hcur'.cell, hout _ (.inl (by omega))]
      exact h4
    · exact hs.cell (q4 q hq) (by simpa using hbb)
  refine ⟨⟨below_same h.below hs (by simpa using g0), h.r0, h.b0, hs.at_ h.hR (n5 h.hR (by decide)), hs.at_ h.hBt (n5 h.hBt (by decide)), hs.owns h.hvb (o5 h.hvb (by decide)), hs.owns h.hvg (o5 h.hvg (by decide)),
    hs.owns h.hvc (o5 h.hvc (by decide)), hs.owns h.hvl (o5 h.hvl (by decide)), h.d1, h.d2, h.hnx, h.hlc, ?_, h.dist, ?_⟩, ?_⟩
  · intro u hu
    obtain ⟨i, hi⟩ := List.mem_iff_getElem?.1 ht
    obtain ⟨i', hi'⟩ := List.mem_iff_getElem?.1 hu
    by_cases hbb : u.1 = t.1
    · have hii := h.dist i' i u t hi' hi hbb
      subst hii
      rw [hi] at hi'
      obtain rfl := Option.some.inj hi'
      exact ⟨g0, cur', hcur', by omega, fun o h1 h2 => by rw [hout o (.inr (by omega))]; exact hzero o h1 h2⟩
    · obtain ⟨a1, c1, a2, a3, a4⟩ := h.blk u hu
      exact ⟨a1, c1, hs.at_ a2 (by simpa using hbb), a3, a4⟩
  · intro k hk
    obtain ⟨ao', n', h1, h2⟩ := h.got k hk
    exact ⟨ao', n', h1, hcell k hk ao' n' h1 h2⟩
  · intro _
    refine ⟨t, ht, hb, hsp, hle, fun q hq => ?_⟩
    rw [hcur'.cell]
    exact hin q hq (by omega)

/-- A step that leaves all but some rows of the call's own as they were: what of the state does not speak of those rows. -/
theorem St.gotAppend {ao : Addr} {n g cap : Nat} (h : St w0 R Bt nx vb vg vc vl Bs cs ls K gots w) (hg : GotOk w Bs ao n K) (hK : gots.length = K)
    (hown : w1.ownsRow w0.heap.size 86 1 (.slice (some ⟨g, 0, none⟩) (K + 1) cap) (K + 1) (gots ++ [.slice (some ao) n n])) (hs : Same vg.ownBlock.toList w w1) (hat : vg.ownBlock = some g ∨ w.heap.size ≤ g) :
    St w0 R Bt nx vb (.slice (some ⟨g, 0, none⟩) (K + 1) cap) vc vl Bs cs ls (K + 1) (gots ++ [.slice (some ao) n n]) w1 := by
  have n5 : ∀ {g : Nat} {c : Array Value} {e : TypeId}, At w g c e → e ≠ 86 → g ∉ vg.ownBlock.toList := by
    intro g c e hg he hm
    simp at hm
    exact owns_ne h.hvg hg (Ne.symm he) hm
  have o5 : ∀ {e : TypeId} {v : Value} {m : Nat} {xs : List Value}, w.ownsRow w0.heap.size e 1 v m xs → e ≠ 86 → ∀ g, v.ownBlock = some g → g ∉ vg.ownBlock.toList := by
    intro e v m xs ho he g hg
    obtain ⟨_, c, hc⟩ := owns_block ho hg
    exact n5 hc he
  have hkeep : ∀ ao' n' k, GotOk w Bs ao' n' k → GotOk w1 Bs ao' n' k := by
    intro ao' n' k h2
    refine h2.keep (fun t ht => ⟨t, ht, rfl, Nat.le_refl _⟩) ?_
    intro t ht o v _ hc
    obtain ⟨_, c1, a2, _⟩ := h.blk t ht
    exact hs.cell hc (n5 a2 (by decide))
  refine ⟨below_same h.below hs (by intro k hk; simp at hk; exact own_bs h.hvg hk), h.r0, h.b0, hs.at_ h.hR (n5 h.hR (by decide)), hs.at_ h.hBt (n5 h.hBt (by decide)), hs.owns h.hvb ?_, hown,
    hs.owns h.hvc (o5 h.hvc (by decide)), hs.owns h.hvl (o5 h.hvl (by decide)), ?_, h.d2, h.hnx, h.hlc, ?_, h.dist, ?_⟩
  · intro g' hg' hm
    simp at hm
    exact h.d1 g' hg' hm
  · intro g' hg' hm
    simp [Value.ownBlock] at hm
    subst hm
    rcases hat with hat | hat
    · exact h.d1 g hg' hat
    · have := (h.hvb.lt g hg').2
      omega
  · intro t ht
    obtain ⟨a1, c1, a2, a3, a4⟩ := h.blk t ht
    exact ⟨a1, c1, hs.at_ a2 (n5 a2 (by decide)), a3, a4⟩
  · intro k hk
    by_cases hkK : k = K
    · subst hkK
      exact ⟨ao, n, by simp [← hK], hkeep _ _ _ hg⟩
    · obtain ⟨ao', n', h1, h2⟩ := h.got k (by omega)
      exact ⟨ao', n', by rw [List.getElem?_append_left (by omega)]; exact h1, hkeep _ _ _ h2⟩

/-- A step that writes rows of ints alone. -/
theorem St.ints {vc' vl' : Value} {cs' ls' : List Nat} {S : List Nat} (h : St w0 R Bt nx vb vg vc vl Bs cs ls K gots w) (hs : Same S w w1) (hS : ∀ k ∈ S, vc.ownBlock = some k ∨ vl.ownBlock = some k)
    (hvc : w1.ownsRow w0.heap.size 3 1 vc' cs'.length (cs'.map fun c : Nat => Value.int .i64 (c : Int))) (hvl : w1.ownsRow w0.heap.size 3 1 vl' ls'.length (ls'.map fun c : Nat => Value.int .i64 (c : Int)))
    (hd : ∀ g, vc'.ownBlock = some g → vl'.ownBlock ≠ some g) : St w0 R Bt nx vb vg vc' vl' Bs cs' ls' K gots w1 := by
  have n5 : ∀ {g : Nat} {c : Array Value} {e : TypeId}, At w g c e → e ≠ 3 → g ∉ S := by
    intro g c e hg he hm
    rcases hS g hm with hm | hm
    · exact owns_ne h.hvc hg (Ne.symm he) hm
    · exact owns_ne h.hvl hg (Ne.symm he) hm
  have o5 : ∀ {e : TypeId} {v : Value} {m : Nat} {xs : List Value}, w.ownsRow w0.heap.size e 1 v m xs → e ≠ 3 → ∀ g, v.ownBlock = some g → g ∉ S := by
    intro e v m xs ho he g hg
    obtain ⟨_, c, hc⟩ := owns_block ho hg
    exact n5 hc he
  refine ⟨below_same h.below hs ?_, h.r0, h.b0, hs.at_ h.hR (n5 h.hR (by decide)), hs.at_ h.hBt (n5 h.hBt (by decide)), hs.owns h.hvb (o5 h.hvb (by decide)), hs.owns h.hvg (o5 h.hvg (by decide)), hvc, hvl, h.d1, hd, h.hnx, h.hlc, ?_, h.dist, ?_⟩
  · intro k hk
    rcases hS k hk with hm | hm
    · exact own_bs h.hvc hm
    · exact own_bs h.hvl hm
  · intro t ht
    obtain ⟨a1, c1, a2, a3, a4⟩ := h.blk t ht
    exact ⟨a1, c1, hs.at_ a2 (n5 a2 (by decide)), a3, a4⟩
  · intro k hk
    obtain ⟨ao', n', h1, h2⟩ := h.got k hk
    refine ⟨ao', n', h1, h2.keep (fun t ht => ⟨t, ht, rfl, Nat.le_refl _⟩) ?_⟩
    intro t ht o v _ hc
    obtain ⟨_, c1, a2, _⟩ := h.blk t ht
    exact hs.cell hc (n5 a2 (by decide))

theorem St.draw {n : Nat} (h : St w0 R Bt nx vb vg vc vl Bs cs ls K gots w) : St w0 R Bt nx vb vg vc vl Bs cs ls K gots (w.drewN n) :=
  ⟨⟨h.below.os, h.below.tape, h.below.output, h.below.size, h.below.block⟩, h.r0, h.b0, h.hR, h.hBt, h.hvb, h.hvg, h.hvc, h.hvl, h.d1, h.d2, h.hnx, h.hlc, h.blk, h.dist, h.got⟩

theorem St.paintStep {ab of n k : Nat} {v : Value} (h : St w0 R Bt nx vb vg vc vl Bs cs ls K gots w) (hp : Pend w Bs ⟨ab, of, none⟩ n K gots) (hk : k < n) (hpt : Painted w w1 ⟨ab, of, none⟩ k v) :
    (∃ u, w1.cell? ⟨ab, of + k, none⟩ = some u) ∧ w1.frozen? ⟨ab, of + k, none⟩ = false ∧ Painted w (w1.setCell ⟨ab, of + k, none⟩ v) ⟨ab, of, none⟩ (k + 1) v := by
  obtain ⟨t, ht, hb, _, hle, _, _⟩ := hp (by omega)
  obtain ⟨_, cur, hcur, hcs, _⟩ := h.blk t ht
  obtain ⟨hl1, _⟩ := h.hlc t ht
  simp only at hb hle
  subst hb
  obtain ⟨cur', h1, h2, _, _⟩ := hpt.2 cur hcur
  refine ⟨⟨cur'[of + k]'(by omega), ?_⟩, h1.free _, hpt.step rfl hcur (by simp only; omega)⟩
  rw [h1.cell, Array.getElem?_eq_getElem]

/-- The mark behind the painting, whatever the length. -/
theorem St.painted {ao : Addr} {n : Nat} (h : St w0 R Bt nx vb vg vc vl Bs cs ls K gots w) (hp : Pend w Bs ao n K gots) (hpt : Painted w w1 ao n (mkOf K)) (h0 : n = 0 → w1 = w) :
    St w0 R Bt nx vb vg vc vl Bs cs ls K gots w1 ∧ GotOk w1 Bs ao n K := by
  by_cases hn : 0 < n
  · exact h.paint hp hn hpt
  · obtain rfl := h0 (by omega)
    exact ⟨h, fun hn' => absurd hn' hn⟩

/-- The two model rows, read at one index. -/
theorem St.cellCL {ac al : Option Addr} {lc ll cc cl k : Nat} (h : St w0 R Bt nx vb vg (.slice ac lc cc) (.slice al ll cl) Bs cs ls K gots w) (hk : k < cs.length) (hk' : k < ls.length) :
    ∃ gc gl, ac = some ⟨gc, 0, none⟩ ∧ al = some ⟨gl, 0, none⟩ ∧ w.cell? ⟨gc, k, none⟩ = some (.int .i64 ((cs.getD k 0 : Nat) : Int)) ∧ w.cell? ⟨gl, k, none⟩ = some (.int .i64 ((ls.getD k 0 : Nat) : Int)) ∧ w.frozen? ⟨gl, k, none⟩ = false ∧ lc = cs.length ∧ ll = ls.length ∧ lc ≤ cc ∧ ll ≤ cl := by
  obtain ⟨gc, c1, cur1, e1, _, a1, n1, _⟩ := owns_at h.hvc (by omega)
  obtain ⟨gl, c2, cur2, e2, _, a2, n2, _⟩ := owns_at h.hvl (by omega)
  simp only [Value.slice.injEq] at e1 e2
  obtain ⟨rfl, rfl, rfl⟩ := e1
  obtain ⟨rfl, rfl, rfl⟩ := e2
  refine ⟨gc, gl, rfl, rfl, ?_, ?_, a2.free _, rfl, rfl, n1, n2⟩
  · rw [h.hvc.cellAt k (by omega)]
    simp [hk]
  · rw [h.hvl.cellAt k (by omega)]
    simp [hk']

theorem St.storeL {gl ll cl k x nd : Nat} (h : St w0 R Bt nx vb vg vc (.slice (some ⟨gl, 0, none⟩) ll cl) Bs cs ls K gots w) (hll : ll = ls.length) (hk : k < ls.length) :
    St w0 R Bt nx vb vg vc (.slice (some ⟨gl, 0, none⟩) ll cl) Bs cs (ls.set k x) K gots ((w.drewN nd).setCell ⟨gl, k, none⟩ (.int .i64 (x : Int))) := by
  have h' : St w0 R Bt nx vb vg vc (.slice (some ⟨gl, 0, none⟩) ll cl) Bs cs ls K gots (w.drewN nd) := h.draw
  have hs : Same [gl] (w.drewN nd) ((w.drewN nd).setCell ⟨gl, k, none⟩ (.int .i64 (x : Int))) := (Same.refl _ _).setCell (.inl (by simp)) _
  refine h'.ints hs (by intro b hb; simp at hb; subst hb; right; rfl) (hs.owns h'.hvc ?_) ?_ h'.d2
  · intro g hg hm
    simp at hm
    subst hm
    exact h'.d2 _ hg rfl
  · subst hll
    have := (h'.hvl.stored k (.int .i64 (x : Int))).1
    rw [List.length_set, List.map_set]
    exact this

/-- The two appends of a new block's size and length. -/
theorem St.appendCL {gc gl cc cl x y : Nat} (h : St w0 R Bt nx vb vg vc vl Bs cs ls K gots w)
    (hc : w1.ownsRow w0.heap.size 3 1 (.slice (some ⟨gc, 0, none⟩) (cs.length + 1) cc) (cs.length + 1) ((cs.map fun c : Nat => Value.int .i64 (c : Int)) ++ [.int .i64 (x : Int)])) (hs : Same vc.ownBlock.toList w w1) (hat : vc.ownBlock = some gc ∨ w.heap.size ≤ gc)
    (hl : w2.ownsRow w0.heap.size 3 1 (.slice (some ⟨gl, 0, none⟩) (ls.length + 1) cl) (ls.length + 1) ((ls.map fun c : Nat => Value.int .i64 (c : Int)) ++ [.int .i64 (y : Int)])) (hs2 : Same vl.ownBlock.toList w1 w2) (hat2 : vl.ownBlock = some gl ∨ w1.heap.size ≤ gl) :
    St w0 R Bt nx vb vg (.slice (some ⟨gc, 0, none⟩) (cs.length + 1) cc) (.slice (some ⟨gl, 0, none⟩) (ls.length + 1) cl) Bs (cs ++ [x]) (ls ++ [y]) K gots w2 := by
  have hgl : vl.ownBlock ≠ some gc := by
    intro hm
    rcases hat with hat | hat
    · exact h.d2 _ hat hm
    · have := (h.hvl.lt _ hm).2
      omega
  have hgc := (hc.lt gc rfl).2
  refine h.ints (S := vc.ownBlock.toList ++ vl.ownBlock.toList) ((hs.mono (by intro b hb; exact List.mem_append_left _ hb)).comp hs2 (by intro b hb; exact .inl (List.mem_append_right _ hb))) ?_ ?_ ?_ ?_
  · intro b hb
    simpa using hb
  · simp only [List.length_append, List.map_append]
    refine hs2.owns hc ?_
    intro g hg hm
    simp [Value.ownBlock] at hg hm
    subst hg
    exact hgl hm
  · simp only [List.length_append, List.map_append]
    exact hl
  · intro g hg hm
    simp [Value.ownBlock] at hg hm
    subst hg
    subst hm
    rcases hat2 with hat2 | hat2
    · exact hgl hat2
    · omega

/-- What an append onto the second row wants of it behind the append onto the first. -/
theorem St.hvl_behind (h : St w0 R Bt nx vb vg vc vl Bs cs ls K gots w) (hs : Same vc.ownBlock.toList w w1) : w1.ownsRow w0.heap.size 3 1 vl ls.length (ls.map fun c : Nat => Value.int .i64 (c : Int)) :=
  hs.owns h.hvl (by intro g hg hm; simp at hm; exact h.d2 _ hm hg)

theorem getD_map {α : Type} (l : List α) (f : α → Nat) {k : Nat} {t : α} (h : l[k]? = some t) : (l.map f).getD k 0 = f t := by
  simp [List.getD, h]

theorem Step.rooms {n j : Nat} {Bs' : List (Nat × Nat × Nat)} (hs : Step Bs nx n j Bs') (hcs : cs = Bs.map fun t => t.2.2) (hls : ls = Bs.map fun t => t.2.1) (hlc : ∀ t ∈ Bs, t.2.1 ≤ t.2.2 ∧ t.2.2 ≤ 1024) :
    j ≤ Bs.length ∧ ∀ k, nx ≤ k → k < j → ((cs.getD k 0 : Nat) : Int) - ((ls.getD k 0 : Nat) : Int) < (n : Int) := by
  obtain ⟨h1, h2, h3⟩ := hs
  have hj : j ≤ Bs.length := by
    rcases h3 with ⟨g, l, c, ht, _⟩ | ⟨rfl, _⟩
    · have := (List.getElem?_eq_some_iff.1 ht).1
      omega
    · exact Nat.le_refl _
  refine ⟨hj, fun k hk1 hk2 => ?_⟩
  obtain ⟨t, ht⟩ : ∃ t, Bs[k]? = some t := ⟨Bs[k]'(by omega), by simp [show k < Bs.length by omega]⟩
  have := h2 k t hk1 hk2 ht
  have hl := hlc t (List.mem_of_getElem? ht)
  rw [hcs, hls, getD_map _ _ ht, getD_map _ _ ht]
  omega

theorem caps_le (hcs : cs = Bs.map fun t => t.2.2) (hls : ls = Bs.map fun t => t.2.1) (hlc : ∀ t ∈ Bs, t.2.1 ≤ t.2.2 ∧ t.2.2 ≤ 1024) (k : Nat) : cs.getD k 0 ≤ 1024 ∧ ls.getD k 0 ≤ 1024 := by
  by_cases hk : k < Bs.length
  · obtain ⟨t, ht⟩ : ∃ t, Bs[k]? = some t := ⟨Bs[k], by simp [hk]⟩
    have hl := hlc t (List.mem_of_getElem? ht)
    rw [hcs, hls, getD_map _ _ ht, getD_map _ _ ht]
    omega
  · rw [hcs, hls]
    simp [List.getD, List.getElem?_eq_none (show Bs.length ≤ k by omega)]

/-- The slab's row and the two model rows, read at one index at the end. -/
theorem St.cell3 {ab ac al : Option Addr} {nb lc ll cb cc cl k : Nat} (h : St w0 R Bt nx (.slice ab nb cb) vg (.slice ac lc cc) (.slice al ll cl) Bs cs ls K gots w) (hcs : cs = Bs.map fun t => t.2.2) (hls : ls = Bs.map fun t => t.2.1) (hk : k < cs.length) :
    ∃ gb gc gl g l c, ab = some ⟨gb, 0, none⟩ ∧ ac = some ⟨gc, 0, none⟩ ∧ al = some ⟨gl, 0, none⟩ ∧ w.cell? ⟨gb, k, none⟩ = some (.slice (some ⟨g, 0, none⟩) l c) ∧ w.cell? ⟨gc, k, none⟩ = some (.int .i64 (c : Int)) ∧ w.cell? ⟨gl, k, none⟩ = some (.int .i64 (l : Int)) ∧ k < nb ∧ k < lc ∧ k < ll ∧ nb ≤ 9223372036854775807 ∧ l ≤ 1024 ∧ c ≤ 1024 := by
  have hk' : k < Bs.length := by rw [hcs] at hk; simpa using hk
  have hcl : cs.length = Bs.length := by rw [hcs]; simp
  have hll' : ls.length = Bs.length := by rw [hls]; simp
  obtain ⟨gc, gl, rfl, rfl, h1, h2, _, rfl, rfl, _, _⟩ := h.cellCL (k := k) hk (by omega)
  obtain ⟨gb, c1, cur1, e1, _, a1, n1, n2⟩ := owns_at h.hvb (by omega)
  simp only [Value.slice.injEq] at e1
  obtain ⟨rfl, rfl, rfl⟩ := e1
  obtain ⟨⟨g, l, c⟩, ht⟩ : ∃ t, Bs[k]? = some t := ⟨Bs[k], by simp [hk']⟩
  have hl := h.hlc _ (List.mem_of_getElem? ht)
  rw [hcs, getD_map _ _ ht] at h1
  rw [hls, getD_map _ _ ht] at h2
  simp only [maxLen] at n2
  refine ⟨gb, gc, gl, g, l, c, rfl, rfl, rfl, ?_, h1, h2, hk', by omega, by omega, by omega, by simp only at hl; omega, hl.2⟩
  rw [h.hvb.cellAt k (by omega)]
  simp [ht, RowV]

theorem St.gotAt {ag : Option Addr} {cg k : Nat} (h : St w0 R Bt nx vb (.slice ag K cg) vc vl Bs cs ls K gots w) (hk : k < K) :
    ∃ gg ao n, ag = some ⟨gg, 0, none⟩ ∧ w.cell? ⟨gg, k, none⟩ = some (.slice (some ao) n n) ∧ GotOk w Bs ao n k := by
  obtain ⟨gg, c1, cur1, e1, _, a1, n1, _⟩ := owns_at h.hvg (by omega)
  simp only [Value.slice.injEq] at e1
  obtain ⟨rfl, _, rfl⟩ := e1
  obtain ⟨ao, n, h1, h2⟩ := h.got k hk
  refine ⟨gg, ao, n, rfl, ?_, h2⟩
  rw [h.hvg.cellAt k (by omega)]
  exact h1

theorem St.gotLen {ao : Addr} {n k : Nat} (h : St w0 R Bt nx vb vg vc vl Bs cs ls K gots w) (hg : GotOk w Bs ao n k) : n ≤ 1024 := by
  by_cases hn : 0 < n
  · obtain ⟨t, ht, _, _, h3, _⟩ := hg hn
    have := h.hlc t ht
    omega
  · omega
end
end Go.Proofs.Ybulkbksk
