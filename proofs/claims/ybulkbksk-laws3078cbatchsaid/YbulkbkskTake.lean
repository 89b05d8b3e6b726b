import Derived.Test.YbulkbkskRows
import Derived.Test.YbulkbkskHeap
import Derived.WalkKit
import Derived.WalkLawsBesides
import Derived.WalkSpells
import Derived.BigQuiet
import Derived.Deep.LoopGhost
import Derived.Deep.QuietTactic
import Derived.Deep.Cut
import Derived.Deep.CutRange
import Derived.Deep.DeepCutAuto
import Derived.Deep.DeepMust
namespace Go.Proofs.Ybulkbksk
open Go.RowKit
set_option linter.unusedVariables false

def RowV (t : Nat × Nat × Nat) : Value := .slice (some ⟨t.1, 0, none⟩) t.2.1 t.2.2

/-- The size of the slab's next block, ahead of 'max'. -/
def szOf (Bs : List (Nat × Nat × Nat)) : Nat := match Bs.getLast? with
  | none => 32
  | some t => min (2 * t.2.2) 1024

theorem info86 : (Yba.prog.info? 86).map (fun i => (i.zero, i.size, i.bytes)) = some (some (.slice none 0 0), 1, 24) := by kernel_rfl
theorem info5 : (Yba.prog.info? 5).map (fun i => (i.zero, i.size, i.bytes)) = some (some (.int .u8 0), 1, 1) := by kernel_rfl
theorem info3 : (Yba.prog.info? 3).map (fun i => (i.zero, i.size, i.bytes)) = some (some (.int .i64 0), 1, 8) := by kernel_rfl

def TakePost (Bt base m nx : Nat) (c0 c1 c2 c5 c6 vb : Value) (Bs : List (Nat × Nat × Nat)) (w : World) (e : Ending) (w' : World) : Prop :=
  ∃ j, nx ≤ j ∧ (∀ i t, nx ≤ i → i < j → Bs[i]? = some t → t.2.2 - t.2.1 < m) ∧
   ((∃ g l c ab of, Bs[j]? = some (g, l, c) ∧ m ≤ c - l ∧ e = .returned (.slice (some ⟨ab, of, none⟩) m m) ∧ (0 < m → ab = g ∧ of = l) ∧
      At w' Bt #[c0, c1, c2, vb, .int .i64 j, c5, c6] 102 ∧ w'.ownsRow base 86 1 vb Bs.length ((Bs.set j (g, l + m, c)).map RowV) ∧ Same (Bt :: vb.ownBlock.toList) w w') ∨
    (j = Bs.length ∧ ∃ g vb', e = .returned (.slice (some ⟨g, 0, none⟩) m m) ∧ w.heap.size ≤ g ∧ At w' g (Array.replicate (max m (szOf Bs)) (.int .u8 0)) 5 ∧
      At w' Bt #[c0, c1, c2, vb', .int .i64 j, c5, c6] 102 ∧ w'.ownsRow base 86 1 vb' (Bs.length + 1) ((Bs ++ [(g, m, max m (szOf Bs))]).map RowV) ∧
      (vb'.ownBlock = vb.ownBlock ∨ ∀ k, vb'.ownBlock = some k → w.heap.size ≤ k) ∧ Same (Bt :: vb.ownBlock.toList) w w'))

theorem szOf_le (Bs : List (Nat × Nat × Nat)) : szOf Bs ≤ 1024 := by
  unfold szOf
  split <;> omega

theorem set_rows (Bs : List (Nat × Nat × Nat)) (k : Nat) (t : Nat × Nat × Nat) : (Bs.map RowV).set k (RowV t) = (Bs.set k t).map RowV := by
  simp [List.map_set]

theorem take_found {Bt base m nx k gb g l c cap N : Nat} {c0 c1 c2 c5 c6 : Value} {Bs : List (Nat × Nat × Nat)} {w wr : World} {e : Ending} {ab of : Nat} (L : Nat) (hL : L = l + m)
    (hk1 : nx ≤ k) (HF : ∀ i t, nx ≤ i → i < k → Bs[i]? = some t → t.2.2 - t.2.1 < m) (HT : Bs[k]? = some (g, l, c)) (hroom : m ≤ c - l)
    (hB : At wr Bt #[c0, c1, c2, .slice (some ⟨gb, 0, none⟩) Bs.length cap, .int .i64 k, c5, c6] 102) (hsame : Same [Bt] w wr) (hown : wr.ownsRow base 86 1 (.slice (some ⟨gb, 0, none⟩) Bs.length cap) Bs.length (Bs.map RowV))
    (hne : gb ≠ Bt) (he : e = .returned (.slice (some ⟨ab, of, none⟩) m m)) (hao : 0 < m → ab = g ∧ of = l) :
    TakePost Bt base m nx c0 c1 c2 c5 c6 (.slice (some ⟨gb, 0, none⟩) Bs.length cap) Bs w e ((wr.drewN N).setCell ⟨gb, k, none⟩ (.slice (some ⟨g, 0, none⟩) L c)) := by
  subst hL
  refine ⟨k, hk1, HF, .inl ⟨g, l, c, ab, of, HT, hroom, he, hao, (hB.drewN N).other (Ne.symm hne) _, ?_, ?_⟩⟩
  · have h3 := ((owns_drewN hown N).stored k (RowV (g, l + m, c))).1
    rw [set_rows] at h3
    exact h3
  · exact ((hsame.mono (S' := Bt :: (Value.slice (some ⟨gb, 0, none⟩) Bs.length cap).ownBlock.toList) (by simp)).drewN N).setCell (.inl (by simp [Value.ownBlock])) _

theorem take_new {Bt base m nx g gn cap cap' S M nd : Nat} {ao : Option Addr} {c0 c1 c2 c5 c6 : Value} {Bs : List (Nat × Nat × Nat)} {w wr w1 w2 : World} {e : Ending} (HS : szOf Bs = S) (HM : M = max m S)
    (hk1 : nx ≤ Bs.length) (HF : ∀ i t, nx ≤ i → i < Bs.length → Bs[i]? = some t → t.2.2 - t.2.1 < m)
    (hgn : gn = wr.heap.size) (hsame : Same [Bt] w wr) (hs1 : Same [] (wr.drewN nd) w1) (hs2 : Same (Value.slice ao Bs.length cap).ownBlock.toList w1 w2)
    (hz1 : At w1 gn (Array.replicate M (.int .u8 0)) 5) (hsz : w1.heap.size = wr.heap.size + 1)
    (hB2 : At w2 Bt #[c0, c1, c2, .slice ao Bs.length cap, .int .i64 ↑Bs.length, c5, c6] 102)
    (hown2 : w2.ownsRow base 86 1 (.slice (some ⟨g, 0, none⟩) (Bs.length + 1) cap') (Bs.length + 1) (List.map RowV Bs ++ [.slice (some ⟨gn, 0, none⟩) m M]))
    (hat2 : (Value.slice ao Bs.length cap).ownBlock = some g ∨ w1.heap.size ≤ g) (hold : ∀ k, (Value.slice ao Bs.length cap).ownBlock = some k → k < wr.heap.size)
    (he : e = .returned (.slice (some ⟨gn, 0, none⟩) m m)) :
    TakePost Bt base m nx c0 c1 c2 c5 c6 (.slice ao Bs.length cap) Bs w e (w2.setCell ⟨Bt, 3, none⟩ (.slice (some ⟨g, 0, none⟩) (Bs.length + 1) cap')) := by
  subst HS
  subst HM
  subst hgn
  have hz2 : At w2 wr.heap.size (Array.replicate (max m (szOf Bs)) (.int .u8 0)) 5 := hs2.at_ hz1 (by intro hm; simp at hm; have := hold _ hm; omega)
  have hgt : g ≠ Bt := by
    obtain ⟨_, cur, hc⟩ := owns_block hown2 (g := g) rfl
    exact hc.ne hB2 (by decide)
  refine ⟨Bs.length, hk1, HF, .inr ⟨rfl, wr.heap.size, .slice (some ⟨g, 0, none⟩) (Bs.length + 1) cap', he, hsame.size, hz2.other (hz2.ne hB2 (by decide)) _, ?_, ?_, ?_, ?_⟩⟩
  · have := hB2.set 3 (.slice (some ⟨g, 0, none⟩) (Bs.length + 1) cap')
    simpa using this
  · have h := ownsRow_setCell_other hown2 (a := ⟨Bt, 3, none⟩) (by simp [Value.ownBlock]; exact hgt) (.slice (some ⟨g, 0, none⟩) (Bs.length + 1) cap')
    rw [List.map_append]
    exact h
  · rcases hat2 with h | h
    · left; rw [h]; rfl
    · right; intro k hk; simp [Value.ownBlock] at hk; subst hk; have := hsame.size; omega
  · have h1 := (hsame.mono (S' := Bt :: (Value.slice ao Bs.length cap).ownBlock.toList) (by simp)).drewN nd
    exact ((h1.comp hs1 (by simp)).comp hs2 (fun b hb => .inl (List.mem_cons_of_mem _ hb))).setCell (.inl (by simp)) _

set_option maxRecDepth 20000 in
set_option maxHeartbeats 1000000 in
theorem take_any (Bt base m nx : Nat) (c0 c1 c2 c5 c6 vb : Value) (Bs : List (Nat × Nat × Nat)) (w : World)
    (hBt : At w Bt #[c0, c1, c2, vb, .int .i64 nx, c5, c6] 102) (hvb : w.ownsRow base 86 1 vb Bs.length (Bs.map RowV))
    (hnx : nx ≤ Bs.length) (hn : Bs.length ≤ 256) (hm : m ≤ 300) (hlc : ∀ t ∈ Bs, t.2.1 ≤ t.2.2 ∧ t.2.2 ≤ 1024) (hbs : base ≤ w.heap.size) :
    Calls Yba.prog 23 #[.pointer (some ⟨Bt, 3, none⟩), .int .i64 m] w fun e w' => TakePost Bt base m nx c0 c1 c2 c5 c6 vb Bs w e w' := by
  obtain ⟨ao, cap, rfl⟩ := owns_form hvb
  go_enter Yba.func23, Yba.ntmps23
  go_wp2
  go_loopg [] (Bs.length - nx) (fun q wr => ∃ k : Nat, k + q = Bs.length ∧ nx ≤ k ∧ (∀ i t, nx ≤ i → i < k → Bs[i]? = some t → t.2.2 - t.2.1 < m) ∧
      At wr Bt #[c0, c1, c2, .slice ao Bs.length cap, .int .i64 k, c5, c6] 102 ∧ Same [Bt] w wr)
  case atStart => exact ⟨nx, by omega, Nat.le_refl _, fun i t h1 h2 => by omega, hBt, Same.refl _ _⟩
  case round =>
    obtain ⟨k, hkq, hk1, hfst, hB, hsame⟩ := hrel
    have hc3 := hB.cell 3
    have hc4 := hB.cell 4
    simp at hc3 hc4
    by_cases hlt : k < Bs.length
    · obtain ⟨gb, cap', cur, hv, hbase, hAt, hncap, hcapm⟩ := owns_at hvb (by omega)
      simp only [Value.slice.injEq] at hv
      obtain ⟨rfl, _, rfl⟩ := hv
      obtain ⟨⟨g, l, c⟩, ht⟩ : ∃ t, Bs[k]? = some t := ⟨Bs[k], by simp [hlt]⟩
      have hne : gb ≠ Bt := hAt.ne hBt (by decide)
      have hck : wr.cell? ⟨gb, k, none⟩ = some (.slice (some ⟨g, 0, none⟩) l c) := by
        have h1 := hvb.cellAt k (by omega)
        have h2 : (Bs.map RowV)[k]? = some (.slice (some ⟨g, 0, none⟩) l c) := by simp [ht, RowV]
        exact hsame.cell (h1.trans h2) (by simpa using hne)
      have hlc' := hlc _ (List.mem_of_getElem? ht)
      have hfz : wr.frozen? ⟨gb, k, none⟩ = false := by
        rw [World.frozen?_of_block (hsame.block gb hAt.lt (by simpa using hne))]
        exact hAt.free k
      have hfz4 := hB.free 4
      have HT : Hid (Bs[k]? = some (g, l, c)) := ht
      have HF : Hid (∀ i t, nx ≤ i → i < k → Bs[i]? = some t → t.2.2 - t.2.1 < m) := hfst
      have hown : wr.ownsRow base 86 1 (.slice (some ⟨gb, 0, none⟩) Bs.length cap) Bs.length (Bs.map RowV) := hsame.owns hvb (by intro g' hg'; simp [Value.ownBlock] at hg'; subst hg'; simpa using hne)
      have HB : Hid (At wr Bt #[c0, c1, c2, .slice (some ⟨gb, 0, none⟩) Bs.length cap, .int .i64 k, c5, c6] 102 ∧ Same [Bt] w wr ∧ wr.ownsRow base 86 1 (.slice (some ⟨gb, 0, none⟩) Bs.length cap) Bs.length (Bs.map RowV)) := ⟨hB, hsame, hown⟩
      simp only at hlc'
      obtain ⟨hl1, hl2⟩ := hlc'
      clear hvb hAt hfst hB hsame ht hlc hBt hown
      by_cases hroom : m ≤ c - l
      · by_cases hm0 : m = 0
        · subst hm0
          go_wp2_with fail
          go_quiet (fail)
          go_wp2_with fail
          go_quiet (fail)
          go_wp2_with fail
          go_region
          go_wp2
          all_goals
            go_ret
            obtain ⟨hB, hsame, hown⟩ := HB.out
            exact take_found _ rfl hk1 HF.out HT.out hroom hB hsame hown hne rfl (fun h => by omega)
        · have hm1 : 0 < m := by omega
          go_wp2_with fail
          go_quiet (fail)
          go_wp2_with fail
          go_quiet (fail)
          go_wp2_with fail
          go_region
          go_wp2
          go_ret
          obtain ⟨hB, hsame, hown⟩ := HB.out
          exact take_found _ rfl hk1 HF.out HT.out hroom hB hsame hown hne (by show Ending.returned (.slice (some ⟨g, l, none⟩) (l + m - l) (l + m - l)) = _; rw [Nat.add_sub_cancel_left]) (fun h => ⟨rfl, rfl⟩)
      · go_wp2_with fail
        go_quiet (fail)
        go_wp2_with fail
        go_quiet (fail)
        go_wp2_with fail
        go_roundg (gk - 1)
        case measure => omega
        case rel =>
          obtain ⟨hB, hsame, hown⟩ := HB.out
          refine ⟨k + 1, by omega, by omega, ?_, ?_, (hsame.drewN _).setCell (.inl (by simp)) _⟩
          · intro i t h1 h2 h3
            by_cases hik : i = k
            · subst hik
              rw [HT.out] at h3
              simp at h3
              subst h3
              show c - l < m
              omega
            · exact HF.out i t h1 (by omega) h3
          · have := fun N => (hB.drewN N).set 4 (.int .i64 (↑k + 1))
            simpa using this _
    · obtain ⟨i5, hi5, hz50, hz51, hz52⟩ := info_parts info5
      obtain rfl : k = Bs.length := by omega
      have HF : Hid (∀ i t, nx ≤ i → i < Bs.length → Bs[i]? = some t → t.2.2 - t.2.1 < m) := hfst
      have hne : ∀ g', (Value.slice ao Bs.length cap).ownBlock = some g' → g' ≠ Bt := by
        intro g' hg' he
        subst he
        exact owns_ne hvb hBt (by decide) hg'
      have hown : wr.ownsRow base 86 1 (.slice ao Bs.length cap) Bs.length (Bs.map RowV) := hsame.owns hvb (by intro g' hg'; simpa using hne g' hg')
      clear hfst hkq hvb hBt
      go_wp2_with fail
      go_quiet (fail)
      go_upto_if 74 with fail
      go_cut [6] (fun s wc => s = .int .i64 (szOf Bs) ∧ ∃ nd, wc = wr.drewN nd)
      case first =>
        by_cases h0 : Bs = []
        · subst h0
          clear hown hsame hB HF
          go_wp2
          go_meet
          case rel => exact ⟨rfl, _, rfl⟩
        · have h1 : 0 < Bs.length := List.length_pos_iff.2 h0
          obtain ⟨gb, cap', cur, hv, hbase, hAt, hncap, hcapm⟩ := owns_at hown h1
          simp only [Value.slice.injEq] at hv
          obtain ⟨rfl, _, rfl⟩ := hv
          obtain ⟨⟨g, l, c⟩, ht⟩ : ∃ t, Bs[Bs.length - 1]? = some t := ⟨Bs[Bs.length - 1], by simp⟩
          have hck : wr.cell? ⟨gb, Bs.length - 1, none⟩ = some (.slice (some ⟨g, 0, none⟩) l c) := by
            have h1' := hown.cellAt (Bs.length - 1) (by omega)
            have h2 : (Bs.map RowV)[Bs.length - 1]? = some (.slice (some ⟨g, 0, none⟩) l c) := by simp [ht, RowV]
            exact h1'.trans h2
          have hlc' := hlc _ (List.mem_of_getElem? ht)
          simp only at hlc'
          obtain ⟨hl1, hl2⟩ := hlc'
          have HS : Hid (szOf Bs = min (2 * c) 1024) := by
            show szOf Bs = _
            unfold szOf
            rw [List.getLast?_eq_getElem?, ht]
          clear hown hsame hB HF ht hAt hlc
          by_cases hc5 : 1024 < 2 * c
          · go_wp2_with fail
            go_region
            go_wp2
            go_meet
            case rel => exact ⟨by rw [HS.out]; go_num, _, rfl⟩
          · go_wp2_with fail
            go_region
            go_wp2
            go_meet
            case rel => exact ⟨by rw [HS.out]; go_num, _, rfl⟩
      case rest =>
        obtain ⟨rfl, nd, rfl⟩ := hcut
        have hS1 := szOf_le Bs
        generalize HS0 : szOf Bs = S at *
        have HS : Hid (szOf Bs = S) := HS0
        obtain ⟨i86, hi86, hz860, hz861, hz862⟩ := info_parts info86
        clear HS0 hlc hlt hc3 hc4 hnx
        have hBb := hB.lt
        have hold : ∀ k, (Value.slice ao Bs.length cap).ownBlock = some k → k < wr.heap.size := fun k hk => (hown.lt k hk).2
        obtain ⟨M, HM, hM1, hM2⟩ : ∃ M, Hid (M = max m S) ∧ m ≤ M ∧ M ≤ 1024 := ⟨max m S, rfl, by omega, by omega⟩
        rcases (show (S < m ∧ S < m) ∨ (m ≤ S ∧ S ≤ m) ∨ (m < S ∧ m < S) by omega) with ⟨hmS, hmS'⟩ | ⟨hmS, hmS'⟩ | ⟨hmS, hmS'⟩
        all_goals
          go_wp2_with (at_make; refine wpList_make_at _ rfl (.tmp 90) (.tmp 93) 86 rfl 5 i5 (.int .u8 0) Yba.underlying86 hi5 hz50 hz51 rfl .i64 .i64 _ _ m M rfl rfl rfl (by have := HM.out; omega) hM1 (by rw [hz52]; omega) (by unfold maxLen; omega) ?_)
          intro w1 hz1 hs1 hsz1
          have HZ : Hid (w1.heap.size = wr.heap.size + 1) := hsz1
          have hB1 : At w1 Bt #[c0, c1, c2, Value.slice ao Bs.length cap, Value.int IntKind.i64 ↑Bs.length, c5, c6] 102 := hs1.at_ (hB.drewN nd) (by simp)
          have hown1 : w1.ownsRow base 86 1 (.slice ao Bs.length cap) Bs.length (Bs.map RowV) := hs1.owns (owns_drewN hown nd) (by simp)
          have hc3 := hB1.cell 3
          have hb1 : base ≤ w1.heap.size := by have := hsame.size; omega
          simp at hc3
          clear hB hown hsz1
          go_wp2_with (at_builtin; go_must (refine wpList_append_one w1 rfl (.tmp 99) (.tmp 101) 98 rfl base 86 (.slice none 0 0) 24 Yba.underlying98 info86 rfl hown1 rfl _ rfl rfl (by unfold maxLen; omega) (by omega) hb1 ?_))
          intro g cap' w2 hown2 hs2 hat2
          have hB2 : At w2 Bt #[c0, c1, c2, Value.slice ao Bs.length cap, Value.int IntKind.i64 ↑Bs.length, c5, c6] 102 := hs2.at_ hB1 (by intro hm; simp at hm; exact hne _ hm rfl)
          have hf3 := hB2.free 3
          have hc3' := hB2.cell 3
          simp at hc3'
          clear hown1 hc3
          go_wp2
          all_goals go_ret
          all_goals exact take_new HS.out HM.out hk1 HF.out rfl hsame hs1 hs2 hz1 HZ.out hB2 hown2 hat2 hold rfl
end Go.Proofs.Ybulkbksk
