import Derived.Test.YbulkbkskLabels
namespace Go.Proofs.Ybulkbksk
open Go.RowKit
set_option linter.unusedVariables false

/-- The row's block is the old one, or one that is new. -/
def Fresh (w : World) (v v' : Value) : Prop := v'.ownBlock = v.ownBlock ∨ ∀ k, v'.ownBlock = some k → w.heap.size ≤ k

def AddPost (w : World) (base Sb x : Nat) (vb vl : Value) (B L : List Nat) (w' : World) : Prop :=
  ∃ vb' vl' B', LS w' base Sb vb' vl' B' (addL L x) ∧ Same (Sb :: (vb.ownBlock.toList ++ vl.ownBlock.toList)) w w' ∧ Fresh w vb vb' ∧ Fresh w vl vl'

theorem Fresh.refl (w : World) (v : Value) : Fresh w v v := .inl rfl

theorem Fresh.step {w w1 : World} {v v' : Value} {g cap n : Nat} (h : Fresh w v v') (hsz : w.heap.size ≤ w1.heap.size) (hat : v'.ownBlock = some g ∨ w1.heap.size ≤ g) : Fresh w v (.slice (some ⟨g, 0, none⟩) n cap) := by
  rcases hat with hat | hat
  · rcases h with h | h
    · left; rw [← h, hat]; rfl
    · right; intro k hk; simp [Value.ownBlock] at hk; subst hk; exact h g hat
  · right; intro k hk; simp [Value.ownBlock] at hk; subst hk; omega

theorem add_has {w wr : World} {base Sb x nd : Nat} {vb vl vb' : Value} {B B' L : List Nat} (h : LS wr base Sb vb' vl B' L) (hm : x ∈ L) (hs : Same (Sb :: vb.ownBlock.toList) w wr) (hf : Fresh w vb vb') : AddPost w base Sb x vb vl B L (wr.drewN nd) := by
  refine ⟨vb', vl, B', ?_, (hs.mono ?_).drewN nd, hf, Fresh.refl _ _⟩
  · unfold addL
    rw [if_pos hm]
    exact h.draw nd
  · intro b hb
    simp at hb ⊢
    rcases hb with hb | hb
    · exact .inl hb
    · exact .inr (.inl hb)

theorem add_put {w wr w2 : World} {base Sb x nd gb cb g cap W : Nat} {O : Int} {vb vl : Value} {B B' L : List Nat} (h : LS wr base Sb (.slice (some ⟨gb, 0, none⟩) B'.length cb) vl B' L) (hx : x < 2048) (hi : x / 64 < B'.length) (hm : x ∉ L)
    (hW : B'.getD (x / 64) 0 = W) (hO : O = ((W ||| 2 ^ (x % 64) : Nat) : Int))
    (hown : w2.ownsRow base 21 1 (.slice (some ⟨g, 0, none⟩) (L.length + 1) cap) (L.length + 1) ((L.map fun n : Nat => Value.int .i32 (n : Int)) ++ [.int .i32 (x : Int)]))
    (hs2 : Same vl.ownBlock.toList ((wr.drewN nd).setCell ⟨gb, x / 64, none⟩ (.int .u64 O)) w2) (hat : vl.ownBlock = some g ∨ wr.heap.size ≤ g)
    (hs : Same (Sb :: vb.ownBlock.toList) w wr) (hf : Fresh w vb (.slice (some ⟨gb, 0, none⟩) B'.length cb)) :
    At w2 Sb #[.slice (some ⟨gb, 0, none⟩) B'.length cb, vl] 77 ∧ AddPost w base Sb x vb vl B L (w2.setCell ⟨Sb, 1, none⟩ (.slice (some ⟨g, 0, none⟩) (L.length + 1) cap)) := by
  subst hW
  subst hO
  have hgS : gb ≠ Sb := by
    obtain ⟨_, c, hc⟩ := owns_block h.hb (g := gb) rfl
    exact hc.ne h.hS (by decide)
  have hbel : ∀ b, b ∈ vl.ownBlock.toList → b ∈ Sb :: (vb.ownBlock.toList ++ vl.ownBlock.toList) := by
    intro b hb
    simp at hb ⊢
    exact .inr (.inr hb)
  constructor
  · refine hs2.at_ ((h.hS.drewN nd).other (Ne.symm hgS) _) ?_
    intro hv
    simp at hv
    exact owns_ne h.hl h.hS (by decide) hv
  · refine ⟨_, _, _, h.put hx hi hm rfl hown hs2, ?_, hf, (Fresh.refl w vl).step hs.size hat⟩
    refine (Same.comp (S := Sb :: (vb.ownBlock.toList ++ vl.ownBlock.toList)) (Same.setCell ((hs.mono ?_).drewN nd) ?_ _) hs2 (fun b hb => .inl (hbel b hb))).setCell (.inl (by simp)) _
    · intro b hb
      simp at hb ⊢
      rcases hb with hb | hb
      · exact .inl hb
      · exact .inr (.inl hb)
    · rcases hf with hf | hf
      · left
        have : vb.ownBlock = some gb := hf.symm
        simp [this]
      · right
        exact hf gb rfl

set_option maxHeartbeats 1000000 in
theorem add_any (Sb base x : Nat) (vb vl : Value) (B L : List Nat) (w : World) (h : LS w base Sb vb vl B L) (hx : x < 2048) (hL : L.length ≤ 4096) (hbs : base ≤ w.heap.size) :
    Calls Yba.prog 12 #[.pointer (some ⟨Sb, 0, none⟩), .int .i32 x] w fun e w' => e = .returned (.tuple #[]) ∧ AddPost w base Sb x vb vl B L w' := by
  have H0 : Hid (LS w base Sb vb vl B L) := h
  clear h
  go_enter Yba.func12, Yba.ntmps12
  go_wp2_with fail
  go_loopg [] (x / 64 + 1 - B.length) (fun q wr => ∃ vb' B', x / 64 + 1 - B'.length = q ∧ LS wr base Sb vb' vl B' L ∧ Same (Sb :: vb.ownBlock.toList) w wr ∧ Fresh w vb vb')
  case atStart => exact ⟨vb, B, rfl, H0.out, Same.refl _ _, Fresh.refl _ _⟩
  case round =>
    obtain ⟨vb', B', hq, hls, hs, hf⟩ := hrel
    have hbl := hls.blen
    obtain ⟨ab, cb, rfl⟩ := owns_form hls.hb
    have hc0 := hls.hS.cell 0
    have hc1 := hls.hS.cell 1
    have hf0 := hls.hS.free 0
    have hf1 := hls.hS.free 1
    simp at hc0 hc1
    have HL : Hid (LS wr base Sb (.slice ab B'.length cb) vl B' L) := hls
    have HS : Hid (Same (Sb :: vb.ownBlock.toList) w wr ∧ Fresh w vb (.slice ab B'.length cb)) := ⟨hs, hf⟩
    have hbw : base ≤ wr.heap.size := Nat.le_trans hbs hs.size
    clear hls hs hf
    by_cases hlt : B'.length ≤ x / 64
    · have hlt' : (B'.length : Int) ≤ (x : Int) / 64 := by omega
      go_wp2_with (at_builtin; go_must (refine wpList_append_one wr rfl (.tmp 17) (.tmp 18) 31 rfl base 81 (.int .u64 0) 8 Yba.underlying31 info81 rfl HL.out.hb rfl _ rfl rfl (by unfold maxLen; omega) (by omega) hbw ?_))
      intro g cap w1 hown1 hs1 hat1
      have hS1 : At w1 Sb #[.slice ab B'.length cb, vl] 77 := hs1.at_ HL.out.hS (by intro hm; simp at hm; exact owns_ne HL.out.hb HL.out.hS (by decide) hm)
      have hc0' := hS1.cell 0
      have hf0' := hS1.free 0
      simp at hc0'
      clear hS1
      have H1 : Hid (LS (w1.setCell ⟨Sb, 0, none⟩ (.slice (some ⟨g, 0, none⟩) (B'.length + 1) cap)) base Sb (.slice (some ⟨g, 0, none⟩) (B'.length + 1) cap) vl (B' ++ [0]) L) := HL.out.grow (by omega) hown1 hs1
      have H2 : Hid (Same (Sb :: vb.ownBlock.toList) w (w1.setCell ⟨Sb, 0, none⟩ (.slice (some ⟨g, 0, none⟩) (B'.length + 1) cap)) ∧ Fresh w vb (.slice (some ⟨g, 0, none⟩) (B'.length + 1) cap)) := by
        refine ⟨(HS.out.1.comp hs1 ?_).setCell (.inl (by simp)) _, HS.out.2.step HS.out.1.size hat1⟩
        intro b hb
        simp at hb
        rcases HS.out.2 with hq2 | hq2
        · left; rw [hq2] at hb; simp [hb]
        · right; exact hq2 b hb
      clear hown1 hs1 hat1 HL HS
      go_wp2
      go_roundg (gk - 1)
      case measure => omega
      case rel => exact ⟨_, B' ++ [0], by simp; omega, H1.out, H2.out.1, H2.out.2⟩
    · have hlt1 : x / 64 < B'.length := by omega
      have hlt' : (x : Int) / 64 < (B'.length : Int) := by omega
      obtain ⟨gb, cb', hv, hcw, hfw, hne, hcb⟩ := HL.out.word hlt1
      simp only [Value.slice.injEq] at hv
      obtain ⟨rfl, _, rfl⟩ := hv
      by_cases hm : x ∈ L
      · have he : (bits .and .u64 ((B'.getD (x / 64) 0 : Nat) : Int) (IntKind.u64.wrap ((2 : Int) ^ (x % 64))) == 0) = false := by
          rw [and_eq _ _ (HL.out.small _) (by omega), (HL.out.bit x hx).2 hm]
          rfl
        generalize B'.getD (x / 64) 0 = W at *
        go_wp2_with fail
        go_quiet (fail)
        go_wp2
        go_end0
        exact ⟨rfl, add_has HL.out hm HS.out.1 HS.out.2⟩
      · have hbit : (B'.getD (x / 64) 0).testBit (x % 64) = false := by
          cases hb : (B'.getD (x / 64) 0).testBit (x % 64)
          · rfl
          · exact absurd ((HL.out.bit x hx).1 hb) hm
        have he : (bits .and .u64 ((B'.getD (x / 64) 0 : Nat) : Int) (IntKind.u64.wrap ((2 : Int) ^ (x % 64))) == 0) = true := by
          rw [and_eq _ _ (HL.out.small _) (by omega), hbit]
          rfl
        have ho := or_bit _ (x % 64) (HL.out.small (x / 64)) (by omega)
        have HW : Hid (B'.getD (x / 64) 0 = B'.getD (x / 64) 0) := rfl
        clear hbit
        generalize hWg : B'.getD (x / 64) 0 = W at hcw he ho
        have HWg : Hid (B'.getD (x / 64) 0 = W) := hWg
        clear hWg HW
        generalize hOg : bits .or .u64 (W : Int) (IntKind.u64.wrap ((2 : Int) ^ (x % 64))) = O at ho
        have HO : Hid (O = ((W ||| 2 ^ (x % 64) : Nat) : Int)) := ho
        clear ho
        have hlq : ∀ nd, ((wr.drewN nd).setCell ⟨gb, x / 64, none⟩ (.int .u64 O)).ownsRow base 21 1 vl L.length (L.map fun n : Nat => Value.int .i32 (n : Int)) := by
          intro nd
          refine ownsRow_setCell_other (owns_drewN HL.out.hl nd) (a := ⟨gb, x / 64, none⟩) ?_ _
          intro hv
          obtain ⟨_, c, hc⟩ := owns_block HL.out.hl hv
          obtain ⟨_, c', hc'⟩ := owns_block HL.out.hb (g := gb) rfl
          exact hc.ne hc' (by decide) rfl
        have HQ : Hid _ := hlq
        clear hlq
        obtain ⟨al, cl, rfl⟩ := owns_form HL.out.hl
        go_wp2_with fail
        go_quiet (fail)
        go_wp2_with fail
        go_region
        go_wp2_with (at_builtin; go_must (refine wpList_append_one_at _ rfl (.tmp 52) (.tmp 54) 59 rfl base 21 (.int .i32 0) 4 Yba.underlying59 info21 rfl (HQ.out _) rfl _ _ rfl (by simp) rfl (by unfold maxLen; omega) (by omega) (by simp; omega) ?_))
        intro g cap w2 hown2 hs2 hat2
        have H2 : Hid (AddPost w base Sb x vb (.slice al L.length cl) B L (w2.setCell ⟨Sb, 1, none⟩ (.slice (some ⟨g, 0, none⟩) (L.length + 1) cap))) := (add_put HL.out hx hlt1 hm HWg.out HO.out hown2 hs2 hat2 HS.out.1 HS.out.2).2
        have hA2 := (add_put (B := B) HL.out hx hlt1 hm HWg.out HO.out hown2 hs2 hat2 HS.out.1 HS.out.2).1
        have hc1' := hA2.cell 1
        have hf1' := hA2.free 1
        simp at hc1'
        clear hA2 hown2 hs2 hat2
        go_wp2
        go_end0
        exact ⟨rfl, H2.out⟩

/-- The words behind 'empty', as far as the i-th label. -/
def Wiped (B L B' : List Nat) (i : Nat) : Prop := B'.length = B.length ∧ (∀ j, B'.getD j 0 = B.getD j 0 ∨ B'.getD j 0 = 0) ∧ ∀ t, t < i → B'.getD (L.getD t 0 / 64) 0 = 0

theorem Wiped.step {B L B' : List Nat} {i : Nat} (h : Wiped B L B' i) (hi : L.getD i 0 / 64 < B'.length) : Wiped B L (B'.set (L.getD i 0 / 64) 0) (i + 1) := by
  refine ⟨by simpa using h.1, fun j => ?_, fun t ht => ?_⟩
  · by_cases hj : L.getD i 0 / 64 = j
    · subst hj; right; exact getD_set_self _ _ _ hi
    · rw [getD_set_ne _ _ _ _ hj]; exact h.2.1 j
  · by_cases hj : L.getD i 0 / 64 = L.getD t 0 / 64
    · rw [← hj]; exact getD_set_self _ _ _ hi
    · rw [getD_set_ne _ _ _ _ hj]
      by_cases hti : t = i
      · subst hti; exact absurd rfl hj
      · exact h.2.2 t (by omega)

theorem Wiped.zero {w : World} {base Sb : Nat} {vb vl : Value} {B L B' : List Nat} (h : Wiped B L B' L.length) (hs : LS w base Sb vb vl B L) (j : Nat) : B'.getD j 0 = 0 := by
  rcases h.2.1 j with h1 | h1
  · by_cases h0 : B.getD j 0 = 0
    · rw [h1, h0]
    · obtain ⟨k, hk⟩ : ∃ k, (B.getD j 0).testBit k = true := Nat.exists_testBit_of_ne_zero h0
      have hk64 : k < 64 := by
        rcases Nat.lt_or_ge k 64 with h2 | h2
        · exact h2
        · have hlt : B.getD j 0 < 2 ^ k := Nat.lt_of_lt_of_le (by simpa using hs.small j) (Nat.pow_le_pow_right (by decide) h2)
          rw [Nat.testBit_lt_two_pow hlt] at hk
          cases hk
      have hj : j < B.length := by
        rcases Nat.lt_or_ge j B.length with h2 | h2
        · exact h2
        · exact absurd (by simp [List.getD, List.getElem?_eq_none h2]) h0
      have hbl := hs.blen
      have hmem : 64 * j + k ∈ L := (hs.bit (64 * j + k) (by omega)).1 (by
        rw [show (64 * j + k) / 64 = j by omega, show (64 * j + k) % 64 = k by omega]
        exact hk)
      obtain ⟨t, ht⟩ := List.mem_iff_getElem?.1 hmem
      have htl := (List.getElem?_eq_some_iff.1 ht).1
      have h3 := h.2.2 t htl
      have e : L.getD t 0 = 64 * j + k := by simp [List.getD, ht]
      rw [e, show (64 * j + k) / 64 = j by omega] at h3
      exact h3
  · exact h1
end Go.Proofs.Ybulkbksk
