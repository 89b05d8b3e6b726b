/-
  A set of labels as words of bits: the plain mathematics. No walk here.
-/
import Derived.Test.YbulkbkskHeap
import Derived.Laws.BitsAllLaws
import Derived.Laws.Bits64
namespace Go.Proofs.Ybulkbksk
open Go Go.RowKit

theorem pow_lt (k : Nat) (hk : k < 64) : 2 ^ k < 18446744073709551616 := by
  have : 2 ^ k < 2 ^ 64 := Nat.pow_lt_pow_right (by decide) hk
  simpa using this

theorem wrap_pow (k : Nat) (hk : k < 64) : IntKind.u64.wrap ((2 : Int) ^ k) = ((2 ^ k : Nat) : Int) := by
  have h := pow_lt k hk
  rw [IntKind.wrap_u64]
  have e : ((2 : Int) ^ k) = ((2 ^ k : Nat) : Int) := by simp
  rw [e]
  generalize 2 ^ k = m at h
  omega

theorem and_two_pow (W k : Nat) : (W &&& 2 ^ k = 0) ↔ W.testBit k = false := by
  rw [nat_bit]
  have hp : 0 < 2 ^ k := Nat.two_pow_pos k
  constructor
  · intro h
    rcases Nat.mul_eq_zero.1 h with h | h
    · rw [Nat.testBit_eq_decide_div_mod_eq]
      simp [h]
    · omega
  · intro h
    rw [Nat.testBit_eq_decide_div_mod_eq] at h
    have h' : W / 2 ^ k % 2 = 0 := by
      have := of_decide_eq_false h
      omega
    rw [h']
    simp

theorem and_bit (W k : Nat) (hW : W < 18446744073709551616) (hk : k < 64) : bits .and .u64 (W : Int) (IntKind.u64.wrap ((2 : Int) ^ k)) = ((W &&& 2 ^ k : Nat) : Int) := by
  rw [wrap_pow k hk, u64_and_nat W (2 ^ k) hW (pow_lt k hk)]

theorem and_ne (W k : Nat) (hW : W < 18446744073709551616) (hk : k < 64) : (bits .and .u64 (W : Int) (IntKind.u64.wrap ((2 : Int) ^ k)) != 0) = W.testBit k := by
  rw [and_bit W k hW hk]
  cases h : W.testBit k
  · rw [(and_two_pow W k).2 h]
    rfl
  · have : ¬ (W &&& 2 ^ k = 0) := by rw [and_two_pow, h]; simp
    simp only [bne_iff_ne, ne_eq]
    omega

theorem and_eq (W k : Nat) (hW : W < 18446744073709551616) (hk : k < 64) : (bits .and .u64 (W : Int) (IntKind.u64.wrap ((2 : Int) ^ k)) == 0) = !W.testBit k := by
  have h := and_ne W k hW hk
  rw [← h]
  simp [bne]

theorem or_bit (W k : Nat) (hW : W < 18446744073709551616) (hk : k < 64) : bits .or .u64 (W : Int) (IntKind.u64.wrap ((2 : Int) ^ k)) = ((W ||| 2 ^ k : Nat) : Int) := by
  rw [wrap_pow k hk, u64_or_nat W (2 ^ k) hW (pow_lt k hk)]

theorem or_lt (W k : Nat) (hW : W < 18446744073709551616) (hk : k < 64) : W ||| 2 ^ k < 18446744073709551616 := by
  have h := Nat.or_lt_two_pow (n := 64) (x := W) (y := 2 ^ k) (by simpa using hW) (by simpa using pow_lt k hk)
  simpa using h

/-- One more label, unless it is there. -/
def addL (L : List Nat) (x : Nat) : List Nat := if x ∈ L then L else L ++ [x]

/-- The set in memory: the struct's block, its two rows, what the words say. -/
structure LS (w : World) (base Sb : Nat) (vb vl : Value) (B L : List Nat) : Prop where
  hS : At w Sb #[vb, vl] 77
  hb : w.ownsRow base 81 1 vb B.length (B.map fun n : Nat => Value.int .u64 (n : Int))
  hl : w.ownsRow base 21 1 vl L.length (L.map fun n : Nat => Value.int .i32 (n : Int))
  small : ∀ i, B.getD i 0 < 18446744073709551616
  lt : ∀ x ∈ L, x < 2048
  bit : ∀ x, x < 2048 → ((B.getD (x / 64) 0).testBit (x % 64) = true ↔ x ∈ L)
  blen : B.length ≤ 32

section
variable {w w1 w2 : World} {base Sb : Nat} {vb vl : Value} {B L : List Nat}

theorem LS.same {S : List Nat} (h : LS w base Sb vb vl B L) (hs : Same S w w1) (h1 : Sb ∉ S) (h2 : ∀ g, vb.ownBlock = some g → g ∉ S) (h3 : ∀ g, vl.ownBlock = some g → g ∉ S) : LS w1 base Sb vb vl B L :=
  ⟨hs.at_ h.hS h1, hs.owns h.hb h2, hs.owns h.hl h3, h.small, h.lt, h.bit, h.blen⟩

theorem LS.draw (h : LS w base Sb vb vl B L) (n : Nat) : LS (w.drewN n) base Sb vb vl B L := ⟨h.hS, h.hb, h.hl, h.small, h.lt, h.bit, h.blen⟩

theorem getD_snoc (l : List Nat) (i : Nat) : (l ++ [0]).getD i 0 = l.getD i 0 := by
  simp only [List.getD]
  by_cases h : i < l.length
  · rw [List.getElem?_append_left h]
  · rw [List.getElem?_eq_none (l := l) (by omega)]
    by_cases h2 : i = l.length
    · subst h2; simp
    · rw [List.getElem?_eq_none (by simp; omega)]

theorem LS.grow {g cap : Nat} (h : LS w base Sb vb vl B L) (hlen : B.length < 32)
    (hown : w1.ownsRow base 81 1 (.slice (some ⟨g, 0, none⟩) (B.length + 1) cap) (B.length + 1) ((B.map fun n : Nat => Value.int .u64 (n : Int)) ++ [.int .u64 0])) (hs : Same vb.ownBlock.toList w w1) :
    LS (w1.setCell ⟨Sb, 0, none⟩ (.slice (some ⟨g, 0, none⟩) (B.length + 1) cap)) base Sb (.slice (some ⟨g, 0, none⟩) (B.length + 1) cap) vl (B ++ [0]) L := by
  have hS1 : At w1 Sb #[vb, vl] 77 := hs.at_ h.hS (by intro hm; simp at hm; exact owns_ne h.hb h.hS (by decide) hm)
  have hl1 : w1.ownsRow base 21 1 vl L.length (L.map fun n : Nat => Value.int .i32 (n : Int)) := hs.owns h.hl (by
    intro g hg hm
    simp at hm
    obtain ⟨_, c, hc⟩ := owns_block h.hl hg
    exact owns_ne h.hb hc (by decide) hm)
  refine ⟨by simpa using hS1.set 0 (.slice (some ⟨g, 0, none⟩) (B.length + 1) cap), ?_, ?_, ?_, h.lt, ?_, by simp; omega⟩
  · have h2 := ownsRow_setCell_other hown (a := ⟨Sb, 0, none⟩) (owns_ne hown hS1 (by decide)) (.slice (some ⟨g, 0, none⟩) (B.length + 1) cap)
    simpa using h2
  · exact ownsRow_setCell_other hl1 (a := ⟨Sb, 0, none⟩) (owns_ne hl1 hS1 (by decide)) _
  · intro i; rw [getD_snoc]; exact h.small i
  · intro x hx; rw [getD_snoc]; exact h.bit x hx

theorem LS.has {x : Nat} (h : LS w base Sb vb vl B L) (hx : x < 2048) (hm : x ∈ L) : x / 64 < B.length := by
  have h1 := (h.bit x hx).2 hm
  rcases Nat.lt_or_ge (x / 64) B.length with h2 | h2
  · exact h2
  · simp [List.getD, List.getElem?_eq_none h2] at h1

/-- The word's cell. -/
theorem LS.word {i : Nat} (h : LS w base Sb vb vl B L) (hi : i < B.length) :
    ∃ gb cb, vb = .slice (some ⟨gb, 0, none⟩) B.length cb ∧ w.cell? ⟨gb, i, none⟩ = some (.int .u64 ((B.getD i 0 : Nat) : Int)) ∧ w.frozen? ⟨gb, i, none⟩ = false ∧ gb ≠ Sb ∧ B.length ≤ cb := by
  obtain ⟨gb, cb, cur, e1, _, a1, n1, _⟩ := owns_at h.hb (by omega)
  subst e1
  refine ⟨gb, cb, rfl, ?_, a1.free _, a1.ne h.hS (by decide), n1⟩
  rw [h.hb.cellAt i (by omega)]
  simp [hi]

theorem getD_set_self (l : List Nat) (i x : Nat) (h : i < l.length) : (l.set i x).getD i 0 = x := by simp [List.getD, List.getElem?_set_self h]
theorem getD_set_ne (l : List Nat) (i j x : Nat) (h : i ≠ j) : (l.set i x).getD j 0 = l.getD j 0 := by simp [List.getD, List.getElem?_set_ne h]

theorem test_or (W k j : Nat) : (W ||| 2 ^ k).testBit j = (W.testBit j || decide (k = j)) := by
  rw [Nat.testBit_or, Nat.testBit_two_pow]

/-- The word's bit is set and the label appended. -/
theorem LS.put {x gb cb g cap nd : Nat} {wq : World} (h : LS w base Sb (.slice (some ⟨gb, 0, none⟩) B.length cb) vl B L) (hx : x < 2048) (hi : x / 64 < B.length) (hm : x ∉ L)
    (hwq : wq = (w.drewN nd).setCell ⟨gb, x / 64, none⟩ (.int .u64 ((B.getD (x / 64) 0 ||| 2 ^ (x % 64) : Nat) : Int)))
    (hown : w2.ownsRow base 21 1 (.slice (some ⟨g, 0, none⟩) (L.length + 1) cap) (L.length + 1) ((L.map fun n : Nat => Value.int .i32 (n : Int)) ++ [.int .i32 (x : Int)])) (hs : Same vl.ownBlock.toList wq w2) :
    LS (w2.setCell ⟨Sb, 1, none⟩ (.slice (some ⟨g, 0, none⟩) (L.length + 1) cap)) base Sb (.slice (some ⟨gb, 0, none⟩) B.length cb) (.slice (some ⟨g, 0, none⟩) (L.length + 1) cap) (B.set (x / 64) (B.getD (x / 64) 0 ||| 2 ^ (x % 64))) (addL L x) := by
  have hgS : gb ≠ Sb := by
    obtain ⟨_, c, hc⟩ := owns_block h.hb (g := gb) rfl
    exact hc.ne h.hS (by decide)
  have hSq : At wq Sb #[.slice (some ⟨gb, 0, none⟩) B.length cb, vl] 77 := by rw [hwq]; exact (h.hS.drewN nd).other (Ne.symm hgS) _
  have hbq : wq.ownsRow base 81 1 (.slice (some ⟨gb, 0, none⟩) B.length cb) B.length ((B.set (x / 64) (B.getD (x / 64) 0 ||| 2 ^ (x % 64))).map fun n : Nat => Value.int .u64 (n : Int)) := by
    rw [hwq, List.map_set]
    exact ((owns_drewN h.hb nd).stored (x / 64) _).1
  have hlq : wq.ownsRow base 21 1 vl L.length (L.map fun n : Nat => Value.int .i32 (n : Int)) := by
    rw [hwq]
    refine ownsRow_setCell_other (owns_drewN h.hl nd) (a := ⟨gb, x / 64, none⟩) ?_ _
    intro hv
    obtain ⟨_, c, hc⟩ := owns_block h.hl hv
    obtain ⟨_, c', hc'⟩ := owns_block h.hb (g := gb) rfl
    exact hc.ne hc' (by decide) rfl
  have hS2 : At w2 Sb #[.slice (some ⟨gb, 0, none⟩) B.length cb, vl] 77 := hs.at_ hSq (by intro hv; simp at hv; exact owns_ne hlq hSq (by decide) hv)
  have hb2 := hs.owns hbq (by
    intro g' hg' hv
    simp at hv
    obtain ⟨_, c, hc⟩ := owns_block hbq hg'
    exact owns_ne hlq hc (by decide) hv)
  have hadd : addL L x = L ++ [x] := by unfold addL; rw [if_neg hm]
  rw [hadd]
  refine ⟨by simpa using hS2.set 1 (.slice (some ⟨g, 0, none⟩) (L.length + 1) cap), ?_, ?_, ?_, ?_, ?_, by simpa using h.blen⟩
  · have h3 := ownsRow_setCell_other hb2 (a := ⟨Sb, 1, none⟩) (owns_ne hb2 hS2 (by decide)) (.slice (some ⟨g, 0, none⟩) (L.length + 1) cap)
    simpa using h3
  · have h3 := ownsRow_setCell_other hown (a := ⟨Sb, 1, none⟩) (owns_ne hown hS2 (by decide)) (.slice (some ⟨g, 0, none⟩) (L.length + 1) cap)
    simpa using h3
  · intro i
    by_cases hii : x / 64 = i
    · subst hii
      rw [getD_set_self _ _ _ hi]
      exact or_lt _ _ (h.small _) (by omega)
    · rw [getD_set_ne _ _ _ _ hii]
      exact h.small i
  · intro y hy
    simp at hy
    rcases hy with hy | rfl
    · exact h.lt y hy
    · exact hx
  · intro y hy
    have hb := h.bit y hy
    by_cases hii : x / 64 = y / 64
    · rw [← hii, getD_set_self _ _ _ hi, test_or, hii]
      simp only [Bool.or_eq_true, decide_eq_true_eq, List.mem_append, List.mem_singleton]
      rw [hb]
      constructor
      · rintro (h1 | h1)
        · exact .inl h1
        · right; omega
      · rintro (h1 | h1)
        · exact .inl h1
        · right; omega
    · rw [getD_set_ne _ _ _ _ hii, hb]
      simp only [List.mem_append, List.mem_singleton]
      constructor
      · exact .inl
      · rintro (h1 | h1)
        · exact h1
        · subst h1; exact absurd rfl hii
end
end Go.Proofs.Ybulkbksk
