/-
  The round trip's encoding: plain lists, and what the building loop keeps. No walk here.
-/
import Derived.Test.YbulkbksyEqual
import Derived.Laws.IdiomStrings
namespace Go.Proofs.Ybulkbksy
open Go.RowKit
set_option linter.unusedVariables false

/-- A name's bytes; an empty one is 'x'. -/
def nameOf (s : ByteArray) : List Nat := if s.size = 0 then [120] else s.data.toList.map UInt8.toNat

def encN (a : List Nat) : List Nat := a.length / 256 :: a.length % 256 :: a

def enc : List (List Nat) → List Nat
  | [] => []
  | a :: As => encN a ++ enc As

theorem enc_snoc (As : List (List Nat)) (a : List Nat) : enc (As ++ [a]) = enc As ++ encN a := by
  induction As with
  | nil => simp [enc]
  | cons b As ih => simp [enc, ih]

theorem pV16_encN (a rest : List Nat) (h : a.length < 65536) : pV16 (some (encN a ++ rest)) = (some a, some rest) := by
  have e1 : pBytes 2 (some (encN a ++ rest)) = (some [a.length / 256, a.length % 256], some (a ++ rest)) := by
    simp [pBytes, encN]
  unfold pV16 pU16
  rw [e1]
  simp only [Option.getD_some, List.getD_cons_zero, List.getD_cons_succ]
  rw [show a.length / 256 * 256 + a.length % 256 = a.length by omega]
  simp [pBytes]

theorem pN_enc : ∀ As : List (List Nat), (∀ a ∈ As, a ≠ [] ∧ a.length < 65536) → pN (enc As) = some As := by
  intro As
  induction As with
  | nil => intro _; rfl
  | cons a As ih =>
    intro h
    obtain ⟨h1, h2⟩ := h a (by simp)
    cases a with
    | nil => exact absurd rfl h1
    | cons y ys =>
      have hp := pV16_encN (y :: ys) (enc As) h2
      have := pN_cons (xs := encN (y :: ys) ++ enc As) (by simp [encN]) hp
      show pN (encN (y :: ys) ++ enc As) = _
      rw [this, ih (fun a ha => h a (by simp [ha]))]
      rfl

theorem enc_len (As : List (List Nat)) (c : Nat) (h : ∀ a ∈ As, a.length ≤ c) : (enc As).length ≤ As.length * (c + 2) := by
  induction As with
  | nil => simp [enc]
  | cons a As ih =>
    have h1 := h a (by simp)
    have h2 := ih (fun b hb => h b (by simp [hb]))
    simp only [enc, encN, List.length_append, List.length_cons, Nat.add_mul]
    omega

theorem nameOf_len (s : ByteArray) (h : s.size ≤ 1024) : 0 < (nameOf s).length ∧ (nameOf s).length ≤ 1024 := by
  unfold nameOf
  split
  · simp
  · have e : s.data.toList.length = s.size := by rw [Array.length_toList]; rfl
    rw [List.length_map, e]
    omega

theorem nameOf_small (s : ByteArray) : ∀ x ∈ nameOf s, x < 256 := by
  intro x hx
  unfold nameOf at hx
  split at hx
  · simp at hx; omega
  · simp only [List.mem_map] at hx
    obtain ⟨b, _, rfl⟩ := hx
    exact b.toNat_lt

theorem enc_small (As : List (List Nat)) (h : ∀ a ∈ As, (∀ x ∈ a, x < 256) ∧ a.length < 65536) : ∀ x ∈ enc As, x < 256 := by
  induction As with
  | nil => intro x hx; simp [enc] at hx
  | cons a As ih =>
    intro x hx
    have h1 := h a (by simp)
    simp only [enc, encN, List.cons_append, List.mem_cons, List.mem_append] at hx
    rcases hx with rfl | rfl | hx | hx
    · omega
    · omega
    · exact h1.1 x hx
    · exact ih (fun b hb => h b (by simp [hb])) x hx

/-- One name's bytes in a block of its own. -/
structure Lone (w : World) (base g cap : Nat) (a : List Nat) : Prop where
  lo : base ≤ g
  hi : g < w.heap.size
  le : a.length ≤ cap
  cap_le : cap ≤ 9223372036854775807
  small : ∀ x ∈ a, x < 256
  cells : ∀ i, i < a.length → w.cell? ⟨g, i, none⟩ = some (.int .u8 ((a.getD i 0 : Nat) : Int))

theorem Lone.same {w w' : World} {base g cap : Nat} {a : List Nat} {S : List Nat} (h : Lone w base g cap a) (hs : Same S w w') (hn : g ∉ S) : Lone w' base g cap a :=
  ⟨h.lo, Nat.lt_of_lt_of_le h.hi hs.size, h.le, h.cap_le, h.small, fun i hi => hs.cell (h.cells i hi) hn⟩

theorem Lone.seg {w : World} {base g cap B : Nat} {a : List Nat} (h : Lone w base g cap a) (hB : g < B) : Seg w B (some ⟨g, 0, none⟩) a.length cap a :=
  ⟨rfl, h.le, h.cap_le, h.small, fun _ => ⟨g, 0, rfl, hB, h.hi, fun i hi => by simpa using h.cells i hi⟩⟩

/-- What the building loop has made: the names' slices and their encoding. -/
structure RT (w : World) (va vi : Value) (As : List (List Nat)) (wr : World) : Prop where
  same : Same [] w wr
  row : ∃ vs : List Value, wr.ownsRow w.heap.size 22 1 va As.length vs ∧ ∀ (i : Nat) (v : Value) (a : List Nat), vs[i]? = some v → As[i]? = some a → ∃ g cap, v = .slice (some ⟨g, 0, none⟩) a.length cap ∧ Lone wr w.heap.size g cap a ∧ va.ownBlock ≠ some g ∧ vi.ownBlock ≠ some g
  inner : wr.ownsRow w.heap.size 5 1 vi (enc As).length ((enc As).map fun n : Nat => Value.int .u8 (n : Int))
  small : ∀ a ∈ As, 0 < a.length ∧ a.length ≤ 1024 ∧ ∀ x ∈ a, x < 256

theorem RT.start (w : World) : RT w (.slice none 0 0) (.slice none 0 0) [] w :=
  ⟨Same.refl _ _, ⟨[], World.ownsRow_nil _ _ _ _, by simp⟩, World.ownsRow_nil _ _ _ _, by simp⟩

/-- One round: w1: the name's block is there; w2: behind the append to the names; w3: behind the two bytes; w4: behind the name's bytes. -/
theorem RT.step {w wr w1 w2 w3 w4 : World} {va vi : Value} {As : List (List Nat)} {a : List Nat} {g cap g2 c2 g3 g4 c4 n4 : Nat} {vs : List Value} (h : RT w va vi As wr) (hs1 : Same [] wr w1) (hl : Lone w1 w.heap.size g cap a) (hg : wr.heap.size ≤ g) (ha : 0 < a.length ∧ a.length ≤ 1024)
    (hvs : wr.ownsRow w.heap.size 22 1 va As.length vs) (hvr : ∀ (i : Nat) (v : Value) (a : List Nat), vs[i]? = some v → As[i]? = some a → ∃ g cap, v = .slice (some ⟨g, 0, none⟩) a.length cap ∧ Lone wr w.heap.size g cap a ∧ va.ownBlock ≠ some g ∧ vi.ownBlock ≠ some g)
    (ho2 : w2.ownsRow w.heap.size 22 1 (.slice (some ⟨g2, 0, none⟩) (As.length + 1) c2) (As.length + 1) (vs ++ [.slice (some ⟨g, 0, none⟩) a.length cap])) (hs2 : Same va.ownBlock.toList w1 w2) (hat2 : va.ownBlock = some g2 ∨ w1.heap.size ≤ g2)
    (hs3 : Same vi.ownBlock.toList w2 w3) (hat3 : vi.ownBlock = some g3 ∨ w2.heap.size ≤ g3) (hg3 : g3 < w3.heap.size)
    (ho4 : w4.ownsRow w.heap.size 5 1 (.slice (some ⟨g4, 0, none⟩) n4 c4) (enc (As ++ [a])).length ((enc (As ++ [a])).map fun n : Nat => Value.int .u8 (n : Int))) (hs4 : Same [g3] w3 w4) (hat4 : g3 = g4 ∨ w3.heap.size ≤ g4) :
    RT w (.slice (some ⟨g2, 0, none⟩) (As.length + 1) c2) (.slice (some ⟨g4, 0, none⟩) n4 c4) (As ++ [a]) w4 := by
  have hsz := h.same.size
  have hvaB : ∀ b, va.ownBlock = some b → w.heap.size ≤ b ∧ b < wr.heap.size := fun b hb => hvs.lt b hb
  have hviB : ∀ b, vi.ownBlock = some b → w.heap.size ≤ b ∧ b < wr.heap.size := fun b hb => h.inner.lt b hb
  have s1 := hs1.size
  have s2 := hs2.size
  have s3 := hs3.size
  have s4 := hs4.size
  have hg3lo : w.heap.size ≤ g3 := by
    rcases hat3 with e | e
    · exact (hviB _ e).1
    · omega
  have hg4 : g4 < w4.heap.size := (ho4.lt g4 rfl).2
  have hvl : vs.length = As.length := by simpa using hvs.1
  -- a block that is neither row's stays
  have keep : ∀ {g' cap' : Nat} {a' : List Nat}, Lone w1 w.heap.size g' cap' a' → va.ownBlock ≠ some g' → vi.ownBlock ≠ some g' → Lone w4 w.heap.size g' cap' a' ∧ g2 ≠ g' ∧ g4 ≠ g' := by
    intro g' cap' a' hl' h1 h2
    have hi' := hl'.hi
    have hne3 : g3 ≠ g' := by
      rcases hat3 with e | e
      · intro e'; subst e'; exact h2 e
      · omega
    refine ⟨((hl'.same hs2 (by simpa using h1)).same hs3 (by simpa using h2)).same hs4 (by simp; omega), ?_, ?_⟩
    · rcases hat2 with e | e
      · intro e'; subst e'; exact h1 e
      · omega
    · rcases hat4 with e | e
      · omega
      · have := hs3.size; omega
  have hrow4 : w4.ownsRow w.heap.size 22 1 (.slice (some ⟨g2, 0, none⟩) (As.length + 1) c2) (As.length + 1) (vs ++ [.slice (some ⟨g, 0, none⟩) a.length cap]) := by
    obtain ⟨_, cur2, hc2⟩ := owns_block ho2 (g := g2) rfl
    have hi2 : w2.ownsRow w.heap.size 5 1 vi (enc As).length ((enc As).map fun n : Nat => Value.int .u8 (n : Int)) := by
      refine (hs1.owns h.inner (by simp)) |> fun h1 => hs2.owns h1 ?_
      intro b hb hm
      simp at hm
      obtain ⟨_, c, hc⟩ := owns_block h.inner hb
      exact owns_ne hvs hc (by decide) hm
    refine hs4.owns (hs3.owns ho2 ?_) ?_
    · intro b hb hm
      simp [Value.ownBlock] at hb
      subst hb
      simp at hm
      exact owns_ne hi2 hc2 (by decide) hm
    · intro b hb hm
      simp [Value.ownBlock] at hb
      subst hb
      simp at hm
      subst hm
      rcases hat3 with e | e
      · exact owns_ne hi2 hc2 (by decide) e
      · have := hc2.lt; omega
  refine ⟨?_, ⟨vs ++ [.slice (some ⟨g, 0, none⟩) a.length cap], by simpa using hrow4, ?_⟩, ?_, ?_⟩
  · refine (((h.same.comp hs1 (by simp)).comp hs2 ?_).comp hs3 ?_).comp hs4 ?_
    · intro b hb; simp at hb; exact .inr (hvaB b hb).1
    · intro b hb; simp at hb; exact .inr (hviB b hb).1
    · intro b hb; simp at hb; subst hb; exact .inr hg3lo
  · intro i v a' hv ha'
    by_cases hi : i < As.length
    · rw [List.getElem?_append_left (by omega)] at hv
      rw [List.getElem?_append_left hi] at ha'
      obtain ⟨g', cap', e, hl', n1, n2⟩ := hvr i v a' hv ha'
      obtain ⟨k1, k2, k3⟩ := keep (hl'.same hs1 (by simp)) n1 n2
      exact ⟨g', cap', e, k1, by simp [Value.ownBlock]; exact k2, by simp [Value.ownBlock]; exact k3⟩
    · have hi' : i = As.length := by
        have := (List.getElem?_eq_some_iff.1 ha').1
        simp at this
        omega
      subst hi'
      have e1 : (vs ++ [Value.slice (some ⟨g, 0, none⟩) a.length cap])[As.length]? = some (.slice (some ⟨g, 0, none⟩) a.length cap) := by rw [← hvl]; simp
      rw [e1] at hv
      simp at ha'
      subst ha'
      obtain rfl := Option.some.inj hv
      obtain ⟨k1, k2, k3⟩ := keep hl (by intro e; have := (hvaB g e).2; omega) (by intro e; have := (hviB g e).2; omega)
      exact ⟨g, cap, rfl, k1, by simp [Value.ownBlock]; exact k2, by simp [Value.ownBlock]; exact k3⟩
  · have hn4 : n4 = (enc (As ++ [a])).length := by
      rcases ho4.2 with ⟨e, _⟩ | ⟨_, _, _, e, _⟩
      · simp at e
      · simp only [Value.slice.injEq] at e
        exact e.2.1
    exact ho4
  · intro b hb
    simp at hb
    rcases hb with hb | rfl
    · exact h.small b hb
    · exact ⟨ha.1, ha.2, hl.small⟩

/-- The names' slices, as the comparison asks them. -/
theorem RT.auth {w wr : World} {va vi : Value} {As : List (List Nat)} (h : RT w va vi As wr) : Auth wr wr.heap.size w.heap.size va As := by
  obtain ⟨vs, h1, h2⟩ := h.row
  refine ⟨vs, h1, fun i v a hv ha => ?_⟩
  obtain ⟨g, cap, rfl, hl, _, _⟩ := h2 i v a hv ha
  exact ⟨some ⟨g, 0, none⟩, cap, rfl, hl.seg hl.hi⟩

/-- The whole body: the types' length, the types, the names' length, the names. -/
def body (T I : List Nat) : List Nat := T.length :: (T ++ (I.length / 256 :: I.length % 256 :: I))

theorem pV8_body (T I : List Nat) : pV8 (some (body T I)) = (some T, some (I.length / 256 :: I.length % 256 :: I)) := by
  have e1 : pBytes 1 (some (body T I)) = (some [T.length], some (T ++ (I.length / 256 :: I.length % 256 :: I))) := by
    simp [pBytes, body]
  unfold pV8 pU8
  rw [e1]
  simp [pBytes]

theorem pV16_body (I : List Nat) (h : I.length < 65536) : pV16 (some (I.length / 256 :: I.length % 256 :: I)) = (some I, some []) := by
  have := pV16_encN I [] h
  simpa [encN] using this

/-- An owned row of bytes is a slice over bytes. -/
theorem owns_seg {w : World} {base B : Nat} {v : Value} {n : Nat} {l : List Nat} (h : w.ownsRow base 5 1 v n (l.map fun n : Nat => Value.int .u8 (n : Int))) (hs : ∀ x ∈ l, x < 256) (hB : w.heap.size ≤ B) : ∃ ao cap, v = .slice ao n cap ∧ Seg w B ao n cap l := by
  have hl : l.length = n := by simpa using h.1
  rcases h.2 with ⟨rfl, rfl⟩ | ⟨g, cap, cur, rfl, hb, hh, h1, h2, h3, h4⟩
  · have : l = [] := List.eq_nil_of_length_eq_zero hl
    subst this
    exact ⟨_, _, rfl, Seg.nil _ _⟩
  · refine ⟨_, _, rfl, ⟨hl, h1, by simpa [maxLen] using h2, hs, fun _ => ⟨g, 0, rfl, Nat.lt_of_lt_of_le (lt_of_block hh) hB, lt_of_block hh, fun i hi => ?_⟩⟩⟩
    rw [Nat.zero_add, h.cellAt i (by omega)]
    simp [List.getD, show i < l.length by omega]
end Go.Proofs.Ybulkbksy
