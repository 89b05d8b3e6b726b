/-
  The plain law: the atoms of one principal among the keys, however the keys were met, are the distinct atoms that 'expect' gathers.
-/
import Derived.Test.YbulkbkskBuild
namespace Go.Proofs.Ybulkbksk
open Go.RowKit
set_option linter.unusedVariables false

def isP (p : Nat) (x : Int × Int) : Bool := x.1 == (p : Int)
/-- The atoms of p among the keys met. -/
def ats (p : Nat) (l : List (Int × Int)) : List Int := (l.filter (isP p)).map (·.2)
def cn (p : Nat) (l : List (Int × Int)) : Nat := (l.filter (isP p)).length
/-- How many keys lie below j. -/
def lo (l : List (Int × Int)) (j : Nat) : Nat := (l.filter (fun x => decide (x.1 < (j : Int)))).length

theorem ats_length (p : Nat) (l : List (Int × Int)) : (ats p l).length = cn p l := by simp [ats, cn]
theorem cn_append (p q : Nat) (a : Int) (l : List (Int × Int)) : cn p (l ++ [((q : Int), a)]) = cn p l + if q = p then 1 else 0 := by
  unfold cn isP
  rw [List.filter_append, List.length_append]
  by_cases h : q = p
  · simp [h]
  · have : ¬ ((q : Int) = (p : Int)) := by omega
    simp [h, this]
theorem ats_append (p q : Nat) (a : Int) (l : List (Int × Int)) : ats p (l ++ [((q : Int), a)]) = ats p l ++ if q = p then [a] else [] := by
  unfold ats isP
  rw [List.filter_append, List.map_append]
  by_cases h : q = p
  · simp [h]
  · have : ¬ ((q : Int) = (p : Int)) := by omega
    simp [h, this]
theorem lo_succ (l : List (Int × Int)) (j : Nat) : lo l (j + 1) = lo l j + cn j l := by
  unfold lo cn isP
  induction l with
  | nil => rfl
  | cons x l ih =>
    simp only [List.filter_cons]
    by_cases h1 : x.1 < (j : Int)
    · have h2 : x.1 < ((j + 1 : Nat) : Int) := by omega
      have h3 : ¬ x.1 = (j : Int) := by omega
      simp [h1, h3] at ih ⊢
      rw [if_pos (by omega)]
      simp only [List.length_cons]
      omega
    · by_cases h3 : x.1 = (j : Int)
      · have h2 : x.1 < ((j + 1 : Nat) : Int) := by omega
        simp [h3] at ih ⊢
        rw [if_pos (by omega)]
        simp only [List.length_cons]
        omega
      · have h2 : ¬ x.1 < ((j + 1 : Nat) : Int) := by omega
        simp [h1, h3] at ih h2 ⊢
        rw [if_neg (by omega)]
        omega
theorem lo_le (l : List (Int × Int)) (j : Nat) : lo l j ≤ l.length := List.length_filter_le _ _
theorem lo_zero {l : List (Int × Int)} (h : ∀ x ∈ l, 0 ≤ x.1) : lo l 0 = 0 := by
  unfold lo
  rw [List.length_eq_zero_iff, List.filter_eq_nil_iff]
  intro x hx
  have := h x hx
  simp
  omega
theorem lo_mono (l : List (Int × Int)) {i j : Nat} (h : i ≤ j) : lo l i ≤ lo l j := by
  induction h with
  | refl => exact Nat.le_refl _
  | step h ih => rw [lo_succ]; omega

theorem len_le_of_sub {α : Type} [BEq α] [LawfulBEq α] : ∀ {l m : List α}, l.Nodup → (∀ x ∈ l, x ∈ m) → l.length ≤ m.length
  | [], _, _, _ => by simp
  | a :: l, m, h, hs => by
    have ha := hs a (by simp)
    have h' := List.nodup_cons.1 h
    have := len_le_of_sub (m := m.erase a) h'.2 fun x hx => by
      have hne : x ≠ a := fun e => h'.1 (by rw [← e]; exact hx)
      exact (List.mem_erase_of_ne hne).2 (hs x (by simp [hx]))
    rw [List.length_erase_of_mem ha] at this
    have := List.length_pos_of_mem ha
    simp only [List.length_cons]
    omega
theorem perm_of_mem {α : Type} [BEq α] [LawfulBEq α] : ∀ {l m : List α}, l.Nodup → m.Nodup → (∀ x, x ∈ l ↔ x ∈ m) → l.Perm m
  | [], m, _, _, h => by
    have : m = [] := List.eq_nil_iff_forall_not_mem.2 fun x hx => by have := (h x).2 hx; simp at this
    rw [this]
  | a :: l, m, h1, h2, h => by
    have ha := (h a).1 (by simp)
    have h' := List.nodup_cons.1 h1
    have hp := List.perm_cons_erase ha
    refine (List.Perm.cons a (perm_of_mem (m := m.erase a) h'.2 (h2.erase a) fun x => ?_)).trans hp.symm
    constructor
    · intro hx
      have hne : x ≠ a := fun e => h'.1 (by rw [← e]; exact hx)
      exact (List.mem_erase_of_ne hne).2 ((h x).1 (by simp [hx]))
    · intro hx
      have hm := (h2.mem_erase_iff).1 hx
      have := (h x).2 hm.2
      simp [hm.1] at this
      exact this

theorem cn_lt {p : Nat} {a : Int} {done ks : List (Int × Int)} (hn : done.Nodup) (hs : ∀ x ∈ done, x ∈ ks) (hx : ((p : Int), a) ∈ ks) (hd : ((p : Int), a) ∉ done) : cn p done < cn p ks := by
  have h := len_le_of_sub (l := (((p : Int), a) :: done).filter (isP p)) (m := ks.filter (isP p)) ((List.nodup_cons.2 ⟨hd, hn⟩).filter _) fun x hx' => by
    rw [List.mem_filter] at hx' ⊢
    refine ⟨?_, hx'.2⟩
    rcases List.mem_cons.1 hx'.1 with h | h
    · rw [h]; exact hx
    · exact hs x h
  have hp : isP p ((p : Int), a) = true := by simp [isP]
  rw [List.filter_cons_of_pos hp] at h
  exact h
theorem cn_le {p : Nat} {done ks : List (Int × Int)} (hn : done.Nodup) (hs : ∀ x ∈ done, x ∈ ks) : cn p done ≤ cn p ks :=
  len_le_of_sub (hn.filter _) fun x hx' => by
    rw [List.mem_filter] at hx' ⊢
    exact ⟨hs x hx'.1, hx'.2⟩
theorem cn_full {done ks : List (Int × Int)} (hp : done.Perm ks) (p : Nat) : cn p done = cn p ks := (hp.filter _).length_eq
theorem full_perm {done ks : List (Int × Int)} (hn : done.Nodup) (hk : ks.Nodup) (hs : ∀ x ∈ done, x ∈ ks) (hf : ∀ x ∈ ks, x ∈ done) : done.Perm ks := perm_of_mem hn hk fun x => ⟨hs x, hf x⟩

/-! ### against 'expect' -/
theorem mem_addKey {ks : List (Int × Int)} {x y : Int × Int} : y ∈ addKey ks x ↔ y ∈ ks ∨ y = x := by
  unfold addKey
  split
  · constructor
    · exact .inl
    · rintro (h | rfl)
      · exact h
      · assumption
  · simp
theorem nodup_addKey {ks : List (Int × Int)} {x : Int × Int} (h : ks.Nodup) : (addKey ks x).Nodup := by
  unfold addKey
  split
  · exact h
  · rename_i hx
    refine List.nodup_append.2 ⟨h, by simp, fun a ha c hc e => ?_⟩
    rw [List.mem_singleton] at hc
    exact hx (by rw [← hc, ← e]; exact ha)

theorem keysL_facts (m : Nat) (ds : List (Nat × Int)) : (keysL m ds).Nodup ∧ (∀ p a, (p, a) ∈ keysL m ds ↔ ∃ d ∈ ds, ((d.1 % m : Nat) : Int) = p ∧ d.2 = a) ∧ (keysL m ds).length ≤ ds.length := by
  suffices h : ∀ (ds : List (Nat × Int)) (ks : List (Int × Int)), ks.Nodup → (ds.foldl (fun ks d => addKey ks (((d.1 % m : Nat) : Int), d.2)) ks).Nodup ∧ (∀ p a, (p, a) ∈ ds.foldl (fun ks d => addKey ks (((d.1 % m : Nat) : Int), d.2)) ks ↔ (p, a) ∈ ks ∨ ∃ d ∈ ds, ((d.1 % m : Nat) : Int) = p ∧ d.2 = a) ∧ (ds.foldl (fun ks d => addKey ks (((d.1 % m : Nat) : Int), d.2)) ks).length ≤ ks.length + ds.length by
    have := h ds [] List.nodup_nil
    simpa [keysL] using this
  intro ds
  induction ds with
  | nil => intro ks h; simp [h]
  | cons d ds ih =>
    intro ks h
    obtain ⟨h1, h2, h3⟩ := ih _ (nodup_addKey (x := (((d.1 % m : Nat) : Int), d.2)) h)
    simp only [List.foldl_cons]
    refine ⟨h1, fun p a => ?_, ?_⟩
    · rw [h2, mem_addKey]
      constructor
      · rintro ((h | h) | ⟨e, he, h⟩)
        · exact .inl h
        · simp only [Prod.mk.injEq] at h
          exact .inr ⟨d, by simp, h.1.symm, h.2.symm⟩
        · exact .inr ⟨e, by simp [he], h⟩
      · rintro (h | ⟨e, he, h⟩)
        · exact .inl (.inl h)
        · rcases List.mem_cons.1 he with rfl | he
          · exact .inl (.inr (Prod.ext h.1.symm h.2.symm))
          · exact .inr ⟨e, he, h⟩
    · refine Nat.le_trans h3 ?_
      have : (addKey ks (((d.1 % m : Nat) : Int), d.2)).length ≤ ks.length + 1 := by unfold addKey; split <;> simp
      simp only [List.length_cons]
      omega

theorem expL_facts (m : Nat) (q : Int) (ds : List (Nat × Int)) : (expL m q ds).Nodup ∧ (∀ a, a ∈ expL m q ds ↔ ∃ d ∈ ds, ((d.1 % m : Nat) : Int) = q ∧ d.2 = a) := by
  suffices h : ∀ (ds : List (Nat × Int)) (out : List Int), out.Nodup → (ds.foldl (expStep m q) out).Nodup ∧ (∀ a, a ∈ ds.foldl (expStep m q) out ↔ a ∈ out ∨ ∃ d ∈ ds, ((d.1 % m : Nat) : Int) = q ∧ d.2 = a) by
    have := h ds [] List.nodup_nil
    simpa [expL] using this
  intro ds
  induction ds with
  | nil => intro out h; simp [h]
  | cons d ds ih =>
    intro out h
    have hst : (expStep m q out d).Nodup ∧ ∀ a, a ∈ expStep m q out d ↔ a ∈ out ∨ (((d.1 % m : Nat) : Int) = q ∧ d.2 = a) := by
      unfold expStep
      split
      · rename_i hq
        split
        · rename_i hin
          refine ⟨h, fun a => ⟨.inl, ?_⟩⟩
          rintro (h' | ⟨_, rfl⟩)
          · exact h'
          · exact hin
        · rename_i hin
          refine ⟨List.nodup_append.2 ⟨h, by simp, fun a ha c hc e => ?_⟩, fun a => ?_⟩
          · rw [List.mem_singleton] at hc
            exact hin (by rw [← hc, ← e]; exact ha)
          · rw [List.mem_append, List.mem_singleton]
            constructor
            · rintro (h' | h')
              · exact .inl h'
              · exact .inr ⟨hq, h'.symm⟩
            · rintro (h' | h')
              · exact .inl h'
              · exact .inr h'.2.symm
      · rename_i hq
        refine ⟨h, fun a => ⟨.inl, ?_⟩⟩
        rintro (h' | ⟨h', _⟩)
        · exact h'
        · exact absurd h' hq
    obtain ⟨h1, h2⟩ := ih _ hst.1
    simp only [List.foldl_cons]
    refine ⟨h1, fun a => ?_⟩
    rw [h2, hst.2]
    constructor
    · rintro ((h | h) | ⟨e, he, h⟩)
      · exact .inl h
      · exact .inr ⟨d, by simp, h⟩
      · exact .inr ⟨e, by simp [he], h⟩
    · rintro (h | ⟨e, he, h⟩)
      · exact .inl (.inl h)
      · rcases List.mem_cons.1 he with rfl | he
        · exact .inl (.inr h)
        · exact .inr ⟨e, he, h⟩

theorem mem_ats {p : Nat} {a : Int} {l : List (Int × Int)} : a ∈ ats p l ↔ ((p : Int), a) ∈ l := by
  unfold ats isP
  rw [List.mem_map]
  constructor
  · rintro ⟨⟨x, y⟩, h, rfl⟩
    rw [List.mem_filter] at h
    have : x = (p : Int) := by simpa using h.2
    rw [← this]
    exact h.1
  · intro h
    exact ⟨_, List.mem_filter.2 ⟨h, by simp⟩, rfl⟩
theorem nodup_ats {p : Nat} {l : List (Int × Int)} (h : l.Nodup) : (ats p l).Nodup := by
  unfold ats
  rw [List.nodup_iff_pairwise_ne, List.pairwise_map]
  have h2 := (List.nodup_iff_pairwise_ne.1 (h.filter (isP p)))
  refine (List.Pairwise.and_mem.1 h2).imp ?_
  rintro ⟨a1, a2⟩ ⟨b1, b2⟩ ⟨ha, hb, hne⟩ e
  rw [List.mem_filter] at ha hb
  have e1 : a1 = (p : Int) := by simpa [isP] using ha.2
  have e2 : b1 = (p : Int) := by simpa [isP] using hb.2
  exact hne (Prod.ext (e1.trans e2.symm) e)

/-- The keys met, whole: q's atoms are what 'expect' gathers, in some order. -/
theorem ats_expL {m q : Nat} {ds : List (Nat × Int)} {done : List (Int × Int)} (hp : done.Perm (keysL m ds)) : (ats q done).Perm (expL m (q : Int) ds) := by
  obtain ⟨k1, k2, _⟩ := keysL_facts m ds
  obtain ⟨e1, e2⟩ := expL_facts m (q : Int) ds
  refine perm_of_mem (nodup_ats ((hp.nodup_iff).2 k1)) e1 fun a => ?_
  rw [mem_ats, e2, hp.mem_iff, k2]

theorem sort_perm {xs ys : List Int} (h : xs.Perm ys) : xs.mergeSort le32 = ys.mergeSort le32 := by
  have hp : (xs.mergeSort le32).Perm (ys.mergeSort le32) := (List.mergeSort_perm xs le32).trans (h.trans (List.mergeSort_perm ys le32).symm)
  have t : ∀ a b c : Int, le32 a b = true → le32 b c = true → le32 a c = true := by
    intro a b c h1 h2
    simp [le32] at *
    omega
  have o : ∀ a b : Int, (le32 a b || le32 b a) = true := by
    intro a b
    simp [le32]
    omega
  refine hp.eq_of_pairwise (le := fun a b => le32 a b = true) ?_ (List.pairwise_mergeSort t o xs) (List.pairwise_mergeSort t o ys)
  intro a b _ _ h1 h2
  simp [le32] at *
  omega
/-- Where q is no principal of the set, nothing is expected. -/
theorem expL_none {m : Nat} {q : Nat} {ds : List (Nat × Int)} (hm : 0 < m) (hq : m ≤ q) : expL m (q : Int) ds = [] := by
  obtain ⟨_, e2⟩ := expL_facts m (q : Int) ds
  refine List.eq_nil_iff_forall_not_mem.2 fun a ha => ?_
  obtain ⟨d, _, h1, _⟩ := (e2 a).1 ha
  have := Nat.mod_lt d.1 hm
  omega
end Go.Proofs.Ybulkbksk
