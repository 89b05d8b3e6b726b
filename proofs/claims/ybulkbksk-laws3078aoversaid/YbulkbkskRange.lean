/-
  Ranging over the map of local names: the keys met, in the order met.
-/
import Derived.Test.YbulkbkskMap
import Derived.Maps.RangeWalk
namespace Go.Proofs.Ybulkbksk
open Go.RowKit Go.Maps Go.MapKept Go.WideElems
set_option linter.unusedVariables false

/-- The map by its keys alone. -/
def KMap (w : World) (b : Nat) (ks : List (Int × Int)) : Prop :=
  ∃ es clock, w.heap[b]? = some (.map es clock) ∧ Stamped es clock ∧ es.toList.map (·.key) = ks.map (fun x => kv x.1 x.2) ∧ (∀ x ∈ ks, wf32 x.1 ∧ wf32 x.2)

theorem DMap.k {w : World} {b base N : Nat} {ks : List (Int × Int)} (h : DMap w b base N ks) : KMap w b ks := by
  obtain ⟨es, clock, h1, h2, h3, h4, _⟩ := h
  exact ⟨es, clock, h1, h2, h3, h4⟩

theorem KMap.keep {w w' : World} {b : Nat} {ks : List (Int × Int)} (h : KMap w b ks) (hb : w'.heap[b]? = w.heap[b]?) : KMap w' b ks := by
  obtain ⟨es, clock, h1, h2⟩ := h
  exact ⟨es, clock, hb.trans h1, h2⟩
theorem KMap.lt {w : World} {b : Nat} {ks : List (Int × Int)} (h : KMap w b ks) : b < w.heap.size := by
  obtain ⟨es, clock, hb, _⟩ := h
  exact (Array.getElem?_eq_some_iff.1 hb).1
theorem KMap.nodup {w : World} {b : Nat} {ks : List (Int × Int)} (h : KMap w b ks) : ks.Nodup := by
  obtain ⟨es, clock, _, ⟨_, _, s3⟩, hk, _⟩ := h
  have : (ks.map (fun x => kv x.1 x.2)).Nodup := by rw [← hk]; exact s3
  rw [List.nodup_iff_pairwise_ne, List.pairwise_map] at this
  rw [List.nodup_iff_pairwise_ne]
  exact this.imp fun h e => h (by rw [e])
theorem KMap.wf {w : World} {b : Nat} {ks : List (Int × Int)} (h : KMap w b ks) : ∀ x ∈ ks, wf32 x.1 ∧ wf32 x.2 := by
  obtain ⟨es, clock, _, _, _, h⟩ := h
  exact h

/-- Every element reads alike: only the keys count. -/
def R0 : Value → Option (DataW Unit × List MemPlace) := fun _ => some (.lit (.bool true), [])

theorem kl_inj {p a p' a' : Int} (hp : wf32 p) (ha : wf32 a) (hp' : wf32 p') (ha' : wf32 a') (h : kl p a = kl p' a') : p = p' ∧ a = a' :=
  kv_inj (keyed109.inj (keyOf_kv p a hp ha) (by rw [h]; exact keyOf_kv p' a' hp' ha'))

theorem KMap.owns {w : World} {b : Nat} {ks : List (Int × Int)} (h : KMap w b ks) (hn : ks.length ≤ maxLen) :
    ∃ D, w.ownsMap Yba.prog 109 R0 b ks.length D ∧ Maps.size D = ks.length ∧ ∀ l, Maps.has D l = true ↔ ∃ x ∈ ks, l = kl x.1 x.2 := by
  obtain ⟨es, clock, hb, hst, hk, hwf⟩ := h
  have hlen : es.size = ks.length := by
    have := congrArg List.length hk
    simpa using this
  have hrd : ∀ x ∈ es.toList, ∃ y ∈ ks, x.key = kv y.1 y.2 ∧ rd Yba.prog 109 R0 x = some (kl y.1 y.2, .lit (.bool true)) := by
    intro x hx
    have : x.key ∈ ks.map (fun x => kv x.1 x.2) := by rw [← hk]; exact List.mem_map.2 ⟨x, hx, rfl⟩
    obtain ⟨y, hy, e⟩ := List.mem_map.1 this
    refine ⟨y, hy, e.symm, ?_⟩
    unfold rd
    rw [← e, keyOf_kv y.1 y.2 (hwf y hy).1 (hwf y hy).2]
    rfl
  have hF : Fit Yba.prog 109 R0 es clock := ⟨by omega, hst, fun x hx => by obtain ⟨y, _, _, h⟩ := hrd x hx; exact ⟨_, h⟩⟩
  refine ⟨_, ⟨es, clock, hb, hF, by omega, rfl⟩, by simp [Maps.size, length_sorted, hlen], fun l => ?_⟩
  constructor
  · intro hl
    obtain ⟨p, hp, hpk⟩ := List.any_eq_true.1 hl
    obtain ⟨x, hx, rfl⟩ := List.mem_map.1 (mem_sorted.1 hp)
    obtain ⟨y, hy, _, hr⟩ := hrd x hx
    refine ⟨y, hy, ?_⟩
    rw [← WideAt.sameKey_eq hpk, rg_of hr]
  · rintro ⟨y, hy, rfl⟩
    have : kv y.1 y.2 ∈ es.toList.map (·.key) := by rw [hk]; exact List.mem_map.2 ⟨y, hy, rfl⟩
    obtain ⟨x, hx, e⟩ := List.mem_map.1 this
    obtain ⟨y', hy', e', hr⟩ := hrd x hx
    obtain ⟨e1, e2⟩ := kv_inj (e.symm.trans e')
    have hh : rg Yba.prog 109 R0 x = (kl y.1 y.2, .lit (.bool true)) := by rw [rg_of hr, e1, e2]
    refine List.any_eq_true.2 ⟨rg Yba.prog 109 R0 x, mem_sorted.2 (List.mem_map.2 ⟨x, hx, rfl⟩), ?_⟩
    rw [hh]
    exact WideAt.sameKey_self (keyed109.key (keyOf_kv y.1 y.2 (hwf y hy).1 (hwf y hy).2))

/-- The range under way: the keys met so far, in their order. -/
def Rng (w : World) (b r : Nat) (ks done : List (Int × Int)) (cnt : Nat) : Prop :=
  ∃ n D left, w.ranges Yba.prog 109 R0 b r n D left cnt ∧ (∀ l, left l = true ↔ ∃ x ∈ ks, x ∉ done ∧ l = kl x.1 x.2) ∧ (∀ x ∈ ks, wf32 x.1 ∧ wf32 x.2) ∧ done.Nodup ∧ (∀ x ∈ done, x ∈ ks)

theorem Rng.keep {w w' : World} {b r : Nat} {ks done : List (Int × Int)} {cnt : Nat} (h : Rng w b r ks done cnt) (hb : w'.heap[b]? = w.heap[b]?) (hr : w'.heap[r]? = w.heap[r]?) : Rng w' b r ks done cnt := by
  obtain ⟨n, D, left, ⟨es, clock, since, seen, c0, h1, F, hs, hD, h2, rest⟩, h⟩ := h
  exact ⟨n, D, left, ⟨es, clock, since, seen, c0, hb.trans h1, F, hs, hD, hr.trans h2, rest⟩, h⟩
theorem Rng.lt {w : World} {b r : Nat} {ks done : List (Int × Int)} {cnt : Nat} (h : Rng w b r ks done cnt) : b < w.heap.size ∧ r < w.heap.size ∧ r ≠ b := by
  obtain ⟨n, D, left, h, _⟩ := h
  exact ⟨h.owns.lt, h.lt, h.ne⟩
/-- Neither block is one of cells. -/
theorem Rng.at_ne {w : World} {b r g : Nat} {ks done : List (Int × Int)} {cnt : Nat} {cur : Array Value} {e : TypeId} (h : Rng w b r ks done cnt) (ha : At w g cur e) : b ≠ g ∧ r ≠ g := by
  obtain ⟨n, D, left, ⟨es, clock, since, seen, c0, h1, F, hs, hD, h2, rest⟩, h⟩ := h
  unfold At at ha
  exact ⟨fun e => (by rw [e, ha] at h1; cases h1), fun e => (by rw [e, ha] at h2; cases h2)⟩
theorem Rng.setCell {w : World} {b r g o : Nat} {ks done : List (Int × Int)} {cnt : Nat} {cur : Array Value} {e : TypeId} (h : Rng w b r ks done cnt) (ha : At w g cur e) (v : Value) : Rng (w.setCell ⟨g, o, none⟩ v) b r ks done cnt :=
  h.keep (Below.heap_setCell _ _ _ _ (h.at_ne ha).1) (Below.heap_setCell _ _ _ _ (h.at_ne ha).2)
theorem KMap.at_ne {w : World} {b g : Nat} {ks : List (Int × Int)} {cur : Array Value} {e : TypeId} (h : KMap w b ks) (ha : At w g cur e) : b ≠ g := by
  obtain ⟨es, clock, h1, _⟩ := h
  unfold At at ha
  exact fun e => by rw [e, ha] at h1; cases h1
theorem KMap.setCell {w : World} {b g o : Nat} {ks : List (Int × Int)} {cur : Array Value} {e : TypeId} (h : KMap w b ks) (ha : At w g cur e) (v : Value) : KMap (w.setCell ⟨g, o, none⟩ v) b ks :=
  h.keep (Below.heap_setCell _ _ _ _ (h.at_ne ha))
theorem KMap.alloc {w : World} {b : Nat} {ks : List (Int × Int)} (h : KMap w b ks) (o : Obj) : KMap (w.alloc o) b ks := h.keep (Below.heap_alloc _ _ _ h.lt)

section
variable (w : World) {ops : Array Oper} {rest : List Oper} {o : Oper} {a : Act} {Q : Exit → Act → World → Prop}

theorem wpList_range_k (hg : o.guard = none) (m : Operand) (hop : o.op = Op.range 25 m) (b : Nat) (ks : List (Int × Int)) (hm : a.eval m = .map (some b)) (h : KMap w b ks) (hn : ks.length ≤ maxLen)
    (hK : ∀ w', Rng w' b w.heap.size ks [] ks.length → Same [] w w' → w'.heap.size = w.heap.size + 1 → wpList Yba.prog ops Q rest (a.put o.dst (.pointer (some ⟨w.heap.size, 0, none⟩))) w') :
    wpList Yba.prog ops Q (o :: rest) a w := by
  obtain ⟨D, hD, hsz, hhas⟩ := h.owns hn
  refine wpList_range_own w hg m 25 hop 109 110 keyed109 Yba.underlying25 R0 b ks.length D hm hD ?_
  intro w' h1 h2 h3
  rw [hsz] at h1
  refine hK w' ⟨_, _, _, h1, fun l => ?_, h.wf, List.nodup_nil, by simp⟩ ((Same.refl _ w).grown h2 (by simp)) h3
  rw [hhas]
  simp

theorem wpList_next_k (hg : o.guard = none) (it : Operand) (hop : o.op = Op.next it false) (b r cnt : Nat) (ks done : List (Int × Int)) (hit : a.eval it = .pointer (some ⟨r, 0, none⟩)) (h : Rng w b r ks done cnt)
    (hDone : (∀ x ∈ ks, x ∈ done) → wpList Yba.prog ops Q rest (a.put o.dst (.tuple #[.bool false])) w)
    (hMore : ∀ (p x : Int) (v : Value) (w' : World) (cnt' : Nat), (p, x) ∈ ks → (p, x) ∉ done → Rng w' b r ks (done ++ [(p, x)]) cnt' → cnt' < cnt → Same [r] w w' → w'.heap.size = w.heap.size →
      (Instr.entry (.pointer (some ⟨r, 0, none⟩))).run Yba.prog w' = .ok (.tuple #[kv p x, v]) w' → wpList Yba.prog ops Q rest (a.put o.dst (.tuple #[.bool true, kv p x, v])) w') :
    wpList Yba.prog ops Q (o :: rest) a w := by
  obtain ⟨n, D, left, hr, hl, hwf, hnd, hsub⟩ := h
  refine wpList_next_ranges w hg it hop 109 keyed109 R0 (α := Value) (β := Value) id id (fun key kl _ => ⟨key, rfl⟩) (fun v y _ => ⟨v, rfl⟩) b r n D left cnt hit hr ?_ ?_
  · intro h0 hno
    refine hDone fun x hx => ?_
    by_cases hd : x ∈ done
    · exact hd
    · have := (hl _).2 ⟨x, hx, hd, rfl⟩
      rw [hno] at this
      cases this
  · intro x c l y w' cnt' hkey hleft _ _ hr' hc hgr hsz hen
    obtain ⟨⟨p, q⟩, hx, hd, e⟩ := (hl _).1 hleft
    simp only at e
    have hk : x = kv p q := keyed109.inj hkey (by rw [e]; exact keyOf_kv p q (hwf _ hx).1 (hwf _ hx).2)
    subst hk
    refine hMore p q c w' cnt' hx hd ⟨_, _, _, hr', fun l' => ?_, hwf, ?_, ?_⟩ hc ((Same.refl _ w).grown hgr (by simp)) hsz hen
    · rw [Bool.and_eq_true, hl]
      constructor
      · rintro ⟨⟨z, hz, hzd, rfl⟩, hs⟩
        refine ⟨z, hz, ?_, rfl⟩
        intro hm
        rcases List.mem_append.1 hm with h1 | h1
        · exact hzd h1
        · rw [List.mem_singleton] at h1
          rw [h1, e, WideAt.sameKey_self (keyed109.key (keyOf_kv p q (hwf _ hx).1 (hwf _ hx).2))] at hs
          cases hs
      · rintro ⟨z, hz, hzd, rfl⟩
        refine ⟨⟨z, hz, fun h1 => hzd (List.mem_append_left _ h1), rfl⟩, ?_⟩
        cases hs : (kl z.1 z.2).sameKey l
        · rfl
        · have h1 := WideAt.sameKey_eq hs
          rw [e] at h1
          obtain ⟨e1, e2⟩ := kl_inj (hwf z hz).1 (hwf z hz).2 (hwf _ hx).1 (hwf _ hx).2 h1
          exact absurd (List.mem_append_right _ (by rw [List.mem_singleton]; exact Prod.ext e1 e2)) hzd
    · refine List.nodup_append.2 ⟨hnd, by simp, fun a ha c hc e1 => ?_⟩
      rw [List.mem_singleton] at hc
      exact hd (by rw [← hc, ← e1]; exact ha)
    · intro z hz
      rcases List.mem_append.1 hz with h1 | h1
      · exact hsub z h1
      · rw [List.mem_singleton] at h1
        rw [h1]; exact hx

theorem wpList_len_k (hg : o.guard = none) (m : Operand) (hop : o.op = Op.call { callee := Callee.builtin Builtin.len, args := #[m], argTypes := #[25] }) (b : Nat) (ks : List (Int × Int)) (hm : a.eval m = .map (some b)) (h : KMap w b ks) (hn : ks.length ≤ maxLen)
    (hK : wpList Yba.prog ops Q rest (a.put o.dst (.int .i64 ks.length)) w) :
    wpList Yba.prog ops Q (o :: rest) a w := by
  obtain ⟨D, hD, hsz, hhas⟩ := h.owns hn
  refine wpList_len_own w hg m 25 hop 109 110 Yba.underlying25 R0 b ks.length D hm hD ?_
  rw [hsz]
  exact hK
end
end Go.Proofs.Ybulkbksk
