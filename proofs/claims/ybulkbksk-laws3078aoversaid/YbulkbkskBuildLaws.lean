/-
  'm[k] = append(m[k], v)' over the map of local names: the laws at the operations.
-/
import Derived.Test.YbulkbkskMap
import Derived.ArgAppend
namespace Go.Proofs.Ybulkbksk
open Go.RowKit Go.Maps Go.MapKept Go.WideElems
set_option linter.unusedVariables false

theorem info112 : (Yba.prog.info? 112).map (fun i => (i.zero, i.size, i.bytes)) = some (some (.agg #[.int .i32 0, .int .i32 0, .int .u32 0, .int .i32 0]), 4, 16) := by kernel_rfl

/-- All but rows of subjects from 'base' on is as it was; those are as long as they were. -/
structure Kp (base : Nat) (w w' : World) : Prop where
  os : w'.os = w.os
  tape : w'.tape = w.tape
  output : w'.output = w.output
  size : w.heap.size ≤ w'.heap.size
  block : ∀ k, k < w.heap.size → ((∀ cur, w.heap[k]? ≠ some (.cells cur 112 (0, 0))) ∨ k < base) → w'.heap[k]? = w.heap[k]?
  rows : Rows112 w w'

theorem rows_same {w w' : World} (h : Same [] w w') : Rows112 w w' := fun g cur hg => ⟨cur, by rw [h.block g (lt_of_block hg) (by simp)]; exact hg, rfl⟩
theorem kp_grown {base : Nat} {w w' : World} (h : w.grownBy w' none) : Kp base w w' :=
  ⟨h.os, h.tape, h.output, h.size, fun k hk _ => h.block k hk (by simp), fun g cur hg => ⟨cur, by rw [h.block g (lt_of_block hg) (by simp)]; exact hg, rfl⟩⟩

theorem run_append_112 {w : World} {base N : Nat} {v0 : Value} (h : OkV w base N v0) (hN : N ≤ 4096) (hB : base ≤ w.heap.size) (ad : Addr) (c : Nat) (news : List Value) (hl : news.length = 4)
    (hn : ∀ j u, news[j]? = some u → w.cell? (ad.add j) = some u) (h1 : ∀ u ∈ news, u.oneCell' = true) (ty : TypeId) :
    ∃ v' w', (Builtin.append_ #[110, 110] ty #[v0, .slice (some ad) 1 c]).run Yba.prog w = .ok v' w' ∧ OkV w' base (N + 1) v' ∧ Kp base w w' := by
  obtain ⟨i, hi, h0, hz, h2⟩ := info_parts info112
  obtain ⟨n, xs, hnN, hx, hc⟩ := h
  rcases hc with ⟨rfl, rfl⟩ | ⟨g, cap, cur, rfl, hb, hg, hnc, hcm, hsz, htk⟩
  · have hr := run_append_nil (P := Yba.prog) w 110 ty 112 i _ Yba.underlying110 hi h0 ad 1 c news (by rw [hz]; omega) hn (by decide) (by decide) (by rw [h2]; decide)
    refine ⟨_, _, hr, ⟨1, news, by omega, by omega, .inr ⟨w.heap.size, _, _, rfl, hB, heap_alloc_new w.drew _, grownCap_ge w 1 0 112, grownCap_le_maxLen w 1 0 112 (by unfold maxLen; omega), ?_, ?_⟩⟩, ?_⟩
    · have := grownCap_ge w 1 0 112
      simp only [Array.size_append, List.size_toArray, size_zeroCells, hl]
      show 4 + (grownCap w 1 0 112 - 1) * 4 = _
      omega
    · simp only [Array.toList_append]
      rw [List.take_append_of_le_length (by simp [hl]), List.take_of_length_le (by simp [hl])]
    · exact kp_grown ⟨rfl, rfl, rfl, by simp, fun k hk _ => heap_alloc_old w.drew _ k hk⟩
  · by_cases hroom : n + 1 ≤ cap
    · have hfit : n * i.size + news.length ≤ cur.size := by rw [hz, hl, hsz]; have := Nat.mul_le_mul_right 4 hroom; omega
      have hr := run_append_room (P := Yba.prog) w 110 ty 112 i Yba.underlying110 hi g n cap cur hg ad 1 c news (by rw [hz, hl]) hn h1 hroom hfit
      rw [hz] at hr hfit
      have hlen : (cur.toList.take (n * 4) ++ news ++ cur.toList.drop (n * 4 + news.length)).toArray.size = cur.size := by
        simp only [List.size_toArray, List.length_append, List.length_take, List.length_drop, Array.length_toList]
        omega
      refine ⟨_, _, hr, ⟨n + 1, _, by omega, ?_, .inr ⟨g, cap, _, rfl, hb, setRow_heap w g cur _ 112 _ hg, hroom, hcm, by rw [hlen, hsz], rfl⟩⟩, ⟨rfl, rfl, rfl, by simp [World.setRow], fun k hk hno => setRow_other w g k _ (fun e => ?_), ?_⟩⟩
      · rw [List.length_take, Array.length_toList, hlen, hsz]
        have := Nat.mul_le_mul_right 4 hroom
        omega
      · subst e
        rcases hno with h | h
        · exact h _ hg
        · omega
      · intro g' cur' hg'
        by_cases e : g' = g
        · subst e
          rw [hg] at hg'
          simp only [Option.some.injEq, Obj.cells.injEq] at hg'
          obtain ⟨rfl, _⟩ := hg'
          exact ⟨_, setRow_heap w g' cur _ 112 _ hg, hlen⟩
        · exact ⟨cur', by rw [setRow_other w g g' _ e]; exact hg', rfl⟩
    · obtain ⟨v', w', hr, ho, hgr⟩ := run_append_arg_grows (P := Yba.prog) w 110 ty 112 i _ 4 16 Yba.underlying110 hi h0 hz h2 rfl (by decide) ⟨g, 0, none⟩ n cap xs hx (fun j u hu => by
        rw [Addr.add_lit]
        rw [cell_of_row w g (0 + j) cur 112 (0, 0) hg, Nat.zero_add]
        rw [← htk] at hu
        have hj : j < n * 4 := by
          have := (List.getElem?_eq_some_iff.1 hu).1
          rw [List.length_take] at this
          omega
        rw [List.getElem?_take_of_lt hj] at hu
        simpa using hu) ad 1 c news (by omega) hn (by omega) (by unfold maxLen; omega) (by omega)
      refine ⟨_, _, hr, ⟨n + 1, _, by omega, ho.1, ?_⟩, kp_grown hgr⟩
      rcases ho.2 with h | ⟨g', cap', cur', h1, h2, h3⟩
      · omega
      · exact .inr ⟨g', cap', cur', h1, by omega, h3⟩

theorem DMap.keep {w w' : World} {b base N : Nat} {ks : List (Int × Int)} (h : DMap w b base N ks) (hb : w'.heap[b]? = w.heap[b]?) (hr : Rows112 w w') : DMap w' b base N ks := by
  obtain ⟨es, clock, h1, h2, h3, h4, h5⟩ := h
  exact ⟨es, clock, hb.trans h1, h2, h3, h4, fun e he => (h5 e he).keep hr⟩
theorem DMap.lt {w : World} {b base N : Nat} {ks : List (Int × Int)} (h : DMap w b base N ks) : b < w.heap.size := by
  obtain ⟨es, clock, hb, _⟩ := h
  exact (Array.getElem?_eq_some_iff.1 hb).1
theorem DMap.same {w w' : World} {b base N : Nat} {ks : List (Int × Int)} (h : DMap w b base N ks) (hs : Same [] w w') : DMap w' b base N ks := h.keep (hs.block b h.lt (by simp)) (rows_same hs)
theorem DMap.made (w : World) (base : Nat) : DMap (w.alloc (.map #[] 0)) w.heap.size base 0 [] :=
  ⟨#[], 0, heap_alloc_new w _, stamped_empty 0, rfl, by simp, by simp⟩

theorem below_setBlock {w : World} {B b : Nat} {o : Obj} (h : B ≤ b) : Below B w (ChangeMaps.setBlock w b o) :=
  ⟨rfl, rfl, rfl, by simp [ChangeMaps.setBlock], fun k hk => by simp [ChangeMaps.setBlock]; rw [Array.getElem?_setIfInBounds_ne (by omega)]⟩
theorem Kp.below {w w' : World} {B : Nat} (h : Kp B w w') (hB : B ≤ w.heap.size) : Below B w w' := ⟨h.os, h.tape, h.output, h.size, fun k hk => h.block k (by omega) (.inr hk)⟩

/-- What lies between the entry and the store. -/
def Midst (w : World) (b base N : Nat) (ks : List (Int × Int)) (x : Int × Int) (st : Nat) (v0 : Value) (w1 : World) : Prop :=
  w1.heap.size = w.heap.size ∧ OkV w1 base N v0 ∧ Below b w w1 ∧ (∀ (k : Nat) (cur : Array Value), w.heap[k]? = some (Obj.cells cur 112 (0, 0)) → w1.heap[k]? = some (Obj.cells cur 112 (0, 0))) ∧ (∀ k : Nat, k ≠ b → w1.heap[k]? = w.heap[k]?) ∧
    ∀ w2 val N', base ≤ w1.heap.size → Kp base w1 w2 → N ≤ N' → OkV w2 base N' val → ∃ w3, (Instr.entryStore 25 (.map (some b)) (goInt st) val).run Yba.prog w2 = .ok () w3 ∧ DMap w3 b base N' (addKey ks x) ∧ Below b w2 w3

theorem zero110 (u : World) : (zeroValue 110).run Yba.prog u = .ok (.slice none 0 0) u := by
  have h : (Yba.prog.info? 110).map (·.zero) = some (some (.slice none 0 0)) := by kernel_rfl
  obtain ⟨i, hi, hz⟩ := Option.map_eq_some_iff.1 h
  simp [zeroValue, typeInfo, hi, hz]

theorem DMap.midst {w : World} {b base N : Nat} {ks : List (Int × Int)} (h : DMap w b base N ks) {p a : Int} (hp : wf32 p) (ha : wf32 a) :
    ∃ (v0 : Value) (st : Nat) (w1 : World), (Instr.mapEntry 25 (.map (some b)) (kv p a)).run Yba.prog w = .ok (.tuple #[v0, goInt st]) w1 ∧ Midst w b base N ks (p, a) st v0 w1 := by
  have hlt := h.lt
  have hmap : ∃ es clock, w.heap[b]? = some (.map es clock) := by obtain ⟨es, clock, h1, _⟩ := h; exact ⟨es, clock, h1⟩
  obtain ⟨es, clock, hes⟩ := hmap
  obtain ⟨v0, st, w1, es1, clock1, hrun, rfl, hok, hst⟩ := h.entry hp ha Yba.underlying25 zero110
  have hoth : ∀ k, k ≠ b → (ChangeMaps.setBlock w b (.map es1 clock1)).heap[k]? = w.heap[k]? := fun k hk => by simp [ChangeMaps.setBlock, Array.getElem?_setIfInBounds_ne (Ne.symm hk)]
  have hr := rows_setBlock (es' := es1) (clock' := clock1) hes
  refine ⟨v0, st, _, hrun, by simp [ChangeMaps.setBlock], hok.keep hr, below_setBlock (Nat.le_refl _), fun k cur hk => ?_, hoth, ?_⟩
  · have hne : k ≠ b := fun e => by subst e; rw [hes] at hk; cases hk
    rw [hoth k hne]; exact hk
  · intro w2 val N' hB hkp hN hv
    have hb1 := at_setBlock (o' := .map es1 clock1) hes
    have hb2 : w2.heap[b]? = some (.map es1 clock1) := (hkp.block b (by simpa [ChangeMaps.setBlock] using hlt) (.inl fun cur => by rw [hb1]; simp)).trans hb1
    obtain ⟨es', clock', h1, h2⟩ := hst w2 val N' hb2 (hr.trans hkp.rows) hN hv
    exact ⟨_, h1, h2, below_setBlock (Nat.le_refl _)⟩

section
variable (w : World) {ops : Array Oper} {rest : List Oper} {o : Oper} {a : Act} {Q : Exit → Act → World → Prop}

theorem wpList_entry_k (hg : o.guard = none) (m x : Operand) (hop : o.op = Op.mapEntry 25 m x) (b base N : Nat) (ks : List (Int × Int)) (p q : Int) (hp : wf32 p) (hq : wf32 q) (hm : a.eval m = .map (some b)) (hx : a.eval x = .agg #[.int .i32 p, .int .i32 q]) (h : DMap w b base N ks)
    (hK : ∀ (v0 : Value) (st : Nat) (w1 : World), Midst w b base N ks (p, q) st v0 w1 → wpList Yba.prog ops Q rest (a.put o.dst (.tuple #[v0, goInt st])) w1) :
    wpList Yba.prog ops Q (o :: rest) a w := by
  refine wpList_plain hg fun K hK' => ?_
  obtain ⟨v0, st, w1, hrun, hmid⟩ := h.midst hp hq
  unfold kv at hrun
  unfold Oper.wp
  simp [execOp, hop, hm, hx, hrun, Result.andThen]
  exact hK' _ _ (hK v0 st w1 hmid)

theorem wpList_append_112 (hg : o.guard = none) (s x : Operand) (hop : o.op = Op.call { callee := .builtin .append, args := #[s, x], argTypes := #[110, 110] }) (base N : Nat) (v0 : Value) (hs : a.eval s = v0) (h : OkV w base N v0) (hN : N ≤ 4096) (hB : base ≤ w.heap.size)
    (ad : Addr) (c : Nat) (news : List Value) (hx : a.eval x = .slice (some ad) 1 c) (hl : news.length = 4) (hn : ∀ j u, news[j]? = some u → w.cell? (ad.add j) = some u) (h1 : ∀ u ∈ news, u.oneCell' = true)
    (hK : ∀ v' w', OkV w' base (N + 1) v' → Kp base w w' → wpList Yba.prog ops Q rest (a.put o.dst v') w') :
    wpList Yba.prog ops Q (o :: rest) a w := by
  refine wpList_plain hg fun K hK' => ?_
  obtain ⟨v', w', hrun, h3, h4⟩ := run_append_112 h hN hB ad c news hl hn h1 o.type
  unfold Oper.wp execOp
  simp only [hop, resolve, invoke, builtin, Sem.run_bind, Sem.run_pure, Result.andThen_ok, List.map_toArray, List.map_cons, List.map_nil, hs, hx, hrun]
  exact hK' _ _ (hK v' w' h3 h4)

theorem wpList_entryStore_k (hg : o.guard = none) (m x v : Operand) (hop : o.op = Op.entryStore 25 m x v) {w0 w1 : World} {b base N N' : Nat} {ks : List (Int × Int)} {k : Int × Int} {st : Nat} {v0 val : Value} (hm : a.eval m = .map (some b)) (hx : a.eval x = goInt st) (hv : a.eval v = val)
    (h : Midst w0 b base N ks k st v0 w1) (hB : base ≤ w1.heap.size) (hkp : Kp base w1 w) (hN : N ≤ N') (hok : OkV w base N' val)
    (hK : ∀ w3, DMap w3 b base N' (addKey ks k) → Below b w w3 → wpList Yba.prog ops Q rest (a.put o.dst (.tuple #[])) w3) :
    wpList Yba.prog ops Q (o :: rest) a w := by
  refine wpList_plain hg fun K hK' => ?_
  obtain ⟨w3, hrun, h1, h2⟩ := h.2.2.2.2.2 w val N' hB hkp hN hok
  unfold Oper.wp
  simp [execOp, hop, hm, hx, hv, hrun, Result.andThen]
  exact hK' _ _ (hK w3 h1 h2)
end
end Go.Proofs.Ybulkbksk
