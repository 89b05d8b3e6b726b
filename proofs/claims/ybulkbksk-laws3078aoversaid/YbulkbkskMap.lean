/-
  The map that 'zzs3078abuild' makes, by its entries.
-/
import Derived.Test.YbulkbkskMapKey
import Derived.Test.YbulkbkskHeap
import Derived.WideKeyEntry
namespace Go.Proofs.Ybulkbksk
open Go.RowKit Go.Maps Go.MapKept Go.WideElems
set_option linter.unusedVariables false

/-- An element of the map: nil, or an owned row of subjects. -/
def OkV (w : World) (base N : Nat) (v : Value) : Prop := ∃ n xs, n ≤ N ∧ w.ownsRow base 112 4 v n xs

/-- What every element rests on: a row of subjects stays a row of as many cells. -/
def Rows112 (w w' : World) : Prop := ∀ (g : Nat) (cur : Array Value), w.heap[g]? = some (Obj.cells cur 112 (0, 0)) → ∃ cur' : Array Value, w'.heap[g]? = some (Obj.cells cur' 112 (0, 0)) ∧ cur'.size = cur.size

theorem OkV.keep {w w' : World} {base N : Nat} {v : Value} (h : OkV w base N v) (hr : Rows112 w w') : OkV w' base N v := by
  obtain ⟨n, xs, hn, hl, h2⟩ := h
  rcases h2 with ⟨rfl, rfl⟩ | ⟨g, cap, cur, rfl, hb, hg, h1, h2, h3, h4⟩
  · exact ⟨0, [], by omega, World.ownsRow_nil _ _ _ _⟩
  · obtain ⟨cur', hg', hs⟩ := hr g cur hg
    refine ⟨n, cur'.toList.take (n * 4), hn, ?_, .inr ⟨g, cap, cur', rfl, hb, hg', h1, h2, by omega, rfl⟩⟩
    have : n * 4 ≤ cap * 4 := Nat.mul_le_mul_right 4 h1
    simp
    omega
theorem OkV.mono {w : World} {base N N' : Nat} {v : Value} (h : OkV w base N v) (hn : N ≤ N') : OkV w base N' v := by
  obtain ⟨n, xs, h1, h2⟩ := h
  exact ⟨n, xs, by omega, h2⟩

def wf32 (x : Int) : Prop := (Lit.int .i32 x).wf = true

def DMap (w : World) (b base N : Nat) (ks : List (Int × Int)) : Prop :=
  ∃ es clock, w.heap[b]? = some (.map es clock) ∧ Stamped es clock ∧ es.toList.map (·.key) = ks.map (fun x => kv x.1 x.2) ∧ (∀ x ∈ ks, wf32 x.1 ∧ wf32 x.2) ∧ ∀ e ∈ es.toList, OkV w base N e.val

theorem kv_inj {p a p' a' : Int} (h : kv p a = kv p' a') : p = p' ∧ a = a' := by
  unfold kv at h
  simp at h
  exact h

theorem Rows112.trans {w w' w'' : World} (h : Rows112 w w') (k : Rows112 w' w'') : Rows112 w w'' := fun g cur hg => by
  obtain ⟨c1, h1, e1⟩ := h g cur hg
  obtain ⟨c2, h2, e2⟩ := k g c1 h1
  exact ⟨c2, h2, by omega⟩
theorem rows_setBlock {w : World} {b : Nat} {es es' : Array MapEntry} {clock clock' : Nat} (hb : w.heap[b]? = some (.map es clock)) : Rows112 w (ChangeMaps.setBlock w b (.map es' clock')) := fun g cur hg => by
  have hne : b ≠ g := fun e => by subst e; rw [hb] at hg; cases hg
  exact ⟨cur, by simp [ChangeMaps.setBlock, Array.getElem?_setIfInBounds_ne hne, hg], rfl⟩
theorem at_setBlock {w : World} {b : Nat} {o o' : Obj} (hb : w.heap[b]? = some o) : (ChangeMaps.setBlock w b o').heap[b]? = some o' := by
  have := (Array.getElem?_eq_some_iff.1 hb).1
  simp [ChangeMaps.setBlock, Array.getElem?_setIfInBounds_self_of_lt this]

def addKey (ks : List (Int × Int)) (x : Int × Int) : List (Int × Int) := if x ∈ ks then ks else ks ++ [x]

theorem DMap.entry {w : World} {b base N : Nat} {ks : List (Int × Int)} (h : DMap w b base N ks) {p a : Int} (hp : wf32 p) (ha : wf32 a) {t e : TypeId} (ht : Yba.prog.underlying t = some (.map 109 e)) (hz : ∀ u : World, (zeroValue e).run Yba.prog u = .ok (.slice none 0 0) u) :
    ∃ (v0 : Value) (st : Nat) (w1 : World) (es1 : Array MapEntry) (clock1 : Nat), (Instr.mapEntry t (.map (some b)) (kv p a)).run Yba.prog w = .ok (.tuple #[v0, goInt st]) w1 ∧ w1 = ChangeMaps.setBlock w b (.map es1 clock1) ∧ OkV w base N v0 ∧
      ∀ (w2 : World) (val : Value) (N' : Nat), w2.heap[b]? = some (.map es1 clock1) → Rows112 w w2 → N ≤ N' → OkV w2 base N' val → ∃ es' clock', (Instr.entryStore t (.map (some b)) (goInt st) val).run Yba.prog w2 = .ok () (ChangeMaps.setBlock w2 b (.map es' clock')) ∧ DMap (ChangeMaps.setBlock w2 b (.map es' clock')) b base N' (addKey ks (p, a)) := by
  obtain ⟨es, clock, hb, ⟨s1, s2, s3⟩, hks, hwf, hok⟩ := h
  have hkey := keyOf_kv p a hp ha
  have hkeys : ∀ x ∈ es.toList, ∃ l, keyOf Yba.prog 109 x.key = some l := by
    intro x hx
    have : x.key ∈ ks.map (fun x => kv x.1 x.2) := by rw [← hks]; exact List.mem_map.2 ⟨x, hx, rfl⟩
    obtain ⟨y, hy, e⟩ := List.mem_map.1 this
    exact ⟨_, by rw [← e]; exact keyOf_kv y.1 y.2 (hwf y hy).1 (hwf y hy).2⟩
  rcases keyed109.find w hkey es.toList hkeys with ⟨h1, h2⟩ | ⟨j, e0, h1, h2, h3⟩
  · have hnot : (p, a) ∉ ks := by
      intro hm
      have : kv p a ∈ es.toList.map (·.key) := by rw [hks]; exact List.mem_map.2 ⟨(p, a), hm, rfl⟩
      obtain ⟨x, hx, e⟩ := List.mem_map.1 this
      exact h2 x hx e
    refine ⟨.slice none 0 0, clock, _, es.push ⟨kv p a, .slice none 0 0, clock⟩, clock + 1, ?_, rfl, ⟨0, [], Nat.zero_le _, World.ownsRow_nil _ _ _ _⟩, fun w2 val N' hw2 hr hN hv => ⟨es.push ⟨kv p a, val, clock⟩, clock + 1, ?_, ?_⟩⟩
    · simp [Instr.mapEntry, run_underlying ht, MapKept.run_getObj_map hb, keyed109.check w false hkey, h1, hz, MapKept.run_setObj_map _ hb, Result.andThen, ChangeMaps.setBlock]
    · have hidx : (es.push ⟨kv p a, .slice none 0 0, clock⟩).findIdx? (fun e => ((e.born : Nat) : Int) == ((clock : Nat) : Int)) = some es.size := by
        rw [findIdx_arr]
        have := findIdx_born (l := (es.push ⟨kv p a, .slice none 0 0, clock⟩).toList) (j := es.size) (e0 := ⟨kv p a, .slice none 0 0, clock⟩) (by
          simp only [Array.toList_push, List.map_append, List.map_cons, List.map_nil]
          refine List.nodup_append.2 ⟨s2, by simp, fun a ha c hc e1 => ?_⟩
          simp only [List.mem_singleton] at hc
          obtain ⟨x, hx, rfl⟩ := List.mem_map.1 ha
          have := s1 x hx
          omega) (by simp)
        exact this
      have hmod : (es.push ⟨kv p a, .slice none 0 0, clock⟩).modify es.size (fun e => { e with val := val }) = es.push ⟨kv p a, val, clock⟩ := by
        apply Array.ext'
        rw [Array.toList_modify, Array.toList_push, Array.toList_push, ← Array.length_toList, modify_last]
      simp [Instr.entryStore, MapKept.run_getObj_map hw2, asInt, asIntOf, goInt, hidx, hmod, MapKept.run_setObj_map _ hw2, Result.andThen, ChangeMaps.setBlock]
    · refine ⟨_, _, at_setBlock hw2, ⟨?_, ?_, ?_⟩, ?_, ?_, ?_⟩
      · intro x hx
        simp only [Array.toList_push, List.mem_append, List.mem_singleton] at hx
        rcases hx with hx | rfl
        · have := s1 x hx; omega
        · simp
      · simp only [Array.toList_push, List.map_append, List.map_cons, List.map_nil]
        refine List.nodup_append.2 ⟨s2, by simp, fun a ha c hc e1 => ?_⟩
        simp only [List.mem_singleton] at hc
        obtain ⟨x, hx, rfl⟩ := List.mem_map.1 ha
        have := s1 x hx
        omega
      · simp only [Array.toList_push, List.map_append, List.map_cons, List.map_nil]
        refine List.nodup_append.2 ⟨s3, by simp, fun a ha c hc e1 => ?_⟩
        simp only [List.mem_singleton] at hc
        obtain ⟨x, hx, rfl⟩ := List.mem_map.1 ha
        exact h2 x hx (e1.trans hc)
      · simp only [addKey, if_neg hnot, Array.toList_push, List.map_append, List.map_cons, List.map_nil, hks]
      · intro x hx
        simp only [addKey, if_neg hnot, List.mem_append, List.mem_singleton] at hx
        rcases hx with hx | rfl
        · exact hwf x hx
        · exact ⟨hp, ha⟩
      · intro x hx
        simp only [Array.toList_push, List.mem_append, List.mem_singleton] at hx
        rcases hx with hx | rfl
        · exact (((hok x hx).keep hr).mono hN).keep (rows_setBlock hw2)
        · exact hv.keep (rows_setBlock hw2)
  · have hj : es[j]? = some e0 := by simpa using h2
    have hin : (p, a) ∈ ks := by
      have : e0.key ∈ ks.map (fun x => kv x.1 x.2) := by rw [← hks]; exact List.mem_map.2 ⟨e0, List.mem_of_getElem? h2, rfl⟩
      obtain ⟨y, hy, e⟩ := List.mem_map.1 this
      rw [h3] at e
      obtain ⟨e1, e2⟩ := kv_inj e
      have : y = (p, a) := Prod.ext e1 e2
      rw [← this]
      exact hy
    have hsame : es.modify j (fun e => { e with key := kv p a }) = es := by
      apply Array.ext'
      rw [Array.toList_modify, ChangeMaps.modify_eq_set _ _ _ _ h2]
      have : ({ e0 with key := kv p a } : MapEntry) = e0 := by rw [← h3]
      rw [this]
      exact set_self _ _ _ h2
    have hmk : ∀ val, (es.modify j (fun e => { e with val := val })).toList = es.toList.set j { e0 with val := val } := fun val => by
      rw [Array.toList_modify, ChangeMaps.modify_eq_set _ _ _ _ h2]
    refine ⟨e0.val, e0.born, _, es, clock, ?_, rfl, hok e0 (List.mem_of_getElem? h2), fun w2 val N' hw2 hr hN hv => ⟨es.modify j (fun e => { e with val := val }), clock, ?_, ?_⟩⟩
    · simp [Instr.mapEntry, run_underlying ht, MapKept.run_getObj_map hb, keyed109.check w false hkey, h1, hj, h3, keyed109.stays w hkey, hsame, MapKept.run_setObj_map _ hb, Result.andThen, ChangeMaps.setBlock]
    · have hidx : es.findIdx? (fun e => ((e.born : Nat) : Int) == ((e0.born : Nat) : Int)) = some j := by
        rw [findIdx_arr]
        exact findIdx_born s2 h2
      simp [Instr.entryStore, MapKept.run_getObj_map hw2, asInt, asIntOf, goInt, hidx, MapKept.run_setObj_map _ hw2, Result.andThen, ChangeMaps.setBlock]
    · have hb' : (es.toList.set j { e0 with val := val }).map (·.born) = es.toList.map (·.born) := by
        rw [List.map_set]
        exact set_self _ _ _ (by rw [List.getElem?_map, h2]; rfl)
      have hk' : (es.toList.set j { e0 with val := val }).map (·.key) = es.toList.map (·.key) := by
        rw [List.map_set]
        exact set_self _ _ _ (by rw [List.getElem?_map, h2]; rfl)
      have hmem : ∀ x ∈ es.toList.set j { e0 with val := val }, x = { e0 with val := val } ∨ x ∈ es.toList := fun x hx => by
        rcases List.mem_or_eq_of_mem_set hx with h | h
        · exact .inr h
        · exact .inl h
      refine ⟨_, _, at_setBlock hw2, ⟨?_, ?_, ?_⟩, ?_, ?_, ?_⟩
      · rw [hmk]
        intro x hx
        rcases hmem x hx with rfl | hx
        · exact s1 e0 (List.mem_of_getElem? h2)
        · exact s1 x hx
      · rw [hmk, hb']; exact s2
      · rw [hmk, hk']; exact s3
      · rw [hmk, hk', addKey, if_pos hin]; exact hks
      · rw [addKey, if_pos hin]; exact hwf
      · rw [hmk]
        intro x hx
        rcases hmem x hx with rfl | hx
        · exact hv.keep (rows_setBlock hw2)
        · exact (((hok x hx).keep hr).mono hN).keep (rows_setBlock hw2)
end Go.Proofs.Ybulkbksk
