/-
  The map of a set that stands over another: the atoms by principals.
-/
import Derived.Test.YbulkbkskPlain
import Derived.Maps.OwnRows
import Derived.Maps.GroupsBeside
namespace Go.Proofs.Ybulkbksk
open Go.RowKit Go.Maps Go.MapKept Go.WideElems Go.ChangeShapes
set_option linter.unusedVariables false

def gd (zs : List Int) : DataW Unit := if zs = [] then .nil else .slice (lits .i32 zs) []

theorem lits_inj {xs ys : List Int} (h : (lits .i32 xs : List (DataW Unit)) = lits .i32 ys) : xs = ys := by
  unfold lits at h
  exact (List.map_inj_right (fun a b hab => by simpa using hab)).1 h

theorem gd_inj {w : World} {base : Nat} {v : Value} {xs zs : List Int} (ho : w.ownsInts base 21 .i32 v zs) (h : gd xs = rowDatum .i32 v zs) : xs = zs := by
  unfold gd at h
  rcases ho.datum (H := Unit) with ⟨h1, h2⟩ | h1
  · rw [h1] at h
    split at h
    · rename_i hx; rw [hx, h2]
    · cases h
  · rw [h1] at h
    split at h
    · cases h
    · simp only [DataW.slice.injEq, and_true] at h
      exact lits_inj h

theorem keyed21 : Keyed Yba.prog 21 := int_keyed Yba.underlying21
theorem keyOf21 {p : Nat} (h : p ≤ 1000) : keyOf Yba.prog 21 (.int .i32 (p : Int)) = some (.int .i32 (p : Int)) := keyOf_int_mk Yba.underlying21 (wf32_small h)

theorem zero59 (u : World) : (zeroValue 59).run Yba.prog u = .ok (.slice none 0 0) u := by
  have h : (Yba.prog.info? 59).map (·.zero) = some (some (.slice none 0 0)) := by kernel_rfl
  obtain ⟨i, hi, hz⟩ := Option.map_eq_some_iff.1 h
  simp [zeroValue, typeInfo, hi, hz]

/-- Block M is the map of the atoms met so far, by principals. -/
def Gr (w : World) (M base n : Nat) (done : List (Int × Int)) : Prop :=
  ∃ D : DataW Unit, w.ownsGroups Yba.prog 21 base 21 .i32 M n D ∧ IsMap D ∧ ∀ p : Nat, p ≤ 1000 → D.atKey (.int .i32 (p : Int)) .nil = gd (ats p done)

theorem Gr.empty {w : World} {M base : Nat} (h : w.heap[M]? = some (.map #[] 0)) (hb : M < base) : Gr w M base 0 [] :=
  ⟨.map [], ⟨#[], 0, h, ⟨by simp, stamped_empty 0, by simp⟩, Nat.le_refl _, rfl, hb, by simp, by simp⟩, isMap_empty, fun p _ => rfl⟩

theorem Gr.kept {w w' : World} {M base n : Nat} {done : List (Int × Int)} {row : Option Nat} (h : Gr w M base n done) (hg : w.grownBy w' row) (hM : some M ≠ row) (hr : ∀ j, row = some j → j < base) : Gr w' M base n done := by
  obtain ⟨D, h1, h2, h3⟩ := h
  exact ⟨D, h1.kept hg hM (h1.rowsAbove hr), h2, h3⟩
theorem Gr.alloc {w : World} {M base n : Nat} {done : List (Int × Int)} (h : Gr w M base n done) (o : Obj) : Gr (w.alloc o) M base n done := h.kept (World.grownBy_alloc w o none) (by simp) (by simp)
theorem Gr.isMap {w : World} {M base n : Nat} {done : List (Int × Int)} (h : Gr w M base n done) (cs : Array Value) (e : TypeId) : w.heap[M]? ≠ some (Obj.cells cs e (0, 0)) := by
  obtain ⟨D, ⟨es, clock, hb, _⟩, _⟩ := h
  rw [hb]
  simp
theorem Gr.lt {w : World} {M base n : Nat} {done : List (Int × Int)} (h : Gr w M base n done) : M < w.heap.size ∧ M < base := by
  obtain ⟨D, ⟨es, clock, hb, _, _, _, h1, _⟩, _⟩ := h
  exact ⟨(Array.getElem?_eq_some_iff.1 hb).1, h1⟩

/-- What a round leaves alone. -/
structure FrG (base M : Nat) (w w' : World) : Prop where
  os : w'.os = w.os
  tape : w'.tape = w.tape
  output : w'.output = w.output
  size : w.heap.size ≤ w'.heap.size
  block : ∀ k, k < base → k ≠ M → w'.heap[k]? = w.heap[k]?

/-- One look-up. -/
theorem Gr.look {w : World} {M base n : Nat} {done : List (Int × Int)} (h : Gr w M base n done) {p : Nat} (hp : p ≤ 1000) (hn : n ≤ 4096) :
    ∃ v, (Instr.lookup 60 (.map (some M)) (.int .i32 (p : Int)) false).run Yba.prog w = .ok v w ∧ w.ownsInts base 21 .i32 v (ats p done) ∧ (ats p done).length ≤ n ∧ ∃ D : DataW Unit, w.groupBack Yba.prog 60 21 base 21 .i32 M n D (.int .i32 (p : Int)) (.int .i32 (p : Int)) v ∧ IsMap D ∧ ∀ p : Nat, p ≤ 1000 → D.atKey (.int .i32 (p : Int)) .nil = gd (ats p done) := by
  obtain ⟨D, h1, h2, h3⟩ := h
  obtain ⟨v, zs, hrun, hat, hoi, hzl, hback⟩ := h1.at keyed21 Yba.underlying60 (zero59 w) (by unfold maxLen; omega) (keyOf21 hp)
  have hz : ats p done = zs := gd_inj hoi (by rw [← h3 p hp]; exact hat)
  exact ⟨v, hrun, by rw [hz]; exact hoi, by rw [hz]; exact hzl, D, hback, h2, h3⟩

/-- Behind a look-up at w: the one-element row lies at H, the append and the store run; w1 is the world in which the append runs. -/
theorem Gr.back {w w1 : World} {M base n H : Nat} {done : List (Int × Int)} {p : Nat} {a : Int} {v : Value} {D : DataW Unit} (hp : p ≤ 1000) (ha : wf32 a) (hn : n ≤ 4096) (hMb : M < base) (hb : base ≤ w.heap.size) (hMc : ∀ cs e, w.heap[M]? ≠ some (Obj.cells cs e (0, 0)))
    (hoi : w.ownsInts base 21 .i32 v (ats p done)) (hlen : (ats p done).length ≤ n) (hback : w.groupBack Yba.prog 60 21 base 21 .i32 M n D (.int .i32 (p : Int)) (.int .i32 (p : Int)) v) (hD : IsMap D) (hD3 : ∀ p : Nat, p ≤ 1000 → D.atKey (.int .i32 (p : Int)) .nil = gd (ats p done))
    (hg : w.grownBy w1 none) (hH : w1.heap[H]? = some (.cells #[.int .i32 a] 21 (0, 0))) (ty : TypeId) :
    ∃ v' w4 w5, (Builtin.append_ #[59, 59] ty #[v, .slice (some ⟨H, 0, none⟩) 1 1]).run Yba.prog w1 = .ok v' w4 ∧ (Instr.mapUpdate 60 (.map (some M)) (.int .i32 (p : Int)) v').run Yba.prog w4 = .ok () w5 ∧ Gr w5 M base (n + 1) (done ++ [((p : Int), a)]) ∧ FrG base M w w5 ∧ (∀ (g : Nat) (cs : Array Value) (e : TypeId), w.heap[g]? = some (Obj.cells cs e (0, 0)) → e ≠ 21 → w4.heap[g]? = w.heap[g]? ∧ w5.heap[g]? = w.heap[g]?) := by
  obtain ⟨i, hi, h0, hz1, h2⟩ := info_parts info21'
  have hoi1 : w1.ownsInts base 21 .i32 v (ats p done) := hoi.kept hg (by cases v.ownBlock <;> simp)
  obtain ⟨g, cap, w4, hrun, hown, hgr, hat, _⟩ := run_append_lies (P := Yba.prog) w1 59 ty base 21 i _ 1 4 Yba.underlying59 hi h0 hz1 h2 rfl (by decide) v (ats p done).length ((ats p done).map (Value.int .i32)) hoi1.1 ⟨H, 0, none⟩ 1 1 [.int .i32 a] rfl (World.news_of_block hH) (by intro u hu; simp at hu; subst hu; rfl) (by decide) (by unfold maxLen; omega) (by omega) (Nat.le_trans hb hg.size) _ rfl
  have hoi4 := hoi1.appended hown ha
  have hw4 : w.grownBy w4 v.ownBlock := ⟨hgr.os.trans hg.os, hgr.tape.trans hg.tape, hgr.output.trans hg.output, Nat.le_trans hg.size hgr.size, fun k hk hne => (hgr.block k (Nat.lt_of_lt_of_le hk hg.size) hne).trans (hg.block k hk (by simp))⟩
  obtain ⟨w5, hrun5, hgs5, hgr5⟩ := hback w4 _ (ats p done ++ [a]) hw4 hoi4 (by simp; omega) (by
    rcases hat with h | h
    · exact .inl h.symm
    · exact .inr ⟨g, rfl, by rw [h]; exact hg.size⟩)
  refine ⟨_, w4, w5, hrun, hrun5, ⟨_, hgs5, hD.put _ _, fun p' hp' => ?_⟩, ?_, ?_⟩
  · rw [ats_append]
    by_cases e : p = p'
    · subst e
      rw [if_pos rfl, atKey_put_same hD (keyed21.key (keyOf21 hp)), hoi4.datum_pos (by simp)]
      unfold gd
      rw [if_neg (by simp)]
    · rw [if_neg e, List.append_nil, atKey_put_other (by intro h; apply e; simp at h; omega)]
      exact hD3 p' hp'
  · refine ⟨hgr5.os.trans hw4.os, hgr5.tape.trans hw4.tape, hgr5.output.trans hw4.output, Nat.le_trans hw4.size hgr5.size, fun k hk hM => ?_⟩
    have hkw : k < w.heap.size := by omega
    rw [hgr5.block k (Nat.lt_of_lt_of_le hkw hw4.size) (by simpa using hM)]
    refine hw4.block k hkw fun e => ?_
    have := (hoi.1.lt k e.symm).1
    omega
  · intro g' cs e' hg' he
    have hlt := lt_of_block hg'
    have h4 : w4.heap[g']? = w.heap[g']? := hw4.block g' hlt fun e => by
      obtain ⟨_, cur, hc⟩ := owns_block hoi.1 e.symm
      unfold At at hc
      rw [hg'] at hc
      simp at hc
      exact he hc.2
    refine ⟨h4, (hgr5.block g' (Nat.lt_of_lt_of_le hlt hw4.size) (fun e => ?_)).trans h4⟩
    simp at e
    subst e
    exact hMc _ _ hg'

/-- An append whose run is known, at a step of a region that draws. -/
theorem step_append_eq {ops : Array Oper} {o : Oper} {a : Act} {w : World} {K : Act → World → Prop} {Q : Exit → Act → World → Prop} {E : Prop} (hgd : o.guard = none) (s x : Operand)
    (ho : o.op = .call { callee := .builtin .append, args := #[s, x], argTypes := #[59, 59] }) (v u v' : Value) (w' : World) (hs : a.eval s = v) (hx : a.eval x = u) (hrun : (Builtin.append_ #[59, 59] o.type #[v, u]).run Yba.prog w = .ok v' w')
    (h : K (a.put o.dst v') w') : if Region.wanted o (yielded ops a.tmps) = true then Oper.wp Yba.prog o a w K Q else E := by
  have hw : Region.wanted o (yielded ops a.tmps) = true := by simp [Region.wanted, hgd]
  rw [if_pos hw]
  unfold Oper.wp execOp
  simp only [ho, resolve, invoke, builtin, Sem.run_bind, Sem.run_pure, Result.andThen_ok, List.map_toArray, List.map_cons, List.map_nil, hs, hx, hrun]
  exact h
end Go.Proofs.Ybulkbksk
