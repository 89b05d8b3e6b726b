/-
  Small laws on memory that the walks of this seat share: a block known whole ('At'), a frame by a list of blocks ('Same'). No program is named here.
-/
import Derived.Below
import Derived.OneCell
import Derived.Laws.Rows
import Derived.Laws.OwnMore
import Derived.Deep.AppendLies
import Derived.Deep.Draws
import Derived.OwnWalk
namespace Go.Proofs.Ybulkbksk
open Go Go.RowKit

def At (w : World) (g : Nat) (cur : Array Value) (e : TypeId) : Prop := w.heap[g]? = some (.cells cur e (0, 0))

section
variable {w w' : World} {g g' : Nat} {cur cur' : Array Value} {e e' : TypeId}

theorem At.lt (h : At w g cur e) : g < w.heap.size := lt_of_block h
theorem At.cell (h : At w g cur e) (o : Nat) : w.cell? ⟨g, o, none⟩ = cur[o]? := cell_of_row w g o cur e (0, 0) h
theorem At.free (h : At w g cur e) (o : Nat) : w.frozen? ⟨g, o, none⟩ = false := by
  unfold At at h
  simp [World.frozen?, h]
theorem At.set (h : At w g cur e) (o : Nat) (v : Value) : At (w.setCell ⟨g, o, none⟩ v) g (cur.setIfInBounds o v) e := by
  have hlt := h.lt
  have h' : w.heap[g] = .cells cur e (0, 0) := by have := h; unfold At at this; simpa [Array.getElem?_eq_getElem hlt] using this
  show (w.heap.modify g _)[g]? = _
  rw [Array.getElem?_eq_getElem (by simpa using hlt), Array.getElem_modify_self, h']
  rfl
theorem At.other (h : At w g cur e) {a : Addr} (hne : g ≠ a.block) (v : Value) : At (w.setCell a v) g cur e := by
  unfold At
  rw [Below.heap_setCell _ _ _ _ hne]
  exact h
theorem At.ne (h : At w g cur e) (h' : At w g' cur' e') (he : e ≠ e') : g ≠ g' := by
  rintro rfl
  unfold At at h h'
  rw [h] at h'
  simp at h'
  exact he h'.2
theorem At.alloc (h : At w g cur e) (o : Obj) : At (w.alloc o) g cur e := by
  unfold At
  rw [Below.heap_alloc _ _ _ h.lt]
  exact h
theorem At.new (w : World) (c : Array Value) (e : TypeId) : At (w.alloc (.cells c e)) w.heap.size c e := heap_alloc_new w _
theorem At.drewN (h : At w g cur e) (n : Nat) : At (w.drewN n) g cur e := h
theorem At.drew (h : At w g cur e) : At w.drew g cur e := h
theorem At.ofBlock (h : At w g cur e) (hb : w'.heap[g]? = w.heap[g]?) : At w' g cur e := by
  unfold At
  rw [hb]
  exact h
end

/-- All old blocks but those of S are as they were; the streams too. -/
structure Same (S : List Nat) (w w' : World) : Prop where
  os : w'.os = w.os
  tape : w'.tape = w.tape
  output : w'.output = w.output
  size : w.heap.size ≤ w'.heap.size
  block : ∀ k, k < w.heap.size → k ∉ S → w'.heap[k]? = w.heap[k]?

section
variable {S S' : List Nat} {w w' w'' : World}

theorem Same.refl (S : List Nat) (w : World) : Same S w w := ⟨rfl, rfl, rfl, Nat.le_refl _, fun _ _ _ => rfl⟩
theorem Same.comp (h : Same S w w') (k : Same S' w' w'') (hs : ∀ b ∈ S', b ∈ S ∨ w.heap.size ≤ b) : Same S w w'' :=
  ⟨k.os.trans h.os, k.tape.trans h.tape, k.output.trans h.output, Nat.le_trans h.size k.size, fun i hi hn =>
    (k.block i (Nat.lt_of_lt_of_le hi h.size) (fun hm => by rcases hs i hm with h1 | h1; exact hn h1; omega)).trans (h.block i hi hn)⟩
theorem Same.trans (h : Same S w w') (k : Same S w' w'') : Same S w w'' := h.comp k (fun _ hb => .inl hb)
theorem Same.mono (h : Same S w w') (hs : ∀ b ∈ S, b ∈ S') : Same S' w w' :=
  ⟨h.os, h.tape, h.output, h.size, fun i hi hn => h.block i hi (fun hm => hn (hs i hm))⟩
theorem Same.drew (h : Same S w w') : Same S w w'.drew := ⟨h.os, h.tape, h.output, h.size, h.block⟩
theorem Same.alloc (h : Same S w w') (o : Obj) : Same S w (w'.alloc o) :=
  h.trans ⟨rfl, rfl, rfl, by simp, fun k hk _ => Below.heap_alloc _ _ _ hk⟩
theorem Same.setCell (h : Same S w w') {a : Addr} (ha : a.block ∈ S ∨ w.heap.size ≤ a.block) (v : Value) : Same S w (w'.setCell a v) :=
  h.comp (S' := [a.block]) ⟨rfl, rfl, rfl, by simp, fun k _ hn => Below.heap_setCell _ _ _ _ (by simpa using hn)⟩ (fun b hb => by simp at hb; subst hb; exact ha)
theorem Same.grown {row : Option Nat} (h : Same S w w') (hg : w'.grownBy w'' row) (hr : ∀ k, row = some k → k ∈ S ∨ w.heap.size ≤ k) : Same S w w'' :=
  h.comp (S' := row.toList) ⟨hg.os, hg.tape, hg.output, hg.size, fun k hk hn => hg.block k hk (fun he => hn (by simp [← he]))⟩ (fun b hb => hr b (by simpa using hb))
theorem Same.at_ {g : Nat} {cur : Array Value} {e : TypeId} (h : Same S w w') (ha : At w g cur e) (hn : g ∉ S) : At w' g cur e := ha.ofBlock (h.block g ha.lt hn)
theorem Same.cell {a : Addr} {v : Value} (h : Same S w w') (hc : w.cell? a = some v) (hn : a.block ∉ S) : w'.cell? a = some v :=
  (World.cell?_of_block (h.block a.block (World.block_lt_of_cell? w a hc) hn)).trans hc
theorem Same.owns {base : Nat} {e : TypeId} {size : Nat} {v : Value} {n : Nat} {xs : List Value} (h : Same S w w') (ho : w.ownsRow base e size v n xs) (hn : ∀ g, v.ownBlock = some g → g ∉ S) : w'.ownsRow base e size v n xs := by
  refine ⟨ho.1, ?_⟩
  rcases ho.2 with h2 | ⟨g, cap, cur, hv, hg, hh, r⟩
  · exact .inl h2
  · exact .inr ⟨g, cap, cur, hv, hg, by rw [h.block g (lt_of_block hh) (hn g (by rw [hv]; rfl))]; exact hh, r⟩
theorem Same.below {B : Nat} (h : Same S w w') (hS : ∀ k ∈ S, B ≤ k) (hB : B ≤ w.heap.size) : Below B w w' :=
  ⟨h.os, h.tape, h.output, h.size, fun k hk => h.block k (by omega) (fun hm => by have := hS k hm; omega)⟩
theorem Same.drewN (h : Same S w w') (n : Nat) : Same S w (w'.drewN n) := ⟨h.os, h.tape, h.output, h.size, h.block⟩
end

section
variable {w w' : World} {base : Nat} {e : TypeId} {v : Value} {n : Nat} {xs : List Value}

theorem owns_drewN (h : w.ownsRow base e 1 v n xs) (k : Nat) : (w.drewN k).ownsRow base e 1 v n xs := h

/-- What an owned slice of one-cell elements looks like. -/
theorem owns_form (h : w.ownsRow base e 1 v n xs) : ∃ ao cap, v = .slice ao n cap := by
  rcases h.2 with ⟨rfl, rfl⟩ | ⟨g, cap, cur, rfl, _⟩
  · exact ⟨_, _, rfl⟩
  · exact ⟨_, _, rfl⟩

theorem owns_len (h : w.ownsRow base e 1 v n xs) : xs.length = n := by simpa using h.1

/-- The block behind an owned slice that holds something. -/
theorem owns_at (h : w.ownsRow base e 1 v n xs) (hn : 0 < n) : ∃ g cap cur, v = .slice (some ⟨g, 0, none⟩) n cap ∧ base ≤ g ∧ At w g cur e ∧ n ≤ cap ∧ cap ≤ maxLen := by
  rcases h.2 with ⟨_, h0⟩ | ⟨g, cap, cur, hv, hb, hg, h1, h2, _⟩
  · omega
  · exact ⟨g, cap, cur, hv, hb, hg, h1, h2⟩

/-- Whatever block an owned slice has, it is one of cells of type e. -/
theorem owns_block (h : w.ownsRow base e 1 v n xs) {g : Nat} (hg : v.ownBlock = some g) : base ≤ g ∧ ∃ cur, At w g cur e := by
  rcases h.2 with ⟨rfl, _⟩ | ⟨g', cap, cur, rfl, hb, hh, _⟩
  · simp [Value.ownBlock] at hg
  · simp [Value.ownBlock] at hg
    subst hg
    exact ⟨hb, cur, hh⟩

theorem owns_ne {g : Nat} {cur : Array Value} {e' : TypeId} (h : w.ownsRow base e 1 v n xs) (ha : At w g cur e') (he : e ≠ e') : v.ownBlock ≠ some g := by
  intro hg
  obtain ⟨_, c, hc⟩ := owns_block h hg
  exact hc.ne ha he rfl
end

/-- 'make([]T, n, c)', elements of one cell: the value at the head of a new block of c zero values; the world behind it is a letter. -/
theorem wpList_make_at {P : Program} (w : World) {ops : Array Oper} {rest : List Oper} {o : Oper} {a : Act} {Q : Exit → Act → World → Prop}
    (hg : o.guard = none) (l c : Operand) (t : TypeId) (hop : o.op = Op.makeSlice t l c)
    (e : TypeId) (i : TypeInfo) (z : Value) (h1 : P.underlying t = some (.slice e)) (h2 : P.info? e = some i) (h3 : i.zero = some z) (h4 : i.size = 1) (hz : z.cells = #[z])
    (kl kc : IntKind) (L C : Int) (n m : Nat) (hl : a.eval l = .int kl L) (hc : a.eval c = .int kc C) (hL : L = (n : Int)) (hC : C = (m : Int)) (hnm : n ≤ m) (b2 : i.bytes * m ≤ 281474976710656) (b3 : m ≤ maxLen)
    (hK : ∀ w', At w' w.heap.size (Array.replicate m z) e → Same [] w w' → w'.heap.size = w.heap.size + 1 → wpList P ops Q rest (a.put o.dst (.slice (some ⟨w.heap.size, 0, none⟩) n m)) w') :
    wpList P ops Q (o :: rest) a w := by
  refine wpList_plain hg fun K hK' => ?_
  subst hL
  subst hC
  have h63' : (m : Int) ≤ 9223372036854775807 := by
    have h := b3
    simp [maxLen] at h
    omega
  have hb' : (i.bytes : Int) * (m : Int) ≤ 281474976710656 := by
    have h : ((i.bytes * m : Nat) : Int) ≤ 281474976710656 := by omega
    rwa [Int.natCast_mul] at h
  have hrun := run_make (P := P) w t e i z h1 h2 h3 kl kc n m (by omega) (by omega) hb' h63'
  unfold Oper.wp
  simp only [Int.toNat_natCast, h4, Nat.mul_one, hz] at hrun
  simp [execOp, hop, hl, hc, hrun, Result.andThen]
  have hcs : madeCells #[z] m = Array.replicate m z := by
    apply Array.toList_inj.1
    rw [toList_madeCells_one]
    simp
  refine hK' _ _ (hK _ ?_ ((Same.refl _ _).alloc _) (by simp))
  rw [hcs]
  exact At.new _ _ _

/-- 's = append(s, u)' onto an owned slice of one-cell elements: the one-element block of the translation lies just ahead. -/
theorem wpList_append_one {P : Program} (w0 : World) {ops : Array Oper} {rest : List Oper} {o : Oper} {a : Act} {Q : Exit → Act → World → Prop}
    (hgd : o.guard = none) (s x : Operand) (t : TypeId) (ho : o.op = .call { callee := .builtin .append, args := #[s, x], argTypes := #[t, t] })
    (base : Nat) (e : TypeId) (z : Value) (bytes : Nat) (ht : P.underlying t = some (.slice e)) (hinfo : (P.info? e).map (fun i => (i.zero, i.size, i.bytes)) = some (some z, 1, bytes)) (hzs : z.cells.size = 1)
    {v : Value} {n : Nat} {xs : List Value} (hown : w0.ownsRow base e 1 v n xs) (hs : a.eval s = v) (u : Value) (hx : a.eval x = .slice (some ⟨w0.heap.size, 0, none⟩) 1 1) (hu : u.oneCell' = true)
    (h63 : n + 1 ≤ maxLen) (hbytes : (n + 1) * bytes ≤ 140737488355328) (hbase : base ≤ w0.heap.size)
    (h : ∀ g cap w', w'.ownsRow base e 1 (.slice (some ⟨g, 0, none⟩) (n + 1) cap) (n + 1) (xs ++ [u]) → Same v.ownBlock.toList w0 w' → (v.ownBlock = some g ∨ w0.heap.size ≤ g) → wpList P ops Q rest (a.put o.dst (.slice (some ⟨g, 0, none⟩) (n + 1) cap)) w') :
    wpList P ops Q (o :: rest) a (w0.alloc (.cells #[u] e)) := by
  obtain ⟨i, hi, h0, h1, h2⟩ := info_parts hinfo
  refine wpList_append_lies (w0.alloc (.cells #[u] e)) hgd s x t ho base e i z 1 bytes ht hi h0 h1 h2 hzs (by decide) v n xs hs (hown.alloc _) ⟨w0.heap.size, 0, none⟩ 1 1 [u] hx rfl
    (cell_one_new _ _ _) (by intro q hq; simp at hq; subst hq; exact hu) (by decide) h63 hbytes (by simp; omega) _ rfl ?_
  intro g cap w' hown' hgrow hat _
  refine h g cap w' hown' (((Same.refl _ w0).alloc _).grown hgrow (fun k hk => by simp [hk])) ?_
  rcases hat with hat | hat
  · exact .inl hat
  · right
    rw [hat]
    simp

/-- The same, the one-element block's number a letter. -/
theorem wpList_append_one_at {P : Program} (w0 : World) {ops : Array Oper} {rest : List Oper} {o : Oper} {a : Act} {Q : Exit → Act → World → Prop}
    (hgd : o.guard = none) (s x : Operand) (t : TypeId) (ho : o.op = .call { callee := .builtin .append, args := #[s, x], argTypes := #[t, t] })
    (base : Nat) (e : TypeId) (z : Value) (bytes : Nat) (ht : P.underlying t = some (.slice e)) (hinfo : (P.info? e).map (fun i => (i.zero, i.size, i.bytes)) = some (some z, 1, bytes)) (hzs : z.cells.size = 1)
    {v : Value} {n : Nat} {xs : List Value} (hown : w0.ownsRow base e 1 v n xs) (hs : a.eval s = v) (u : Value) (H : Nat) (hx : a.eval x = .slice (some ⟨H, 0, none⟩) 1 1) (hH : w0.heap.size = H) (hu : u.oneCell' = true)
    (h63 : n + 1 ≤ maxLen) (hbytes : (n + 1) * bytes ≤ 140737488355328) (hbase : base ≤ w0.heap.size)
    (h : ∀ g cap w', w'.ownsRow base e 1 (.slice (some ⟨g, 0, none⟩) (n + 1) cap) (n + 1) (xs ++ [u]) → Same v.ownBlock.toList w0 w' → (v.ownBlock = some g ∨ w0.heap.size ≤ g) → wpList P ops Q rest (a.put o.dst (.slice (some ⟨g, 0, none⟩) (n + 1) cap)) w') :
    wpList P ops Q (o :: rest) a (w0.alloc (.cells #[u] e)) := by
  subst hH
  exact wpList_append_one w0 hgd s x t ho base e z bytes ht hinfo hzs hown hs u hx hu h63 hbytes hbase h

end Go.Proofs.Ybulkbksk
