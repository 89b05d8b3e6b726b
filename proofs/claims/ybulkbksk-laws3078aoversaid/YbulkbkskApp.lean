/-
  'append(s, xs...)' onto an owned slice of one-cell elements, xs empty or not. No program is named here.
-/
import Derived.Test.YbulkbkskHeap
import Derived.Deep.Upon
namespace Go.Proofs.Ybulkbksk
open Go Go.RowKit

theorem wpList_append_seg {P : Program} (w0 : World) {ops : Array Oper} {rest : List Oper} {o : Oper} {a : Act} {Q : Exit → Act → World → Prop}
    (hgd : o.guard = none) (s x : Operand) (t : TypeId) (ho : o.op = .call { callee := .builtin .append, args := #[s, x], argTypes := #[t, t] })
    (base : Nat) (e : TypeId) (z : Value) (bytes : Nat) (ht : P.underlying t = some (.slice e)) (hinfo : (P.info? e).map (fun i => (i.zero, i.size, i.bytes)) = some (some z, 1, bytes)) (hzs : z.cells.size = 1)
    {v : Value} {n : Nat} {xs : List Value} (hown : w0.ownsRow base e 1 v n xs) (hs : a.eval s = v) (ao : Option Addr) (m c : Nat) (news : List Value) (hx : a.eval x = .slice ao m c) (hl : news.length = m)
    (hnews : 0 < m → ∃ ad, ao = some ad ∧ ∀ j u, news[j]? = some u → w0.cell? (ad.add j) = some u) (h1 : ∀ u ∈ news, u.oneCell' = true) (hpos : 0 < n + m)
    (h63 : n + m ≤ maxLen) (hbytes : (n + m) * bytes ≤ 140737488355328) (hbase : base ≤ w0.heap.size)
    (h : ∀ g cap w', w'.ownsRow base e 1 (.slice (some ⟨g, 0, none⟩) (n + m) cap) (n + m) (xs ++ news) → Same v.ownBlock.toList w0 w' → (v.ownBlock = some g ∨ w0.heap.size ≤ g) → wpList P ops Q rest (a.put o.dst (.slice (some ⟨g, 0, none⟩) (n + m) cap)) w') :
    wpList P ops Q (o :: rest) a w0 := by
  obtain ⟨i, hi, h0, hz1, h2⟩ := info_parts hinfo
  by_cases hm : 0 < m
  · obtain ⟨ad, rfl, hc⟩ := hnews hm
    refine wpList_append_lies w0 hgd s x t ho base e i z 1 bytes ht hi h0 hz1 h2 hzs (by decide) v n xs hs hown ad m c news hx (by simpa using hl) hc h1 hm h63 hbytes hbase _ rfl ?_
    intro g cap w' hown' hgrow hat _
    refine h g cap w' hown' ((Same.refl _ w0).grown hgrow (fun k hk => by simp [hk])) ?_
    rcases hat with hat | hat
    · exact .inl hat
    · right; omega
  · have hm0 : m = 0 := by omega
    subst hm0
    have hn : news = [] := List.eq_nil_of_length_eq_zero hl
    subst hn
    obtain ⟨g, cap, cur, rfl, hb, ha, hnc, _⟩ := owns_at hown (by omega)
    refine wpList_plain hgd fun K hK => ?_
    have hsrc : Src P i.size t (.slice ao 0 c) 0 [] w0 := by
      cases ao with
      | none => exact Src.ofNil w0 ht c
      | some ad => exact Src.ofSlice w0 ht ad 0 c [] (by simp) (by simp) (by simp)
    have hrun := run_append_nothing (P := P) w0 t t o.type e i ht hi (some ⟨g, 0, none⟩) n cap hnc (.slice ao 0 c) hsrc
    unfold Oper.wp execOp
    simp only [ho, resolve, invoke, builtin, Sem.run_bind, Sem.run_pure, Result.andThen_ok, List.map_toArray, List.map_cons, List.map_nil, hs, hx, hrun]
    exact hK _ _ (by simpa using h g cap w0 (by simpa using hown) (Same.refl _ _) (.inl rfl))
/-- 'append(s, xs...)', nothing appended. -/
theorem wpList_append_zero {P : Program} (w0 : World) {ops : Array Oper} {rest : List Oper} {o : Oper} {a : Act} {Q : Exit → Act → World → Prop}
    (hgd : o.guard = none) (s x : Operand) (t : TypeId) (ho : o.op = .call { callee := .builtin .append, args := #[s, x], argTypes := #[t, t] })
    (e : TypeId) (z : Value) (bytes : Nat) (ht : P.underlying t = some (.slice e)) (hinfo : (P.info? e).map (fun i => (i.zero, i.size, i.bytes)) = some (some z, 1, bytes))
    (base : Option Addr) (n cap : Nat) (hs : a.eval s = .slice base n cap) (hnc : n ≤ cap) (ad : Addr) (c : Nat) (hx : a.eval x = .slice (some ad) 0 c)
    (h : wpList P ops Q rest (a.put o.dst (.slice base n cap)) w0) : wpList P ops Q (o :: rest) a w0 := by
  obtain ⟨i, hi, h0, hz1, h2⟩ := info_parts hinfo
  refine wpList_plain hgd fun K hK => ?_
  have hrun := run_append_nothing (P := P) w0 t t o.type e i ht hi base n cap hnc (.slice (some ad) 0 c) (Src.ofSlice w0 ht ad 0 c [] (by simp) (by simp) (by simp))
  unfold Oper.wp execOp
  simp only [ho, resolve, invoke, builtin, Sem.run_bind, Sem.run_pure, Result.andThen_ok, List.map_toArray, List.map_cons, List.map_nil, hs, hx, hrun]
  exact hK _ _ h
end Go.Proofs.Ybulkbksk
