import Derived.Test.YbulkbksyModel
import Derived.ProofKit
import Derived.OpenShut
import Derived.ShutString
import Derived.ChangeOld
namespace Go.Proofs.Ybulkbksy.BModel
open Go.ChangeShapes Go.WideShapes Go.ChangeAt Go.RowKit
open Go.Proofs.Ybulkbksy
set_option linter.unusedVariables false

theorem pV8_cons (n : Nat) (r : List Nat) : pV8 (some (n :: r)) = if n ≤ r.length then (some (r.take n), some (r.drop n)) else (none, none) := by
  have e : pBytes 1 (some (n :: r)) = (some [n], some r) := by simp [pBytes]
  unfold pV8 pU8
  rw [e]
  simp only [Option.getD_some, List.getD_cons_zero]
  rfl

theorem model_any (B len cap : Nat) (ao : Option Addr) (xs : List Nat) (t s1 nm s2 : Option (List Nat)) (w : World) (hseg : Seg w B ao len cap xs) (hB : B ≤ w.heap.size) (hlen : len ≤ 4096)
    (h8 : pV8 (some xs) = (t, s1)) (h16 : pV16 s1 = (nm, s2)) :
    Calls Yba.prog 6 #[.slice ao len cap] w fun e w' => MP w B t s2 (pN (nm.getD [])) e w' := by
  have hl := hseg.len_eq
  cases xs with
  | nil =>
    simp at hl
    subst hl
    have e : pV8 (some []) = (none, none) := rfl
    rw [e] at h8
    simp only [Prod.mk.injEq] at h8
    obtain ⟨rfl, rfl⟩ := h8
    have e2 : pV16 none = (none, none) := rfl
    rw [e2] at h16
    simp only [Prod.mk.injEq] at h16
    obtain ⟨rfl, rfl⟩ := h16
    exact model_nil cap ao B w
  | cons n r =>
    simp at hl
    rw [pV8_cons] at h8
    obtain ⟨b, off, rfl, _, _, hc⟩ := hseg.cells (by omega)
    have h0 := hc 0 (by omega)
    simp at h0
    have hn : n < 256 := hseg.small n (by simp)
    by_cases hnr : n ≤ r.length
    · rw [if_pos hnr] at h8
      simp only [Prod.mk.injEq] at h8
      obtain ⟨rfl, rfl⟩ := h8
      exact model_long b off len cap n r none nm s2 B w hseg hB hlen hnr h16
    · rw [if_neg hnr] at h8
      simp only [Prod.mk.injEq] at h8
      obtain ⟨rfl, rfl⟩ := h8
      have e2 : pV16 none = (none, none) := rfl
      rw [e2] at h16
      simp only [Prod.mk.injEq] at h16
      obtain ⟨rfl, rfl⟩ := h16
      exact model_short b off len cap n B w h0 hn (by omega) hlen (by omega)

/-- 'append(s, xs...)', nothing appended. -/
theorem wpList_append_zero {P : Program} (w0 : World) {ops : Array Oper} {rest : List Oper} {o : Oper} {a : Act} {Q : Exit → Act → World → Prop}
    (hgd : o.guard = none) (s x : Operand) (t : TypeId) (ho : o.op = .call { callee := .builtin .append, args := #[s, x], argTypes := #[t, t] })
    (e : TypeId) (z : Value) (bytes : Nat) (ht : P.underlying t = some (.slice e)) (hinfo : (P.info? e).map (fun i => (i.zero, i.size, i.bytes)) = some (some z, 1, bytes))
    (base : Option Addr) (n cap : Nat) (hs : a.eval s = .slice base n cap) (hnc : n ≤ cap) (ad : Addr) (c : Nat) (hx : a.eval x = .slice (some ad) 0 c)
    (h : wpList P ops Q rest (a.put o.dst (.slice base n cap)) w0) : wpList P ops Q (o :: rest) a w0 := by
  obtain ⟨i, hi, h0, hz1, h2⟩ := info_parts hinfo
  refine wpList_plain hgd fun K hK => ?_
  have hrun := run_append_nothing (P := P) w0 t t o.type e i ht hi base n cap hnc (.slice (some ad) 0 c) (Src.ofSlice w0 ht ad 0 c [] (by simp) (by simp) (by simp))
  unfold Oper.wp execOp
  simp only [ho, resolve, invoke, builtin, Sem.run_bind, Sem.run_pure, Result.andThen_ok, List.map_toArray, List.map_cons, List.map_nil, hs, hx, hrun]
  exact hK _ _ h

/-- The copy: as many bytes, in new memory. -/
def ClonePost (w : World) (len : Nat) (xs : List Nat) (e : Ending) (w' : World) : Prop :=
  ∃ ao cap, e = .returned (.slice ao len cap) ∧ Seg w' w'.heap.size ao len cap xs ∧ Same [] w w'

set_option maxHeartbeats 400000 in
theorem clone_any (B len cap : Nat) (ao : Option Addr) (xs : List Nat) (w : World) (hseg : Seg w B ao len cap xs) (hlen : len ≤ 4096) :
    Calls Yba.prog 5 #[.slice ao len cap] w fun e w' => ClonePost w len xs e w' := by
  have heq := fun (w : World) (a : Option Addr) (l c : Nat) => Lib.run_eql_slice_nil (P := Yba.prog) w 22 5 a l c 0 0 Yba.underlying22
  have HSeg : Hid (Seg w B ao len cap xs) := hseg
  have hl := hseg.len_eq
  cases ao with
  | none =>
    have hl0 : len = 0 := by
      rcases Nat.eq_zero_or_pos len with h | h
      · exact h
      · obtain ⟨b, off, e, _⟩ := hseg.cells h
        cases e
    subst hl0
    have hx : xs = [] := List.eq_nil_of_length_eq_zero hl
    subst hx
    clear hseg HSeg
    go_enter Yba.func5, Yba.ntmps5
    go_wp2
    go_ret
    exact ⟨none, 0, rfl, Seg.nil _ _, Same.refl _ _⟩
  | some ad =>
    by_cases h0 : 0 < len
    · have hown : (w.alloc (.cells #[] 5)).ownsRow w.heap.size 5 1 (.slice (some ⟨w.heap.size, 0, none⟩) 0 0) 0 [] := by
        have := World.ownsRow_lit (base := w.heap.size) (e := 5) (size := 1) w #[] 0 (Nat.le_refl _) (by unfold maxLen; omega) rfl
        simpa using this
      have HO : Hid ((w.alloc (.cells #[] 5)).ownsRow w.heap.size 5 1 (.slice (some ⟨w.heap.size, 0, none⟩) 0 0) 0 []) := hown
      have hxm : (xs.map fun n : Nat => Value.int .u8 (n : Int)).length = len := by rw [List.length_map]; exact hl
      have HX : Hid _ := hxm
      have hnews : 0 < len → ∃ ad', some ad = some ad' ∧ ∀ (j : Nat) (u : Value), (xs.map fun n : Nat => Value.int .u8 (n : Int))[j]? = some u → (w.alloc (.cells #[] 5)).cell? (ad'.add j) = some u := by
        intro _
        obtain ⟨b, off, e, _, _, hc⟩ := (hseg.same ((Same.refl [] w).alloc (.cells #[] 5)) (by simp)).cells h0
        refine ⟨_, rfl, fun j u hu => ?_⟩
        simp only [Option.some.injEq] at e
        subst e
        have hj : j < xs.length := by
          have := (List.getElem?_eq_some_iff.1 hu).1
          simpa using this
        rw [Addr.add_lit, hc j (by omega)]
        simp [hj] at hu
        simp [List.getD, hj, hu]
      have HN : Hid _ := hnews
      have hone : ∀ u ∈ (xs.map fun n : Nat => Value.int .u8 (n : Int)), u.oneCell' = true := by
        intro u hu
        obtain ⟨_, _, rfl⟩ := List.mem_map.1 hu
        rfl
      have H1 : Hid _ := hone
      clear hown hxm hnews hseg hl hone
      go_enter Yba.func5, Yba.ntmps5
      go_wp2_with (at_builtin; go_must (refine wpList_append_seg _ rfl (.tmp 5) (.tmp 6) 22 rfl w.heap.size 5 (.int .u8 0) 1 Yba.underlying22 info5 rfl HO.out rfl (some ad) len cap (xs.map fun n : Nat => Value.int .u8 (n : Int)) rfl HX.out HN.out H1.out (by omega) (by unfold maxLen; omega) (by omega) (by simp) ?_))
      intro g c w1 ho1 hs1 hat1
      have hpost : ClonePost w len xs (.returned (.slice (some ⟨g, 0, none⟩) len c)) w1 := by
        have hcm : (w1.ownsRow w.heap.size 5 1 (.slice (some ⟨g, 0, none⟩) len c) len (xs.map fun n : Nat => Value.int .u8 (n : Int))) := by simpa using ho1
        rcases hcm.2 with ⟨e, _⟩ | ⟨g', cp, cur, e, hb, hh, h1, h2, h3, h4⟩
        · simp at e
        · simp only [Value.slice.injEq, Option.some.injEq, Addr.mk.injEq, and_true] at e
          obtain ⟨rfl, _, rfl⟩ := e
          refine ⟨_, _, rfl, ⟨HSeg.out.len_eq, h1, by simpa [maxLen] using h2, HSeg.out.small, fun _ => ⟨g, 0, rfl, lt_of_block hh, lt_of_block hh, fun i hi => ?_⟩⟩, ((Same.refl [] w).alloc _).comp hs1 (by intro b hb; simp [Value.ownBlock] at hb; right; omega)⟩
          rw [Nat.zero_add, hcm.cellAt i (by omega)]
          have := HSeg.out.len_eq
          simp [List.getD, show i < xs.length by omega]
      have HP : Hid _ := hpost
      clear ho1 hs1 hat1 hpost
      go_wp2
      go_ret
      exact HP.out
    · have hl0 : len = 0 := by omega
      subst hl0
      have hx : xs = [] := List.eq_nil_of_length_eq_zero hl
      subst hx
      clear hseg HSeg hl
      go_enter Yba.func5, Yba.ntmps5
      go_wp2_with (at_builtin; go_must (refine wpList_append_zero _ rfl (.tmp 5) (.tmp 6) 22 rfl 5 (.int .u8 0) 1 Yba.underlying22 info5 _ 0 0 rfl (Nat.le_refl _) ad cap rfl ?_))
      go_wp2
      go_ret
      exact ⟨_, 0, rfl, ⟨rfl, Nat.le_refl _, by omega, by simp, fun h => by omega⟩, (Same.refl [] w).alloc _⟩

theorem names_le (xs : List Nat) {t s1 nm s2 : Option (List Nat)} {len : Nat} (h8 : pV8 (some xs) = (t, s1)) (h16 : pV16 s1 = (nm, s2)) (hl : xs.length = len) : (nm.getD []).length ≤ len := by
  cases nm with
  | none => simp
  | some ys =>
    rcases pV16_form s1 with e | ⟨ys', rest, e⟩
    · rw [e] at h16; simp at h16
    · have h16' : pV16 s1 = (some ys, s2) := h16
      rw [e] at h16'
      simp only [Prod.mk.injEq, Option.some.injEq] at h16'
      obtain ⟨rfl, rfl⟩ := h16'
      cases s1 with
      | none =>
        have e2 : pV16 none = (none, none) := rfl
        rw [e2] at e
        simp at e
      | some r =>
        have h1 := (pV16_rest e).2
        have h2 : r.length ≤ xs.length := by
          cases xs with
          | nil =>
            have e3 : pV8 (some []) = (none, none) := rfl
            rw [e3] at h8
            simp at h8
          | cons n r' =>
            rw [pV8_cons] at h8
            split at h8
            · simp only [Prod.mk.injEq, Option.some.injEq] at h8
              rw [← h8.2]
              simp
              omega
            · simp at h8
        show ys'.length ≤ len
        omega

set_option maxHeartbeats 400000 in
theorem walk_long (a0 : Option Addr) (len cap : Nat) (w : World) (h : 4096 < len) (hm : len ≤ 9223372036854775807) :
    Calls Yba.prog 3 #[.slice a0 len cap] w fun e w' => e = .returned (.bool true) ∧ Below w.heap.size w w' := by
  go_enter Yba.func3, Yba.ntmps3
  go_wp2
  go_ret
  exact ⟨rfl, Below.refl _ _⟩

theorem pN_len : ∀ (xs : List Nat) (As : List (List Nat)), pN xs = some As → As.length ≤ xs.length := by
  have key : ∀ (f : Nat) (xs : List Nat) (As : List (List Nat)), pNames f xs = some As → As.length ≤ f := by
    intro f
    induction f with
    | zero => intro xs As h; simp [pNames] at h; subst h; simp
    | succ f ih =>
      intro xs As h
      rw [pNames_succ] at h
      split at h
      · simp at h; subst h; simp
      · split at h
        · simp only [Option.map_eq_some_iff] at h
          obtain ⟨As', h1, rfl⟩ := h
          have := ih _ _ h1
          simp
          omega
        · simp at h
  intro xs As h
  exact key _ xs As h

set_option maxRecDepth 10000 in
set_option maxHeartbeats 1000000 in
theorem walk_short (a0 : Option Addr) (len cap : Nat) (xs : List Nat) (w : World) (h : len ≤ 4096) (hseg : Seg w w.heap.size a0 len cap xs) :
    Calls Yba.prog 3 #[.slice a0 len cap] w fun e w' => e = .returned (.bool true) ∧ Below w.heap.size w w' := by
  obtain ⟨⟨t, s1⟩, h8⟩ : ∃ p, pV8 (some xs) = p := ⟨_, rfl⟩
  obtain ⟨⟨nm, s2⟩, h16⟩ : ∃ p, pV16 s1 = p := ⟨_, rfl⟩
  have hnl : (nm.getD []).length ≤ len := names_le xs h8 h16 hseg.len_eq
  have hcl := clone_any w.heap.size len cap a0 xs w hseg h
  go_enter Yba.func3, Yba.ntmps3
  go_wp2_with fail
  refine hcl.mono ?_
  rintro e w1 ⟨ac, cc, rfl, hsegc, hs1⟩
  clear hcl
  go_wp2_with fail
  refine (model_any w.heap.size len cap a0 xs t s1 nm s2 w1 (hseg.same hs1 (by simp)) hs1.size h h8 h16).mono ?_
  rintro e w2 ⟨hs2, hmp⟩
  have hpar := parse_gen w1.heap.size len cc ac xs t s1 nm s2 w2 (hsegc.same hs2 (by simp)) hs2.size (by omega) h8 h16 hnl
  have hxl := hseg.len_eq
  have HXL : Hid (xs.length = len) := hxl
  have heqv : ∀ w3, Same [] w2 w3 → Calls Yba.prog 8 #[.slice ac len cc, .slice a0 len cap] w3 fun e w' => e = .returned (.bool true) ∧ w3 = w' := by
    intro w3 hs3
    have r1 : RV w3 w1.heap.size (.slice ac len cc) (some xs) := ⟨ac, cc, by rw [hxl], by rw [hxl]; exact (hsegc.same hs2 (by simp)).same hs3 (by simp)⟩
    have r2 : RV w3 w.heap.size (.slice a0 len cap) (some xs) := ⟨a0, cap, by rw [hxl], by rw [hxl]; exact ((hseg.same hs1 (by simp)).same hs2 (by simp)).same hs3 (by simp)⟩
    refine (equal_any _ _ _ _ (some xs) (some xs) w3 r1 r2).mono ?_
    rintro e w' ⟨rfl, rfl⟩
    exact ⟨by simp, rfl⟩
  have hsW : Same [] w w2 := hs1.comp hs2 (by simp)
  have HW : Hid (Same [] w w2 ∧ Same [] w1 w2) := ⟨hsW, hs2⟩
  have hAl : ∀ As, pN (nm.getD []) = some As → As.length ≤ 10000000 := fun As he => by
    have := pN_len _ _ he
    omega
  generalize pN (nm.getD []) = R at *
  clear hseg hsegc hs1 hs2 hsW h8 h16 hnl hxl
  cases R with
  | none =>
    simp only at hmp
    subst hmp
    go_wp2_with fail
    refine hpar.mono ?_
    rintro e w3 ⟨hs3, hpp⟩
    simp only at hpp
    subst hpp
    have HS3 : Hid (Same [] w w3) := HW.out.1.comp hs3 (by simp)
    have hE := heqv w3 hs3
    clear hs3 hpar heqv
    go_wp2_with fail
    refine hE.mono ?_
    rintro e w' ⟨rfl, rfl⟩
    clear hE
    go_wp2
    go_ret
    exact ⟨rfl, HS3.out.below (by simp) (Nat.le_refl _)⟩
  | some As =>
    have hAs := hAl As rfl
    obtain ⟨vt, va, rfl, hvt, hva⟩ := hmp
    have HM : Hid (RV w2 w.heap.size vt t ∧ Auth w2 w.heap.size w1.heap.size va As) := ⟨hvt, hva⟩
    generalize hok : (decide (0 < (t.getD []).length) && decide (s2 = some [])) = ok
    have HOK : Hid ((decide (0 < (t.getD []).length) && decide (s2 = some [])) = ok) := hok
    clear hvt hva hok hAl
    go_wp2_with fail
    refine hpar.mono ?_
    rintro e w3 ⟨hs3, hpp⟩
    obtain ⟨Mb, vt', va', rfl, hM, hvt', hva'⟩ := hpp
    rw [HOK.out]
    have hE := heqv w3 hs3
    have hcmp : Cmp w3 w1.heap.size w.heap.size w2.heap.size w1.heap.size Mb vt' va' vt va t t As := ⟨hM, hvt', hva', HM.out.1.same hs3 (by simp), HM.out.2.same hs3 (by simp) (by simp)⟩
    have hSm := same_any _ _ _ _ Mb vt' va' vt va t t As w3 hcmp rfl hAs
    have HS3 : Hid (Same [] w w3) := HW.out.1.comp hs3 (by simp)
    clear hs3 hpar heqv hM hvt' hva' hcmp
    go_wp2_with fail
    refine hE.mono ?_
    rintro e w' ⟨rfl, rfl⟩
    clear hE
    cases ok
    all_goals
      go_wp2_with fail
      refine hSm.mono ?_
      rintro e w4 ⟨rfl, hs4⟩
      have HS4 : Hid (Same [] w w4) := HS3.out.comp hs4 (by simp)
      clear hs4
      go_wp2
      go_ret
      exact ⟨rfl, HS4.out.below (by simp) (Nat.le_refl _)⟩

theorem own : ownKnob Yba.prog.godebug = none := by kernel_rfl
theorem laidOut : laidOutB Yba.prog = true := by kernel_rfl

/-- WHAT THE WALK IS TOLD OF A SLICE OF INTEGERS THAT CAME IN: it is nil; or it leads to a row of 'cap' cells, the numbers 'zs' (the first 'len' are its elements, the rest its spare room), each fitting its kind. -/
def IsRow (k : IntKind) (w : World) (a : Option Addr) (len cap : Nat) (zs : List Int) : Prop :=
  (a = none ∧ len = 0 ∧ cap = 0 ∧ zs = []) ∨
  ∃ x, a = some x ∧ len ≤ cap ∧ cap ≤ maxLen ∧ zs.length = cap ∧ (∀ i, i < zs.length → w.cell? (x.add i) = some (.int k (zs.getD i 0))) ∧ ∀ n ∈ zs, (Lit.int k n).wf = true

theorem seg_of {w : World} {a : Option Addr} {len cap : Nat} {zs : List Int} (h : IsRow .u8 w a len cap zs) : Seg w w.heap.size a len cap ((zs.take len).map Int.toNat) ∧ len ≤ 9223372036854775807 := by
  rcases h with ⟨rfl, rfl, rfl, rfl⟩ | ⟨x, rfl, h1, h2, h3, h4, h5⟩
  · exact ⟨Seg.nil _ _, by omega⟩
  · simp only [maxLen] at h2
    refine ⟨⟨by simp; omega, h1, h2, ?_, fun h0 => ?_⟩, by omega⟩
    · intro y hy
      simp only [List.mem_map] at hy
      obtain ⟨z, hz, rfl⟩ := hy
      have := bounds_u8 (h5 z (List.mem_of_mem_take hz))
      omega
    · obtain ⟨b, off, rfl, hc⟩ := ints_at h4 (by omega)
      refine ⟨b, off, rfl, World.block_lt_of_cell? w _ (hc 0 (by omega)), World.block_lt_of_cell? w _ (hc 0 (by omega)), fun i hi => ?_⟩
      rw [hc i (by omega)]
      have hr : 0 ≤ zs.getD i 0 ∧ zs.getD i 0 ≤ 255 := by simpa [List.getD] using range_u8 h5 i
      have e : (List.map Int.toNat (zs.take len)).getD i 0 = (zs.getD i 0).toNat := by
        simp [List.getD, hi, show i < zs.length by omega]
      rw [e]
      congr 2
      omega


theorem walk (a0 : Option Addr) (len0 cap0 : Nat) (z0 : List Int) (w : World) (w0 : IsRow .u8 w a0 len0 cap0 z0) :
    Calls Yba.prog 3 #[.slice a0 len0 cap0] w fun e w' => e = .returned (.bool true) ∧ Below w.heap.size w w' := by
  by_cases hl : 4096 < len0
  · exact walk_long a0 len0 cap0 w hl (seg_of w0).2
  · exact walk_short a0 len0 cap0 _ w (by omega) (seg_of w0).1

set_option maxRecDepth 100000 in
theorem lifted (os : Os) (started : os.Started) (H : Type) (enc : TypeId × Value → H) :
    ReturnsInHanded {} Yba.checked os 3 .any (Rows.lawS3079BModelSpec.pre6 enc Yba.prog Yba.f3 Rows.lawS3079BModelRow.domain false) (Rows.lawS3079BModelSpec.post enc Yba.prog Yba.f3 false true false false) := by
  refine returnsInHanded_of_change (C := Yba.checked) own started (by kernel_rfl) Yba.func3
    (ChangeSpec.witness6 (enc := enc) (C := Yba.checked) false ⟨#[], #[.slice none 0 0], []⟩ 8 (by kernel_rfl) (by kernel_rfl) (by kernel_rfl) (by kernel_rfl)) ?_
  intro W base args ds gs before hval0 hW hcnd _
  have hval : ∀ (j : Nat) t v, Yba.f3.params[j]? = some t → args[j]? = some v → Value.okWide Yba.prog W .any base t v := hval0
  have hW' := hW
  obtain ⟨p, q, hA0, hV, rfl, hfz, hnd⟩ := hW
  have hA : DataW.TrodAll enc Yba.prog W 0 (fun _ => true) true Yba.f3.params.toList args.toList ds p := hA0
  rw [Yba.params3] at hA hval
  obtain ⟨v0, vs0, d0, ds0, p0, q0, hargs, rfl, rfl, h0, r0⟩ := trodAll_cons hA
  obtain ⟨rfl, rfl, rfl⟩ := trodAll_nil r0
  obtain rfl : args = #[v0] := by cases args; simp_all
  obtain ⟨rfl, rfl⟩ := trodVars_none hV
  obtain ⟨a0, len0, cap0, rfl⟩ := okWide_slice Yba.underlying22 (hval 0 22 v0 rfl rfl)
  have k0 := h0
  have lt0 : ∀ x ∈ p0, x.block < W.heap.size := by obtain ⟨m, hm⟩ := k0; exact DataW.trod_lt m _ _ _ hm
  obtain ⟨z0, w0⟩ : ∃ zs, IsRow .u8 W a0 len0 cap0 zs := by
    obtain ⟨fuel, hf⟩ := h0
    rcases open_ints Yba.underlying22 Yba.underlying5 (by kernel_rfl) hf with ⟨hcs, _⟩ | ⟨x, l, c, zs, hcs, _, hl, hm, hz, _, hcell, hwz⟩
    · simp [Value.cells] at hcs
      obtain ⟨rfl, rfl, rfl⟩ := hcs
      exact ⟨[], .inl ⟨rfl, rfl, rfl, rfl⟩⟩
    · simp [Value.cells] at hcs
      obtain ⟨rfl, rfl, rfl⟩ := hcs
      exact ⟨zs, .inr ⟨_, rfl, hl, hm, by simpa using hz, hcell, hwz⟩⟩
  clear hA0 hval0
  refine (walk a0 len0 cap0 z0 W w0).mono fun e W' ⟨he, bel⟩ => ?_
  subst he
  exact ⟨_, rfl, _, _, _, [], _, [], hW', trodAll_mk1 (shut_bool Yba.underlying4 _), (trodAll_cons_mk (Below.trod laidOut (by kernel_rfl) (of_decide_eq_true (by kernel_rfl)) k0 bel lt0) trodAll_mk0), rfl, bel.frame _, fun h => by cases h⟩

theorem over : Rows.lawS3079BModelRow.holds Yba.pinned (OpenSpec.ofChange Rows.lawS3079BModelSpec) :=
  OpenClaim.holds_of_wide 3 Yba.f3 rfl rfl rfl rfl rfl rfl rfl ⟨rfl, rfl, rfl, rfl, rfl⟩ rfl rfl rfl rfl rfl (by kernel_rfl) Yba.func3 (by kernel_rfl)
    (of_decide_eq_true (by kernel_rfl)) (by unfold Func.isWrapper; first | (rw [if_pos (by decide +kernel)]; kernel_rfl) | (rw [if_neg (by decide +kernel)]; exact ⟨rfl, rfl⟩))
    (fun os started H enc _ => lifted os started H enc)

/-- ████ THE STATEMENT ████ -/
theorem proved : Rows.LawS3079BModelSaid := over
end Go.Proofs.Ybulkbksy.BModel
