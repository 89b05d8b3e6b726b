/-
  '(*localsIndex).build' of a set that stands over another.
-/
import Derived.Test.YbulkbkskGrp
import Derived.Test.YbulkbkskIdx
import Derived.Deep.RegionHeld3
namespace Go.Proofs.Ybulkbksk
open Go.RowKit Go.Maps
set_option linter.unusedVariables false

/-- While the names are gathered by principals. -/
structure Ovr (w : World) (L b r M base : Nat) (cur : Array Value) (ks done : List (Int × Int)) (cnt : Nat) (wr : World) : Prop where
  rng : Rng wr b r ks done cnt
  fr : Same [L] w wr
  hL : At wr L cur 66
  gr : Gr wr M base done.length done
  lts : L < w.heap.size ∧ b < w.heap.size ∧ w.heap.size ≤ M ∧ M < base ∧ r < base ∧ r ≠ M ∧ base ≤ wr.heap.size ∧ w.heap.size ≤ r

theorem grown_of_same {w w' : World} {r : Nat} (h : Same [r] w w') : w.grownBy w' (some r) := ⟨h.os, h.tape, h.output, h.size, fun k hk hne => h.block k hk (by simpa using hne)⟩

theorem Ovr.step {w wr w3 w5 : World} {L b r M base p : Nat} {a : Int} {cur : Array Value} {ks done : List (Int × Int)} {cnt cnt' : Nat} (h : Ovr w L b r M base cur ks done cnt wr)
    (hr : Rng w3 b r ks (done ++ [((p : Int), a)]) cnt') (hs : Same [r] wr w3) (o : Obj) (hg : Gr w5 M base (done.length + 1) (done ++ [((p : Int), a)])) (hf : FrG base M (w3.alloc o) w5) :
    Ovr w L b r M base cur ks (done ++ [((p : Int), a)]) cnt' w5 := by
  obtain ⟨l1, l2, l3, l4, l5, l6, l7, l8⟩ := h.lts
  have hb3 : ∀ k, k < base → k ≠ M → w5.heap[k]? = w3.heap[k]? := fun k hk hM => (hf.block k hk hM).trans (Below.heap_alloc _ _ _ (by have := hs.size; omega))
  have hL3 : At w3 L cur 66 := hs.at_ h.hL (by simpa using Ne.symm (h.rng.at_ne h.hL).2)
  refine ⟨hr.keep (hb3 b (by omega) (by omega)) (hb3 r l5 l6), ?_, hL3.ofBlock (hb3 L (by omega) (by omega)), by simpa using hg, l1, l2, l3, l4, l5, l6, ?_, l8⟩
  · refine ⟨hf.os.trans (hs.os.trans h.fr.os), hf.tape.trans (hs.tape.trans h.fr.tape), hf.output.trans (hs.output.trans h.fr.output), ?_, fun k hk hn => ?_⟩
    · have := h.fr.size
      have := hs.size
      have := hf.size
      simp at this
      omega
    · rw [hb3 k (by omega) (by omega), hs.block k (Nat.lt_of_lt_of_le hk h.fr.size) (by intro hm; simp at hm; omega)]
      exact h.fr.block k hk hn
  · have := hs.size
    have := hf.size
    simp at this
    omega

/-- What 'build' leaves of a set over another. -/
def IdxO (L B : Nat) (cur : Array Value) (ks : List (Int × Int)) (w : World) : Prop :=
  ∃ M base n done, done.Perm ks ∧ At w L (cur.setIfInBounds 12 (.map (some M))) 66 ∧ Gr w M base n done ∧ B ≤ M ∧ B ≤ base ∧ L < base ∧ n ≤ 1024

set_option maxRecDepth 100000 in
set_option maxHeartbeats 4000000 in
theorem idx_over (C L b U : Nat) (cur : Array Value) (ks : List (Int × Int)) (w : World)
    (hC0 : w.cell? ⟨C, 0, none⟩ = some (.pointer (some ⟨U, 0, none⟩))) (hC14 : w.cell? ⟨C, 14, none⟩ = some (.map (some b))) (hCL : C ≠ L)
    (hL : At w L cur 66) (hLs : cur.size = 16) (hK : KMap w b ks) (hp : ∀ x ∈ ks, 0 ≤ x.1 ∧ x.1 < 1000) (hk : ks.length ≤ 1024) :
    Calls Yba.prog 26 #[.pointer (some ⟨L, 10, none⟩), .pointer (some ⟨C, 0, none⟩)] w fun e w' => e = .returned (.tuple #[]) ∧ Same [L] w w' ∧ IdxO L w.heap.size cur ks w' := by
  have hmm := @run_makeMap Yba.prog
  have hwf := hK.wf
  have hal : Same [] w (w.alloc (Obj.map #[] 0)) := (Same.refl _ _).alloc _
  have hL0 := hal.at_ hL (by simp)
  obtain ⟨v12, hv12⟩ : ∃ v, cur[12]? = some v := ⟨cur[12]'(by omega), by simp [hLs]⟩
  have hl12 : (w.alloc (Obj.map #[] 0)).cell? ⟨L, 12, none⟩ = some v12 := by rw [hL0.cell]; exact hv12
  have hf12 := hL0.free 12
  have hc14 := hal.cell hC14 (by simp)
  have hKl := hK.lt
  have hLl := hL.lt
  have HK1 : Hid (KMap ((w.alloc (Obj.map #[] 0)).setCell ⟨L, 12, none⟩ (.map (some w.heap.size))) b ks) := (hK.alloc _).setCell hL0 _
  have HL1 : Hid (At ((w.alloc (Obj.map #[] 0)).setCell ⟨L, 12, none⟩ (.map (some w.heap.size))) L (cur.setIfInBounds 12 (.map (some w.heap.size))) 66 ∧ Same [L] w ((w.alloc (Obj.map #[] 0)).setCell ⟨L, 12, none⟩ (.map (some w.heap.size))) ∧ ((w.alloc (Obj.map #[] 0)).setCell ⟨L, 12, none⟩ (.map (some w.heap.size))).heap[w.heap.size]? = some (.map #[] 0) ∧ cur.size = 16) :=
    ⟨hL0.set 12 _, (hal.mono (by simp)).setCell (.inl (by simp)) _, by rw [Below.heap_setCell _ _ _ _ (by show w.heap.size ≠ L; omega)]; exact heap_alloc_new _ _, hLs⟩
  have HP : Hid ((∀ x ∈ ks, 0 ≤ x.1 ∧ x.1 < 1000) ∧ (∀ x ∈ ks, wf32 x.1 ∧ wf32 x.2) ∧ ks.Nodup ∧ L < w.heap.size ∧ b < w.heap.size ∧ cur.size = 16) := ⟨hp, hwf, hK.nodup, hLl, hKl, hLs⟩
  clear hp hwf hK hL hLs hL0 hal hv12 hKl hLl
  go_enter Yba.func26, Yba.ntmps26
  go_wp2_with (at_range; refine wpList_range_k _ rfl (.tmp 21) rfl b ks rfl HK1.out (by unfold maxLen; omega) ?_)
  intro w2 hr2 hs2 hsz2
  have HO : Hid (Ovr w L b (w.heap.size + 1) w.heap.size (w.heap.size + 2) (cur.setIfInBounds 12 (.map (some w.heap.size))) ks [] ks.length w2) := by
    have e1 : ((w.alloc (Obj.map #[] 0)).setCell ⟨L, 12, none⟩ (.map (some w.heap.size))).heap.size = w.heap.size + 1 := by simp
    obtain ⟨k1, k2, k3, k4⟩ := HL1.out
    refine ⟨hr2, k2.comp hs2 (by simp), hs2.at_ k1 (by simp), Gr.empty ((hs2.block _ (by rw [e1]; omega) (by simp)).trans k3) (by omega), HP.out.2.2.2.1, HP.out.2.2.2.2.1, Nat.le_refl _, by omega, by omega, by omega, by omega, by omega⟩
  clear hr2 hs2 hsz2 HK1 hl12 hf12 hc14 hC0 hC14
  clear HL1 hmm
  generalize hM : w.heap.size = M at HO ⊢
  go_wp2_with fail
  go_loopg [4] ks.length (fun q _ wr => ∃ done, Ovr w L b (M + 1) M (M + 2) (cur.setIfInBounds 12 (.map (some M))) ks done q wr)
  case atStart => exact ⟨[], HO.out⟩
  case round =>
    clear HO
    obtain ⟨done, ho⟩ := hrel
    have H : Hid _ := ho
    clear ho
    go_wp2_with (at_next; refine wpList_next_k _ rfl (.tmp 22) rfl b (M + 1) _ ks done rfl H.out.rng ?_ ?_)
    · intro hall
      go_wp2_with fail
      refine bodyPost_ret (results_none rfl _ _ _) rfl ?_
      obtain ⟨f1, f2⟩ := H.out.rng.facts
      have hperm := full_perm f1 HP.out.2.2.1 f2 (fun x hx => hall x.1 x.2 hx)
      exact ⟨rfl, H.out.fr, M, M + 2, done.length, done, hperm, H.out.hL, H.out.gr, by omega, by omega, by have := HP.out.2.2.2.1; omega, by rw [hperm.length_eq]; exact hk⟩
    · intro p0 a v w3 cnt3 hin hnot hr3 hlt3 hs3 hsz3 hent
      obtain ⟨hp0, hp1⟩ := HP.out.1 _ hin
      obtain ⟨p, rfl⟩ : ∃ p : Nat, p0 = (p : Int) := ⟨p0.toNat, by simp only at hp0; omega⟩
      have hpn : p ≤ 1000 := by simp only at hp1; omega
      have hwa : wf32 a := (HP.out.2.1 _ hin).2
      have hdl : done.length ≤ 1024 := Nat.le_trans (len_le_of_sub H.out.rng.facts.1 H.out.rng.facts.2) hk
      obtain ⟨l1, l2, l3, l4, l5, l6, l7, l8⟩ := H.out.lts
      have hL3 : At w3 L _ 66 := hs3.at_ H.out.hL (by simpa using Ne.symm (H.out.rng.at_ne H.out.hL).2)
      have hg3 : Gr w3 M (M + 2) done.length done := H.out.gr.kept (grown_of_same hs3) (by simp) (by intro j hj; simp at hj; omega)
      have hna := At.new w3 #[Value.int IntKind.i32 p, Value.int IntKind.i32 a] 109
      have hk1 : (w3.alloc (Obj.cells #[Value.int IntKind.i32 p, Value.int IntKind.i32 a] 109)).cell? ⟨w3.heap.size, 0, none⟩ = some (.int .i32 p) := by rw [hna.cell]; rfl
      have hk2 : (w3.alloc (Obj.cells #[Value.int IntKind.i32 p, Value.int IntKind.i32 a] 109)).cell? ⟨w3.heap.size, 1, none⟩ = some (.int .i32 a) := by rw [hna.cell]; rfl
      have hl12 : (w3.alloc (Obj.cells #[Value.int IntKind.i32 p, Value.int IntKind.i32 a] 109)).cell? ⟨L, 12, none⟩ = some (.map (some M)) := by
        rw [(hL3.alloc _).cell]
        exact Array.getElem?_setIfInBounds_self_of_lt (by have := HP.out.2.2.2.2.2; omega)
      have hatL0 : At (w3.alloc (Obj.cells #[Value.int IntKind.i32 p, Value.int IntKind.i32 a] 109)) L (cur.setIfInBounds 12 (.map (some M))) 66 := hL3.alloc _
      have hatH0 : At (w3.alloc (Obj.cells #[Value.int IntKind.i32 p, Value.int IntKind.i32 a] 109)) w3.heap.size #[Value.int IntKind.i32 p, Value.int IntKind.i32 a] 109 := hna
      have hgW := hg3.alloc (Obj.cells #[Value.int IntKind.i32 p, Value.int IntKind.i32 a] 109)
      have hsW : M + 2 ≤ (w3.alloc (Obj.cells #[Value.int IntKind.i32 p, Value.int IntKind.i32 a] 109)).heap.size := by simp; omega
      unfold kv at hent ⊢
      have H3 : Hid _ := And.intro hr3 hs3
      clear hr3 hs3 hL3 hin hnot hp0 hp1 hna hsz3 l1 l2 l3 l4 l5 l6 l7 l8 hg3
      go_wp2_with fail
      generalize hW : w3.alloc (Obj.cells #[Value.int IntKind.i32 p, Value.int IntKind.i32 a] 109) = W3 at hk1 hk2 hl12 hgW hsW hatL0 hatH0 ⊢
      have HW : Hid (w3.alloc (Obj.cells #[Value.int IntKind.i32 p, Value.int IntKind.i32 a] 109) = W3) := hW
      clear hW
      have hsO : Same [] W3 (W3.alloc (Obj.cells #[Value.int IntKind.i32 a] 21)) := (Same.refl _ _).alloc _
      have hk1' := hsO.cell hk1 (by simp)
      have hk2' := hsO.cell hk2 (by simp)
      have hl12' := hsO.cell hl12 (by simp)
      have hgA : Gr W3.drew M (M + 2) done.length done := hgW
      have hgB : Gr (W3.alloc (Obj.cells #[Value.int IntKind.i32 a] 21)).drew M (M + 2) done.length done := hgW.alloc _
      have hHH : (W3.alloc (Obj.cells #[Value.int IntKind.i32 a] 21)).drew.heap[W3.heap.size]? = some (.cells #[.int .i32 a] 21 (0, 0)) := heap_alloc_new W3 _
      have hgrA : W3.drew.grownBy (W3.alloc (Obj.cells #[Value.int IntKind.i32 a] 21)).drew none := World.grownBy_alloc W3.drew _ none
      have hgrB : (W3.alloc (Obj.cells #[Value.int IntKind.i32 a] 21)).drew.grownBy (W3.alloc (Obj.cells #[Value.int IntKind.i32 a] 21)).drew none := ⟨rfl, rfl, rfl, Nat.le_refl _, fun _ _ _ => rfl⟩
      obtain ⟨v1, hlA, hoA, hnA, DA, hbA, hDA, hD3A⟩ := hgA.look hpn (by omega)
      obtain ⟨v2, hlB, hoB, hnB, DB, hbB, hDB, hD3B⟩ := hgB.look hpn (by omega)
      obtain ⟨x1, w4a, w5a, hapA, hupA, hgrdA, hfrA, hotA⟩ := Gr.back (w := W3.drew) (M := M) hpn hwa (by omega) (by omega) hsW hgA.isMap hoA hnA hbA hDA hD3A hgrA hHH 59
      obtain ⟨x2, w4b, w5b, hapB, hupB, hgrdB, hfrB, hotB⟩ := Gr.back (w := (W3.alloc (Obj.cells #[Value.int IntKind.i32 a] 21)).drew) (M := M) hpn hwa (by omega) (by omega) (Nat.le_trans hsW (by simp)) hgB.isMap hoB hnB hbB hDB hD3B hgrB hHH 59
      have HA : Hid (Gr w5a M (M + 2) (done.length + 1) (done ++ [((p : Int), a)]) ∧ FrG (M + 2) M W3.drew w5a) := ⟨hgrdA, hfrA⟩
      have HB : Hid (Gr w5b M (M + 2) (done.length + 1) (done ++ [((p : Int), a)]) ∧ FrG (M + 2) M (W3.alloc (Obj.cells #[Value.int IntKind.i32 a] 21)).drew w5b ∧ M + 2 ≤ W3.heap.size) := ⟨hgrdB, hfrB, hsW⟩
      have cf : ∀ {w' : World} {g o : Nat} {cs : Array Value} {e : TypeId} {v : Value}, At W3 g cs e → w'.heap[g]? = W3.heap[g]? → W3.cell? ⟨g, o, none⟩ = some v → w'.cell? ⟨g, o, none⟩ = some v := fun h1 h2 h3 => (World.cell?_of_block h2).trans h3
      have hoB' : ∀ {g : Nat}, g < W3.heap.size → (W3.alloc (Obj.cells #[Value.int IntKind.i32 a] 21)).drew.heap[g]? = W3.heap[g]? := fun h => Below.heap_alloc W3 _ _ h
      have a1 := hotA L _ 66 hatL0 (by decide)
      have a2 := hotA w3.heap.size _ 109 hatH0 (by decide)
      have b1 := hotB L _ 66 ((hoB' hatL0.lt).trans hatL0) (by decide)
      have b2 := hotB w3.heap.size _ 109 ((hoB' hatH0.lt).trans hatH0) (by decide)
      have s4a : w4a.cell? ⟨L, 12, none⟩ = some (.map (some M)) ∧ w4a.cell? ⟨w3.heap.size, 0, none⟩ = some (.int .i32 p) ∧ w4a.cell? ⟨w3.heap.size, 1, none⟩ = some (.int .i32 a) := ⟨cf hatL0 a1.1 hl12, cf hatH0 a2.1 hk1, cf hatH0 a2.1 hk2⟩
      have s5a : w5a.cell? ⟨L, 12, none⟩ = some (.map (some M)) ∧ w5a.cell? ⟨w3.heap.size, 0, none⟩ = some (.int .i32 p) ∧ w5a.cell? ⟨w3.heap.size, 1, none⟩ = some (.int .i32 a) := ⟨cf hatL0 a1.2 hl12, cf hatH0 a2.2 hk1, cf hatH0 a2.2 hk2⟩
      have s4b : w4b.cell? ⟨L, 12, none⟩ = some (.map (some M)) ∧ w4b.cell? ⟨w3.heap.size, 0, none⟩ = some (.int .i32 p) ∧ w4b.cell? ⟨w3.heap.size, 1, none⟩ = some (.int .i32 a) := ⟨cf hatL0 (b1.1.trans (hoB' hatL0.lt)) hl12, cf hatH0 (b2.1.trans (hoB' hatH0.lt)) hk1, cf hatH0 (b2.1.trans (hoB' hatH0.lt)) hk2⟩
      have s5b : w5b.cell? ⟨L, 12, none⟩ = some (.map (some M)) ∧ w5b.cell? ⟨w3.heap.size, 0, none⟩ = some (.int .i32 p) ∧ w5b.cell? ⟨w3.heap.size, 1, none⟩ = some (.int .i32 a) := ⟨cf hatL0 (b1.2.trans (hoB' hatL0.lt)) hl12, cf hatH0 (b2.2.trans (hoB' hatH0.lt)) hk1, cf hatH0 (b2.2.trans (hoB' hatH0.lt)) hk2⟩
      have HAp : Hid ((Builtin.append_ #[59, 59] 59 #[v1, .slice (some ⟨W3.heap.size, 0, none⟩) 1 1]).run Yba.prog (W3.alloc (Obj.cells #[Value.int IntKind.i32 a] 21)).drew = .ok x1 w4a ∧ (Builtin.append_ #[59, 59] 59 #[v2, .slice (some ⟨W3.heap.size, 0, none⟩) 1 1]).run Yba.prog (W3.alloc (Obj.cells #[Value.int IntKind.i32 a] 21)).drew = .ok x2 w4b) := ⟨hapA, hapB⟩
      have HS : Hid ((w4a.cell? ⟨L, 12, none⟩ = some (.map (some M)) ∧ w4a.cell? ⟨w3.heap.size, 0, none⟩ = some (.int .i32 p) ∧ w4a.cell? ⟨w3.heap.size, 1, none⟩ = some (.int .i32 a)) ∧ (w5a.cell? ⟨L, 12, none⟩ = some (.map (some M)) ∧ w5a.cell? ⟨w3.heap.size, 0, none⟩ = some (.int .i32 p) ∧ w5a.cell? ⟨w3.heap.size, 1, none⟩ = some (.int .i32 a)) ∧ (w4b.cell? ⟨L, 12, none⟩ = some (.map (some M)) ∧ w4b.cell? ⟨w3.heap.size, 0, none⟩ = some (.int .i32 p) ∧ w4b.cell? ⟨w3.heap.size, 1, none⟩ = some (.int .i32 a)) ∧ (w5b.cell? ⟨L, 12, none⟩ = some (.map (some M)) ∧ w5b.cell? ⟨w3.heap.size, 0, none⟩ = some (.int .i32 p) ∧ w5b.cell? ⟨w3.heap.size, 1, none⟩ = some (.int .i32 a)) ∧ (W3.cell? ⟨L, 12, none⟩ = some (.map (some M)) ∧ W3.cell? ⟨w3.heap.size, 0, none⟩ = some (.int .i32 p) ∧ W3.cell? ⟨w3.heap.size, 1, none⟩ = some (.int .i32 a)) ∧ ((W3.alloc (Obj.cells #[Value.int IntKind.i32 a] 21)).cell? ⟨L, 12, none⟩ = some (.map (some M)) ∧ (W3.alloc (Obj.cells #[Value.int IntKind.i32 a] 21)).cell? ⟨w3.heap.size, 0, none⟩ = some (.int .i32 p) ∧ (W3.alloc (Obj.cells #[Value.int IntKind.i32 a] 21)).cell? ⟨w3.heap.size, 1, none⟩ = some (.int .i32 a))) := ⟨s4a, s5a, s4b, s5b, ⟨hl12, hk1, hk2⟩, ⟨hl12', hk1', hk2'⟩⟩
      clear hgrdA hfrA hgrdB hfrB hoA hnA hbA hDA hD3A hoB hnB hbB hDB hD3B hgA hgB hgW hHH hgrA hgrB hsO hotA hotB a1 a2 b1 b2 s4a s5a s4b s5b hapA hapB cf hoB' hatL0 hatH0
      generalize hH0 : w3.heap.size = H0 at *
      clear hH0
      go_region_held3 (fun w' => w'.cell? ⟨L, 12, none⟩ = some (.map (some M)) ∧ w'.cell? ⟨H0, 0, none⟩ = some (.int .i32 p) ∧ w'.cell? ⟨H0, 1, none⟩ = some (.int .i32 a))
        (first | exact HS.out.1 | exact HS.out.2.1 | exact HS.out.2.2.1 | exact HS.out.2.2.2.1 | exact HS.out.2.2.2.2.1 | exact HS.out.2.2.2.2.2)
        (first
          | (refine step_append_eq rfl (.tmp 39) (.tmp 42) rfl v1 (.slice (some ⟨W3.heap.size, 0, none⟩) 1 1) x1 w4a rfl rfl HAp.out.1 ?_)
          | (refine step_append_eq rfl (.tmp 39) (.tmp 42) rfl v2 (.slice (some ⟨W3.heap.size, 0, none⟩) 1 1) x2 w4b rfl rfl HAp.out.2 ?_))
      · go_wp2_with fail
        go_roundg cnt3
        case measure => omega
        case rel =>
          obtain ⟨hg5, hf5⟩ := HA.out
          refine ⟨done ++ [((p : Int), a)], H.out.step H3.out.1 H3.out.2 (Obj.cells #[Value.int IntKind.i32 p, Value.int IntKind.i32 a] 109) hg5 ?_⟩
          rw [HW.out]
          exact ⟨hf5.os, hf5.tape, hf5.output, hf5.size, hf5.block⟩
      · go_wp2_with fail
        go_roundg cnt3
        case measure => omega
        case rel =>
          obtain ⟨hg5, hf5, hle⟩ := HB.out
          refine ⟨done ++ [((p : Int), a)], H.out.step H3.out.1 H3.out.2 (Obj.cells #[Value.int IntKind.i32 p, Value.int IntKind.i32 a] 109) hg5 ?_⟩
          rw [HW.out]
          exact ⟨hf5.os, hf5.tape, hf5.output, Nat.le_trans (by simp) hf5.size, fun k hk hM => (hf5.block k hk hM).trans (Below.heap_alloc W3 _ _ (by omega))⟩
end Go.Proofs.Ybulkbksk
