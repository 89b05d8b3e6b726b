/-
  '(*localsIndex).build' of a set that stands over none.
-/
import Derived.Test.YbulkbkskIdx
namespace Go.Proofs.Ybulkbksk
open Go.RowKit
set_option linter.unusedVariables false

theorem size21 : (Yba.prog.info? 21).map (·.size) = some 1 := by kernel_rfl

/-- 'copy(next, starts)'. -/
theorem copy_ints {w : World} {gn gs n : Nat} {f0 f : Nat → Int} (h1 : Ints w gn n f0) (h2 : Ints w gs (n + 1) f) (ty : TypeId) :
    ∃ w', (Builtin.copy_ #[59, 59] ty #[.slice (some ⟨gn, 0, none⟩) n n, .slice (some ⟨gs, 0, none⟩) (n + 1) (n + 1)]).run Yba.prog w = .ok (.int .i64 n) w' ∧ Ints w' gn n f ∧ Same [gn] w w' := by
  obtain ⟨cur, ha, hsz, _⟩ := h1
  have hl : ((List.range n).map fun i => Value.int .i32 (f i)).length = n := by simp
  have hrun := run_copy_row (P := Yba.prog) w 59 59 ty 21 gn 0 n n ⟨gs, 0, none⟩ (n + 1) (n + 1) cur 21 ((List.range n).map fun i => Value.int .i32 (f i)) Yba.underlying59 size21 ha (by rw [hl]; exact (Nat.min_eq_right (by omega)).symm) (by
    intro j v hv
    have hj : j < n := by have := (List.getElem?_eq_some_iff.1 hv).1; rw [hl] at this; exact this
    rw [Addr.add_lit, Nat.zero_add, h2.cell (by omega)]
    simp [hj] at hv
    rw [hv]) (by rw [hl]; omega) (by
    intro v hv
    obtain ⟨i, _, rfl⟩ := List.mem_map.1 hv
    rfl)
  rw [hl] at hrun
  refine ⟨_, hrun, ⟨_, setRow_heap w gn cur _ 21 (0, 0) ha, by simp [hsz], fun i hi => ?_⟩, ⟨rfl, rfl, rfl, by simp [World.setRow], fun k _ hk => setRow_other w gn k _ (by simpa using hk)⟩⟩
  simp [List.getElem?_append, hi]

set_option maxRecDepth 100000 in
set_option maxHeartbeats 4000000 in
theorem idx_alone (C L b n pc : Nat) (pa : Option Addr) (cur : Array Value) (ks : List (Int × Int)) (w : World)
    (hC0 : w.cell? ⟨C, 0, none⟩ = some (.pointer none)) (hC6 : w.cell? ⟨C, 6, none⟩ = some (.slice pa n pc)) (hC14 : w.cell? ⟨C, 14, none⟩ = some (.map (some b))) (hCL : C ≠ L)
    (hL : At w L cur 66) (hLs : cur.size = 16) (hK : KMap w b ks) (hp : ∀ x ∈ ks, 0 ≤ x.1 ∧ x.1 < (n : Int)) (hn : n ≤ 8) (hk : ks.length ≤ 1024) :
    Calls Yba.prog 26 #[.pointer (some ⟨L, 10, none⟩), .pointer (some ⟨C, 0, none⟩)] w fun e w' => e = .returned (.tuple #[]) ∧ Same [L] w w' ∧ ∃ gs ga, w.heap.size ≤ gs ∧ w.heap.size ≤ ga ∧ Idx L n gs ga cur ks w' := by
  obtain ⟨i21, hi21, hz0, hz1, hz2⟩ := info_parts info21'
  have HK : Hid (KMap w b ks) := hK
  have HL : Hid (At w L cur 66 ∧ cur.size = 16) := ⟨hL, hLs⟩
  have HC : Hid (C ≠ L ∧ C < w.heap.size) := ⟨hCL, World.block_lt_of_cell? w _ hC0⟩
  have HP : Hid (∀ x ∈ ks, 0 ≤ x.1 ∧ x.1 < (n : Int)) := hp
  clear hp hK hL hLs hCL
  go_enter Yba.func26, Yba.ntmps26
  go_wp2_with (at_make; refine wpList_make_at _ rfl (.tmp 50) (.tmp 50) 59 rfl 21 i21 (.int .i32 0) Yba.underlying59 hi21 hz0 hz1 rfl .i64 .i64 _ _ (n + 1) (n + 1) rfl rfl (by omega) (by omega) (Nat.le_refl _) (by rw [hz2]; omega) (by unfold maxLen; omega) ?_)
  intro w1 h1 hs1 hsz1
  obtain ⟨gs, hgs⟩ : ∃ g, g = w.heap.size := ⟨_, rfl⟩
  rw [← hgs] at h1 ⊢
  have HG : Hid (w.heap.size ≤ gs) := Nat.le_of_eq hgs.symm
  have hL1 : At w1 L cur 66 := hs1.at_ HL.out.1 (by simp)
  obtain ⟨v10, hv10⟩ : ∃ v, cur[10]? = some v := ⟨cur[10]'(by have := HL.out.2; omega), by simp [HL.out.2]⟩
  have hl10 : w1.cell? ⟨L, 10, none⟩ = some v10 := by rw [hL1.cell]; exact hv10
  have hf10 := hL1.free 10
  have hc14 : w1.cell? ⟨C, 14, none⟩ = some (.map (some b)) := hs1.cell hC14 (by simp)
  have hCL := HC.out.1
  have HK1 : Hid (KMap (w1.setCell ⟨L, 10, none⟩ (.slice (some ⟨gs, 0, none⟩) (n + 1) (n + 1))) b ks) := (HK.out.keep (hs1.block b HK.out.lt (by simp))).setCell hL1 _
  have HI1 : Hid (Ints w1 gs (n + 1) (fun _ => 0)) := Ints.new h1
  have HL1 : Hid (At w1 L cur 66) := hL1
  have HS1 : Hid (Same [] w w1) := hs1
  clear hgs hL1 hv10 h1 hs1 hsz1
  go_wp2_with (at_range; refine wpList_range_k _ rfl (.tmp 57) rfl b ks rfl HK1.out (by unfold maxLen; omega) ?_)
  intro w2 hr2 hs2 hsz2
  have HC2 : Hid (Cnt w L b n w1.heap.size gs (cur.setIfInBounds 10 (.slice (some ⟨gs, 0, none⟩) (n + 1) (n + 1))) ks [] ks.length w2) := by
    have hne : L ≠ gs := by obtain ⟨c, hc⟩ := HI1.out.at_; exact HL1.out.ne hc (by decide)
    refine ⟨hr2, ?_, hs2.at_ (HL1.out.set 10 _) (by simp), (((HI1.out.other (Ne.symm hne) _).same hs2 (by simp)).congr fun i hi => by simp [cn]), HG.out, HS1.out.size⟩
    exact (((HS1.out.mono (S' := [L]) (by simp)).setCell (.inl (by simp)) _).comp hs2 (by simp))
  generalize w1.heap.size = r at HC2 ⊢
  clear hr2 hs2 hsz2 HK1 HI1 HL1 HS1 hl10 hf10 hc14 v10 hC0
  go_wp2_with fail
  go_loopg [5] ks.length (fun q _ wr => ∃ done, Cnt w L b n r gs (cur.setIfInBounds 10 (.slice (some ⟨gs, 0, none⟩) (n + 1) (n + 1))) ks done q wr)
  case atStart => exact ⟨[], HC2.out⟩
  case round =>
    clear HC2
    obtain ⟨done, hc⟩ := hrel
    have H : Hid _ := hc
    clear hc
    go_wp2_with (at_next; refine wpList_next_k _ rfl (.tmp 58) rfl b r _ ks done rfl H.out.rng ?_ ?_)
    · intro hall
      have HE : Hid (Pre w L n gs (cur.setIfInBounds 10 (.slice (some ⟨gs, 0, none⟩) (n + 1) (n + 1))) ks 1 wr) := H.out.pre HK.out.nodup (fun x hx => hall x.1 x.2 hx) (fun x hx => (HP.out x hx).1)
      clear hall H
      generalize wr = w4 at HE ⊢
      clear wr done
      go_wp2_with fail
      go_loopg [6] n (fun q i wr => ∃ j : Nat, j + q = n + 1 ∧ 1 ≤ j ∧ i = .int .i64 j ∧ Pre w L n gs (cur.setIfInBounds 10 (.slice (some ⟨gs, 0, none⟩) (n + 1) (n + 1))) ks j wr)
      case atStart => exact ⟨1, by omega, by omega, rfl, HE.out⟩
      case round =>
        clear HE
        obtain ⟨j, hjq, hj1, rfl, hpre⟩ := hrel
        have hl10 : wr.cell? ⟨L, 10, none⟩ = some (.slice (some ⟨gs, 0, none⟩) (n + 1) (n + 1)) := by
          rw [hpre.hL.cell]
          exact Array.getElem?_setIfInBounds_self_of_lt (by have := HL.out.2; omega)
        by_cases hjn : j < n + 1
        · have hcj : wr.cell? ⟨gs, j, none⟩ = some (.int .i32 ((cn (j - 1) ks : Nat) : Int)) := by
            rw [hpre.st.cell hjn, if_neg (by omega)]
          have hcj' : wr.cell? ⟨gs, j - 1, none⟩ = some (.int .i32 ((lo ks (j - 1) : Nat) : Int)) := by
            rw [hpre.st.cell (show j - 1 < n + 1 by omega), if_pos (by omega)]
          have hfj := hpre.st.free j
          have hb1 : cn (j - 1) ks ≤ 1024 := Nat.le_trans (List.length_filter_le _ _) hk
          have hb2 : lo ks (j - 1) ≤ 1024 := Nat.le_trans (lo_le _ _) hk
          have HPre : Hid _ := hpre
          clear hpre
          go_wp2_with fail
          go_region
          go_wp2_with fail
          go_roundg (gk - 1)
          case measure => omega
          case rel => exact ⟨j + 1, by omega, by omega, by go_num, HPre.out.step hj1 rfl⟩
        · obtain rfl : j = n + 1 := by omega
          have hI : Ints wr gs (n + 1) (fun i => ((lo ks i : Nat) : Int)) := hpre.st.congr fun i hi => by rw [if_pos hi]
          have hbL := HK.out.at_ne HL.out.1
          have HK4 : Hid (KMap wr b ks) := HK.out.keep (hpre.fr.block b HK.out.lt (by simpa using hbL))
          have hc14 : wr.cell? ⟨C, 14, none⟩ = some (.map (some b)) := hpre.fr.cell hC14 (by simpa using hCL)
          have hc6 : wr.cell? ⟨C, 6, none⟩ = some (.slice pa n pc) := hpre.fr.cell hC6 (by simpa using hCL)
          have HI : Hid (Ints wr gs (n + 1) (fun i => ((lo ks i : Nat) : Int))) := hI
          have HPre : Hid _ := hpre
          have hlen : Sem.run Yba.prog (Builtin.len_ #[25] 3 #[Value.map (some b)]) wr = .ok (.int .i64 ks.length) wr := by
            obtain ⟨D, hD, hsz, _⟩ := HK4.out.owns (by unfold maxLen; omega)
            have := hD.len (t := 25) Yba.underlying25 3
            rw [hsz] at this
            exact this
          clear hI hpre hbL
          go_wp2_with (first
            | (at_make; refine wpList_make_at _ rfl (.tmp 105) (.tmp 105) 59 rfl 21 i21 (.int .i32 0) Yba.underlying59 hi21 hz0 hz1 rfl .i64 .i64 _ _ ks.length ks.length rfl rfl rfl rfl (Nat.le_refl _) (by rw [hz2]; omega) (by unfold maxLen; omega) ?_))
          intro w5 h5 hs5 hsz5
          obtain ⟨ga, hga⟩ : ∃ g, g = wr.heap.size := ⟨_, rfl⟩
          rw [← hga] at h5 ⊢
          have hL5 := hs5.at_ HPre.out.hL (by simp)
          obtain ⟨v11, hv11⟩ : ∃ v, (cur.setIfInBounds 10 (.slice (some ⟨gs, 0, none⟩) (n + 1) (n + 1)))[11]? = some v := ⟨cur[11]'(by have := HL.out.2; omega), by simp [HL.out.2]⟩
          have hl11 : w5.cell? ⟨L, 11, none⟩ = some v11 := by rw [hL5.cell]; exact hv11
          have hf11 := hL5.free 11
          have hl10' : w5.cell? ⟨L, 10, none⟩ = some (.slice (some ⟨gs, 0, none⟩) (n + 1) (n + 1)) := hs5.cell hl10 (by simp)
          have hc14' : w5.cell? ⟨C, 14, none⟩ = some (.map (some b)) := hs5.cell hc14 (by simp)
          have hc6' : w5.cell? ⟨C, 6, none⟩ = some (.slice pa n pc) := hs5.cell hc6 (by simp)
          have hgs_lt := HI.out.lt
          have HI5 : Hid (Ints w5 gs (n + 1) (fun i => ((lo ks i : Nat) : Int)) ∧ Ints w5 ga ks.length (fun _ => 0) ∧ At w5 L (cur.setIfInBounds 10 (.slice (some ⟨gs, 0, none⟩) (n + 1) (n + 1))) 66 ∧ Same [L] w w5 ∧ KMap w5 b ks ∧ w.heap.size ≤ ga ∧ gs ≠ ga) :=
            ⟨HI.out.same hs5 (by simp), Ints.new h5, hL5, HPre.out.fr.comp hs5 (by simp), HK4.out.keep (hs5.block b HK4.out.lt (by simp)), by rw [hga]; exact HPre.out.fr.size, by omega⟩
          clear hga h5 hs5 hsz5 hL5 hv11 hl10 hc14 hc6 hlen HI HPre HK4 hgs_lt hC6 hC14
          go_wp2_with (at_make; refine wpList_make_at _ rfl (.tmp 113) (.tmp 113) 59 rfl 21 i21 (.int .i32 0) Yba.underlying59 hi21 hz0 hz1 rfl .i64 .i64 _ _ n n rfl rfl rfl rfl (Nat.le_refl _) (by rw [hz2]; omega) (by unfold maxLen; omega) ?_)
          intro w6 h6 hs6 hsz6
          obtain ⟨gn, hgn⟩ : ∃ g, g = w5.heap.size := ⟨_, rfl⟩
          rw [← hgn] at h6 ⊢
          obtain ⟨i1, i2, i3, i4, i5, i6, i7⟩ := HI5.out
          obtain ⟨cs1, hcs1⟩ := i1.at_
          obtain ⟨cs2, hcs2⟩ := i2.at_
          have n1 : gs ≠ L := Ne.symm (i3.ne hcs1 (by decide))
          have n2 : ga ≠ L := Ne.symm (i3.ne hcs2 (by decide))
          have hlt1 := i1.lt
          have hlt2 := i2.lt
          have hl10 : w6.cell? ⟨L, 10, none⟩ = some (.slice (some ⟨gs, 0, none⟩) (n + 1) (n + 1)) := hs6.cell (by rw [(i3.set 11 _).cell, Array.getElem?_setIfInBounds_ne (by decide)]; exact Array.getElem?_setIfInBounds_self_of_lt (by have := HL.out.2; omega)) (by simp)
          have hc14 : w6.cell? ⟨C, 14, none⟩ = some (.map (some b)) := hs6.cell (by rw [World.cell?_setCell_other _ _ _ _ (fun e => hCL (by simpa using (congrArg Addr.block e).symm))]; exact hc14') (by simp)
          have HI6 : Hid (Ints w6 gs (n + 1) (fun i => ((lo ks i : Nat) : Int)) ∧ Ints w6 ga ks.length (fun _ => 0) ∧ Ints w6 gn n (fun _ => 0) ∧ At w6 L (LB cur (.slice (some ⟨gs, 0, none⟩) (n + 1) (n + 1)) (.slice (some ⟨ga, 0, none⟩) ks.length ks.length)) 66 ∧ Same [L] w w6 ∧ KMap w6 b ks ∧ w.heap.size ≤ ga ∧ w.heap.size ≤ gn ∧ (gs ≠ ga ∧ gs ≠ gn ∧ ga ≠ gn)) :=
            ⟨(i1.other n1 _).same hs6 (by simp), (i2.other n2 _).same hs6 (by simp), Ints.new h6, hs6.at_ (i3.set 11 _) (by simp), ((i4.setCell (.inl (by simp)) _).comp hs6 (by simp)), (i5.setCell i3 _).keep (hs6.block b (i5.setCell i3 _).lt (by simp)), i6, by rw [hgn]; exact i4.size, ⟨i7, by omega, by omega⟩⟩
          clear hgn h6 hs6 hsz6 i1 i2 i3 i4 i5 i6 i7 hcs1 hcs2 n1 n2 hlt1 hlt2 HI5 hl10' hc14' hc6' hl11 hf11
          obtain ⟨w7, hcopy, i7, s7⟩ := copy_ints HI6.out.2.2.1 HI6.out.1 3
          obtain ⟨j1, j2, j3, j4, j5, j6, j7, j8, j9, j10, j11⟩ := HI6.out
          obtain ⟨cs3, hcs3⟩ := j3.at_
          have n3 : L ≠ gn := j4.ne hcs3 (by decide)
          have n4 : b ≠ gn := j6.at_ne hcs3
          have n5 : C ≠ gn := by have := HC.out.2; omega
          have hc14' : w7.cell? ⟨C, 14, none⟩ = some (.map (some b)) := s7.cell hc14 (by simpa using n5)
          have HK7 : Hid (KMap w7 b ks) := j6.keep (s7.block b j6.lt (by simpa using n4))
          have HI7 : Hid (Ints w7 gs (n + 1) (fun i => ((lo ks i : Nat) : Int)) ∧ Ints w7 ga ks.length (fun _ => 0) ∧ Ints w7 gn n (fun i => ((lo ks i : Nat) : Int)) ∧ At w7 L (LB cur (.slice (some ⟨gs, 0, none⟩) (n + 1) (n + 1)) (.slice (some ⟨ga, 0, none⟩) ks.length ks.length)) 66 ∧ Same [L] w w7 ∧ w.heap.size ≤ ga ∧ w.heap.size ≤ gn ∧ (gs ≠ ga ∧ gs ≠ gn ∧ ga ≠ gn)) :=
            ⟨j1.same s7 (by simpa using j10), j2.same s7 (by simpa using j11), i7, s7.at_ j4 (by simpa using n3), j5.comp s7 (by simp; omega), j7, j8, ⟨j9, j10, j11⟩⟩
          clear i7 s7 j1 j2 j3 j4 j5 j6 j7 j8 j9 j10 j11 hcs3 n3 n4 n5 HI6 hc14
          go_wp2_with (at_range; refine wpList_range_k _ rfl (.tmp 124) rfl b ks rfl HK7.out (by unfold maxLen; omega) ?_)
          intro w8 hr8 hs8 hsz8
          have HF : Hid (Fil w L b n w7.heap.size gs ga gn (LB cur (.slice (some ⟨gs, 0, none⟩) (n + 1) (n + 1)) (.slice (some ⟨ga, 0, none⟩) ks.length ks.length)) ks [] (fun _ => 0) ks.length w8) := by
            obtain ⟨j1, j2, j3, j4, j5, j7, j8, j9⟩ := HI7.out
            exact ⟨hr8, j5.comp hs8 (by simp), hs8.at_ j4 (by simp), j1.same hs8 (by simp), (j3.same hs8 (by simp)).congr (fun i hi => by simp [cn]), j2.same hs8 (by simp), (fun p hp i z hz => by simp [ats] at hz), ⟨HG.out, j7, j8, j5.size⟩, j9⟩
          generalize w7.heap.size = r4 at HF ⊢
          clear hr8 hs8 hsz8 HI7 HK7 hc14' hcopy hl10
          go_wp2_with fail
          go_loopg [8] ks.length (fun q _ wr => ∃ done fa, Fil w L b n r4 gs ga gn (LB cur (.slice (some ⟨gs, 0, none⟩) (n + 1) (n + 1)) (.slice (some ⟨ga, 0, none⟩) ks.length ks.length)) ks done fa q wr)
          case atStart => exact ⟨[], _, HF.out⟩
          case round =>
            clear HF
            obtain ⟨done, fa, hf⟩ := hrel
            have H : Hid _ := hf
            clear hf
            go_wp2_with (at_next; refine wpList_next_k _ rfl (.tmp 125) rfl b r4 _ ks done rfl H.out.rng ?_ ?_)
            · intro hall
              go_wp2_with fail
              go_end0
              exact ⟨rfl, H.out.fr, gs, ga, H.out.new.1, H.out.new.2.1, H.out.idx HK.out.nodup (fun x hx => hall x.1 x.2 hx)⟩
            · intro p0 a v w9 cnt9 hin hnot hr9 hlt9 hs9 hsz9 hent
              obtain ⟨hp0, hp1⟩ := HP.out _ hin
              obtain ⟨p, rfl⟩ : ∃ p : Nat, p0 = (p : Int) := ⟨p0.toNat, by simp only at hp0; omega⟩
              have hpn : p < n := by simp only at hp1; omega
              have hbd := H.out.bound hin hnot
              obtain ⟨hL9, hst9, hnx9, hat9, hfr9⟩ := H.out.mid hs9
              have hal : Same [] w9 (w9.alloc (Obj.cells #[Value.int IntKind.i32 p, Value.int IntKind.i32 a] 109)) := (Same.refl _ _).alloc _
              have hna := At.new w9 #[Value.int IntKind.i32 p, Value.int IntKind.i32 a] 109
              have hk1 : (w9.alloc (Obj.cells #[Value.int IntKind.i32 p, Value.int IntKind.i32 a] 109)).cell? ⟨w9.heap.size, 0, none⟩ = some (.int .i32 p) := by rw [hna.cell]; rfl
              have hk2 : (w9.alloc (Obj.cells #[Value.int IntKind.i32 p, Value.int IntKind.i32 a] 109)).cell? ⟨w9.heap.size, 1, none⟩ = some (.int .i32 a) := by rw [hna.cell]; rfl
              have hl11 : (w9.alloc (Obj.cells #[Value.int IntKind.i32 p, Value.int IntKind.i32 a] 109)).cell? ⟨L, 11, none⟩ = some (.slice (some ⟨ga, 0, none⟩) ks.length ks.length) := by
                rw [(hL9.alloc _).cell]
                exact Array.getElem?_setIfInBounds_self_of_lt (by have := HL.out.2; simp; omega)
              have hcn := (hnx9.alloc (Obj.cells #[Value.int IntKind.i32 p, Value.int IntKind.i32 a] 109)).cell hpn
              have hfn := (hnx9.alloc (Obj.cells #[Value.int IntKind.i32 p, Value.int IntKind.i32 a] 109)).free p
              have hca := (hat9.alloc (Obj.cells #[Value.int IntKind.i32 p, Value.int IntKind.i32 a] 109)).cell hbd
              have hfa := (hat9.alloc (Obj.cells #[Value.int IntKind.i32 p, Value.int IntKind.i32 a] 109)).free (lo ks p + cn p done)
              have hd3 : ga ≠ gn := H.out.dis.2.2
              obtain ⟨cs1, hcs1⟩ := (hnx9.alloc (Obj.cells #[Value.int IntKind.i32 p, Value.int IntKind.i32 a] 109)).at_
              obtain ⟨cs2, hcs2⟩ := (hat9.alloc (Obj.cells #[Value.int IntKind.i32 p, Value.int IntKind.i32 a] 109)).at_
              have hd4 : w9.heap.size ≠ gn := by have := hnx9.lt; omega
              have hd5 : w9.heap.size ≠ ga := by have := hat9.lt; omega
              unfold kv at hent ⊢
              have H3 : Hid _ := And.intro hr9 (And.intro hs9 (And.intro hin hnot))
              clear hr9 hs9 hL9 hst9 hfr9 hin hnot hp0 hp1 hal hna hsz9 hnx9 hat9 hcs1 hcs2
              go_wp2_with fail
              generalize hW : w9.alloc (Obj.cells #[Value.int IntKind.i32 p, Value.int IntKind.i32 a] 109) = W9 at hk1 hk2 hl11 hcn hfn hca hfa ⊢
              generalize hX : lo ks p + cn p done = X at hcn hca hfa hbd
              have HW : Hid (w9.alloc (Obj.cells #[Value.int IntKind.i32 p, Value.int IntKind.i32 a] 109) = W9 ∧ lo ks p + cn p done = X) := ⟨hW, hX⟩
              clear hW hX
              go_region
              go_wp2_with fail
              go_roundg cnt9
              case measure => omega
              case rel =>
                obtain ⟨e1, e2⟩ := HW.out
                subst e1
                subst e2
                obtain ⟨fa', hfil⟩ := H.out.step H3.out.1 H3.out.2.1 (Obj.cells #[Value.int IntKind.i32 p, Value.int IntKind.i32 a] 109) hpn H3.out.2.2.1 H3.out.2.2.2 rfl
                exact ⟨_, fa', hfil⟩
    · intro p0 a v w3 cnt3 hin hnot hr3 hlt3 hs3 hsz3 hent
      obtain ⟨hp0, hp1⟩ := HP.out _ hin
      obtain ⟨p, rfl⟩ : ∃ p : Nat, p0 = (p : Int) := ⟨p0.toNat, by simp only at hp0; omega⟩
      have hpn : p < n := by simp only at hp1; omega
      obtain ⟨hL3, hst3, hfr3⟩ := H.out.cellS hs3
      have hl10 : w3.cell? ⟨L, 10, none⟩ = some (.slice (some ⟨gs, 0, none⟩) (n + 1) (n + 1)) := by
        rw [hL3.cell]
        exact Array.getElem?_setIfInBounds_self_of_lt (by have := HL.out.2; omega)
      have hc3 : w3.cell? ⟨gs, p + 1, none⟩ = some (.int .i32 ((cn p done : Nat) : Int)) := by
        have := hst3.cell (i := p + 1) (by omega)
        simpa using this
      have hf3 := hst3.free (p + 1)
      have hal : Same [] w3 (w3.alloc (Obj.cells #[Value.int IntKind.i32 p, Value.int IntKind.i32 a] 109)) := (Same.refl _ _).alloc _
      have hna := At.new w3 #[Value.int IntKind.i32 p, Value.int IntKind.i32 a] 109
      have hk1 : (w3.alloc (Obj.cells #[Value.int IntKind.i32 p, Value.int IntKind.i32 a] 109)).cell? ⟨w3.heap.size, 0, none⟩ = some (.int .i32 p) := by rw [hna.cell]; rfl
      have hl10' := hal.cell hl10 (by simp)
      have hc3' := hal.cell hc3 (by simp)
      have hf3' : (w3.alloc (Obj.cells #[Value.int IntKind.i32 p, Value.int IntKind.i32 a] 109)).frozen? ⟨gs, p + 1, none⟩ = false := (hst3.alloc _).free _
      have hcb : cn p done ≤ 1024 := Nat.le_trans (cn_le (p := p) H.out.rng.facts.1 H.out.rng.facts.2) (Nat.le_trans (List.length_filter_le _ _) hk)
      unfold kv at hent ⊢
      have H3 : Hid _ := And.intro hr3 hs3
      clear hr3 hs3 hL3 hst3 hfr3 hin hnot hp0 hp1 hl10 hc3 hf3 hal hna hsz3
      go_wp2_with fail
      generalize hW : w3.alloc (Obj.cells #[Value.int IntKind.i32 p, Value.int IntKind.i32 a] 109) = W3 at hk1 hl10' hc3' hf3' ⊢
      have HW : Hid (w3.alloc (Obj.cells #[Value.int IntKind.i32 p, Value.int IntKind.i32 a] 109) = W3) := hW
      clear hW
      go_region
      go_wp2_with fail
      go_roundg cnt3
      case measure => omega
      case rel => exact ⟨done ++ [((p : Int), a)], by rw [← HW.out]; exact H.out.step H3.out.1 H3.out.2 _ hpn rfl⟩
end Go.Proofs.Ybulkbksk
