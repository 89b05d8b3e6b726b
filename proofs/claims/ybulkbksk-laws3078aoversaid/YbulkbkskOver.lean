/-
  'LawS3078AOver'.
-/
import Derived.Test.YbulkbkskLocO
namespace Go.Proofs.Ybulkbksk
open Go.RowKit
set_option linter.unusedVariables false

theorem LazyAt.sub {w W : World} {C L b n pn : Nat} {pa : Option Addr} {ks : List (Int × Int)} (h : LazyAt w W C L b n (.pointer none) pa pn ks) : SubAt W C L b n pa pn ks := ⟨h.c0, h.c6, h.c14, h.c24, h.ne, h.hL, h.hK⟩
theorem LazyAt.top {w W : World} {C L b n pn U : Nat} {pa : Option Addr} {ks : List (Int × Int)} (h : LazyAt w W C L b n (.pointer (some ⟨U, 0, none⟩)) pa pn ks) : TopAt W C L b U ks := ⟨h.c0, h.c14, h.c24, h.ne, h.hL, h.hK⟩

theorem keys_in' {n : Nat} {ds : List (Nat × Int)} (hn : 0 < n) (h : n ≤ 1000) : ∀ x ∈ keysL n ds, 0 ≤ x.1 ∧ x.1 < 1000 := fun x hx => by have := keys_in hn x hx; omega

/-- The state in which 'localsOf' is asked. -/
structure Ready (w W : World) (C L b U LU bu n : Nat) (ku kt : List (Int × Int)) : Prop where
  top : TopAt W C L b U kt
  sub : ∃ pa pn, SubAt W U LU bu n pa pn ku
  ne : C ≠ LU ∧ L ≠ LU
  bel : Below w.heap.size w W
  hB : w.heap.size ≤ L ∧ w.heap.size ≤ LU

theorem ready_mk {w W w2 : World} {U LU bu n pn bt : Nat} {pa : Option Addr} {ku kt : List (Int × Int)} (h : LazyAt w W U LU bu n (.pointer none) pa pn ku) (hk : KMap w2 bt kt) (hb : Below W.heap.size W w2) (cur : Array Value)
    (h0 : cur[0]? = some (.pointer (some ⟨U, 0, none⟩))) (h14 : cur[14]? = some (.map (some bt))) (h24 : cur[24]? = some (.pointer (some ⟨w2.heap.size + 1, 0, none⟩))) :
    Ready w ((w2.alloc (Obj.cells cur 45)).alloc (Obj.cells Z66 66)) w2.heap.size (w2.heap.size + 1) bt U LU bu n ku kt := by
  have hw2 : Below w.heap.size w w2 := h.bel.trans (hb.mono h.bel.size)
  have e1 : (w2.alloc (Obj.cells cur 45)).heap.size = w2.heap.size + 1 := by simp
  have hC := (At.new w2 cur 45).alloc (Obj.cells Z66 66)
  have hL := At.new (w2.alloc (Obj.cells cur 45)) Z66 66
  rw [e1] at hL
  have hsz := hb.size
  have hLl := h.hL.lt
  have hws := hw2.size
  refine ⟨⟨by rw [hC.cell]; exact h0, by rw [hC.cell]; exact h14, by rw [hC.cell]; exact h24, by omega, hL, (hk.alloc _).alloc _⟩, ⟨pa, pn, ?_⟩, ⟨by omega, by omega⟩, (hw2.alloc hws _).alloc (Nat.le_trans hws (by simp)) _, ⟨by omega, h.hB⟩⟩
  have s1 : Same [] W w2 := ⟨hb.os, hb.tape, hb.output, hb.size, fun k hk _ => hb.block k hk⟩
  exact h.sub.same ((s1.alloc _).alloc _) (by simp) (by simp) (by simp)

/-- What 'localsOf' hands back is what is expected. -/
structure Got (w w3 : World) (ao1 : Option Addr) (len1 : Nat) (zs1 : List Int) (ao2 : Option Addr) (len2 : Nat) (zs2 : List Int) (n qq : Nat) (ds1 ds2 : List (Nat × Int)) : Prop where
  s1 : Seg32 w3 ao1 len1 zs1
  s2 : Seg32 w3 ao2 len2 zs2
  e1 : zs1.mergeSort le32 = (expL n (qq : Int) ds1).mergeSort le32 ∧ len1 = (expL n (qq : Int) ds1).length
  e2 : zs2.mergeSort le32 = (expL (n + 2) (qq : Int) ds2).mergeSort le32 ∧ len2 = (expL (n + 2) (qq : Int) ds2).length
  bel : Below w.heap.size w w3

theorem Got.below {w w3 w4 : World} {ao1 : Option Addr} {len1 : Nat} {zs1 : List Int} {ao2 : Option Addr} {len2 : Nat} {zs2 : List Int} {n qq : Nat} {ds1 ds2 : List (Nat × Int)} (h : Got w w3 ao1 len1 zs1 ao2 len2 zs2 n qq ds1 ds2) (hb : Below w3.heap.size w3 w4) : Got w w4 ao1 len1 zs1 ao2 len2 zs2 n qq ds1 ds2 :=
  ⟨h.s1.below hb, h.s2.below hb, h.e1, h.e2, h.bel.trans (hb.mono h.bel.size)⟩

theorem got_mk {w W w3 : World} {C L b U LU bu n qq : Nat} {ds1 ds2 : List (Nat × Int)} {e : Ending} (hR : Ready w W C L b U LU bu n (keysL n ds1) (keysL (n + 2) ds2)) (hn : 0 < n) (h : LocPost [L, LU] n qq (keysL n ds1) (keysL (n + 2) ds2) W e w3) :
    ∃ ao1 len1 cap1 zs1 ao2 len2 cap2 zs2, e = .returned (.agg #[.slice ao1 len1 cap1, .slice ao2 len2 cap2]) ∧ Got w w3 ao1 len1 zs1 ao2 len2 zs2 n qq ds1 ds2 := by
  obtain ⟨hs, ao1, len1, cap1, zs1, done1, ao2, len2, cap2, done2, rfl, hseg1, hp1, hz1, hz2, hseg2, hp2⟩ := h
  obtain ⟨x1, x2⟩ := expected hp1 hz1 hz2 hn
  refine ⟨ao1, len1, cap1, zs1, ao2, len2, cap2, ats qq done2, rfl, hseg1, hseg2, ⟨x1, by rw [← hseg1.size, x2]⟩, ⟨sort_perm (ats_expL hp2), by rw [← hseg2.size]; exact (ats_expL hp2).length_eq⟩, hR.bel.trans (hs.below ?_ hR.bel.size)⟩
  intro k hk
  simp at hk
  rcases hk with rfl | rfl
  · exact hR.hB.1
  · exact hR.hB.2

set_option maxRecDepth 100000 in
set_option maxHeartbeats 4000000 in
theorem law4_short (np q : Nat) (ao1 : Option Addr) (len1 cap1 : Nat) (ds1 : List (Nat × Int)) (ao2 : Option Addr) (len2 cap2 : Nat) (ds2 : List (Nat × Int)) (w : World) (hnp : np ≤ 255) (hq : q ≤ 255)
    (hD1 : Defs w.heap.size ao1 len1 ds1 w) (hwf1 : ∀ d ∈ ds1, wf32 d.2) (hl1 : len1 ≤ 1024) (hD2 : Defs w.heap.size ao2 len2 ds2 w) (hwf2 : ∀ d ∈ ds2, wf32 d.2) (hl2 : len2 ≤ 1024) :
    Calls Yba.prog 4 #[.int .u8 np, .slice ao1 len1 cap1, .slice ao2 len2 cap2, .int .u8 q] w fun e w' => e = .returned (.bool true) ∧ Below w.heap.size w w' := by
  have HD : Hid ((∀ W, Same [] w W → Defs W.heap.size ao1 len1 ds1 W) ∧ (∀ d ∈ ds1, wf32 d.2)) := ⟨fun W hs => hD1.same hs, hwf1⟩
  have HE : Hid (Defs w.heap.size ao1 len1 ds1 w ∧ Defs w.heap.size ao2 len2 ds2 w ∧ (∀ d ∈ ds2, wf32 d.2)) := ⟨hD1, hD2, hwf2⟩
  clear hD1 hD2 hwf1 hwf2
  go_enter Yba.func4, Yba.ntmps4
  go_upto_region 5 with fail
  obtain ⟨n, hn⟩ : ∃ n, n = np % 8 + 1 := ⟨_, rfl⟩
  obtain ⟨qq, hqq⟩ : ∃ x, x = q % (n + 2) := ⟨_, rfl⟩
  have hn1 : (np : Int) % 8 + 1 = (n : Int) := by omega
  have hq1 : (q : Int) % ((n : Int) + 2) = (qq : Int) := by subst hqq; simp
  rw [hn1, hq1]
  have hn2 : 1 ≤ n := by omega
  have hn3 : n ≤ 8 := by omega
  have hq3 : qq ≤ 10 := by have := Nat.mod_lt q (show 0 < n + 2 by omega); omega
  have hw32 : wrap32 (qq : Int) = (qq : Int) := by unfold wrap32; omega
  rw [hw32]
  clear hn1 hq1 hn hqq hw32
  obtain ⟨MC, hmk⟩ := make24 n (by omega)
  go_cut [11] from 32 to 38 (fun v wc => ∃ C b, v = .pointer (some ⟨C, 0, none⟩) ∧ SetAt w w.heap.size C b n (.pointer none) (keysL n ds1) wc)
  case first =>
    go_region_with (go_at_call 8; refine (build_any ao1 len1 cap1 n ds1 _ (HD.out.1 _ (by first | exact (Same.refl _ _).drew | exact ((Same.refl _ _).drew).alloc _ | exact ((Same.refl _ _).alloc _).drew)) HD.out.2 hl1 (by omega) (by omega)).mono ?_; rintro e w1 ⟨rfl, hk1, hb1⟩)
    · go_wp2_with fail
      go_meet
      refine ⟨w1.heap.size, w.heap.size + 1, rfl, set_mk _ ?_ (by simpa using hk1) rfl rfl rfl rfl rfl⟩
      exact (((Below.refl _ w).alloc (Nat.le_refl _) _).drew).trans (below_le hb1 (by simp))
    · go_wp2_with fail
      go_meet
      refine ⟨w1.heap.size + 1, w.heap.size, rfl, ?_⟩
      have := set_mk (w := w) (w1 := w1.alloc (Obj.cells MC 176)) (b := w.heap.size) (n := n) (pa := some ⟨w1.heap.size, 0, none⟩) (lz := .pointer none) (ks := keysL n ds1) #[Value.pointer none, Value.int IntKind.i32 0, Value.int IntKind.i32 0, Value.int IntKind.i32 0,
          Value.int IntKind.i32 0, Value.map none, Value.slice (some { block := w1.heap.size, off := 0 }) n n,
          Value.map none, Value.slice none 0 0, Value.slice none 0 0, Value.int IntKind.u64 0, Value.int IntKind.i64 0,
          Value.slice none 0 0, Value.map none, Value.map (some w.heap.size), Value.map none, Value.slice none 0 0,
          Value.slice none 0 0, Value.int IntKind.u64 0, Value.int IntKind.i64 0, Value.map none, Value.map none,
          Value.map none, Value.slice none 0 0, Value.pointer none, Value.map none] ?_ (KMap.alloc hk1 _) rfl rfl rfl rfl rfl
      · simpa using this
      · exact ((Below.refl _ w).drew.trans hb1).alloc hb1.size _
  case rest =>
    obtain ⟨U, bu, rfl, hset⟩ := hcut
    clear hmk
    generalize wc = w1 at hset ⊢
    clear wc
    obtain ⟨pa, cur, hC, h26, h0, h6, h14, h24, hK, hbel, hBC⟩ := hset
    have c24' : (w1.alloc (Obj.cells #[.int .u32 0, .int .i32 0, .int .u32 0, .slice none 0 0, .slice none 0 0, .slice none 0 0, .map none, .int .u32 0, .int .i32 0, .int .u32 0, .slice none 0 0, .slice none 0 0, .map none, .int .u32 0, .int .i32 0, .int .u32 0] 66)).cell? ⟨U, 24, none⟩ = some (.pointer none) := ((Same.refl [] w1).alloc _).cell (by rw [hC.cell]; exact h24) (by simp)
    have f24' : (w1.alloc (Obj.cells #[.int .u32 0, .int .i32 0, .int .u32 0, .slice none 0 0, .slice none 0 0, .slice none 0 0, .map none, .int .u32 0, .int .i32 0, .int .u32 0, .slice none 0 0, .slice none 0 0, .map none, .int .u32 0, .int .i32 0, .int .u32 0] 66)).frozen? ⟨U, 24, none⟩ = false := (hC.alloc _).free 24
    have HZ : Hid (LazyAt w ((w1.alloc (Obj.cells #[.int .u32 0, .int .i32 0, .int .u32 0, .slice none 0 0, .slice none 0 0, .slice none 0 0, .map none, .int .u32 0, .int .i32 0, .int .u32 0, .slice none 0 0, .slice none 0 0, .map none, .int .u32 0, .int .i32 0, .int .u32 0] 66)).setCell ⟨U, 24, none⟩ (.pointer (some ⟨w1.heap.size, 0, none⟩))) U w1.heap.size bu n (.pointer none) pa n (keysL n ds1)) := lazy_mk hC h0 h6 h14 h26 hK hbel hBC
    clear hC h26 h0 h6 h14 h24 hK hbel hBC
    go_wp2_with fail
    generalize (w1.alloc (Obj.cells #[.int .u32 0, .int .i32 0, .int .u32 0, .slice none 0 0, .slice none 0 0, .slice none 0 0, .map none, .int .u32 0, .int .i32 0, .int .u32 0, .slice none 0 0, .slice none 0 0, .map none, .int .u32 0, .int .i32 0, .int .u32 0] 66)).setCell ⟨U, 24, none⟩ (.pointer (some ⟨w1.heap.size, 0, none⟩)) = W at HZ ⊢
    clear c24' f24'
    generalize w1.heap.size = LU at HZ
    have hbld := build_any ao2 len2 cap2 (n + 2) ds2 W ((HE.out.2.1.below HZ.out.bel).mono HZ.out.bel.size) HE.out.2.2 hl2 (by omega) (by omega)
    rw [show (((n + 2 : Nat)) : Int) = (n : Int) + 2 by omega] at hbld
    refine hbld.mono ?_
    clear hbld
    rintro e w2 ⟨rfl, hk2, hb2⟩
    have HR : Hid (Ready w ((w2.alloc (Obj.cells #[.pointer (some ⟨U, 0, none⟩), .int .i32 0, .int .i32 0, .int .i32 0, .int .i32 0, .map none, .slice none 0 0, .map none, .slice none 0 0, .slice none 0 0, .int .u64 0, .int .i64 0, .slice none 0 0, .map none, .map (some W.heap.size), .map none, .slice none 0 0, .slice none 0 0, .int .u64 0, .int .i64 0, .map none, .map none, .map none, .slice none 0 0, .pointer (some ⟨w2.heap.size + 1, 0, none⟩), .map none] 45)).alloc (Obj.cells #[.int .u32 0, .int .i32 0, .int .u32 0, .slice none 0 0, .slice none 0 0, .slice none 0 0, .map none, .int .u32 0, .int .i32 0, .int .u32 0, .slice none 0 0, .slice none 0 0, .map none, .int .u32 0, .int .i32 0, .int .u32 0] 66)) w2.heap.size (w2.heap.size + 1) W.heap.size U LU bu n (keysL n ds1) (keysL (n + 2) ds2)) := ready_mk HZ.out hk2 hb2 #[.pointer (some ⟨U, 0, none⟩), .int .i32 0, .int .i32 0, .int .i32 0, .int .i32 0, .map none, .slice none 0 0, .map none, .slice none 0 0, .slice none 0 0, .int .u64 0, .int .i64 0, .slice none 0 0, .map none, .map (some W.heap.size), .map none, .slice none 0 0, .slice none 0 0, .int .u64 0, .int .i64 0, .map none, .map none, .map none, .slice none 0 0, .pointer (some ⟨w2.heap.size + 1, 0, none⟩), .map none] rfl rfl rfl
    clear hk2 hb2 HZ
    go_wp2_with fail
    generalize (w2.alloc (Obj.cells #[.pointer (some ⟨U, 0, none⟩), .int .i32 0, .int .i32 0, .int .i32 0, .int .i32 0, .map none, .slice none 0 0, .map none, .slice none 0 0, .slice none 0 0, .int .u64 0, .int .i64 0, .slice none 0 0, .map none, .map (some W.heap.size), .map none, .slice none 0 0, .slice none 0 0, .int .u64 0, .int .i64 0, .map none, .map none, .map none, .slice none 0 0, .pointer (some ⟨w2.heap.size + 1, 0, none⟩), .map none] 45)).alloc (Obj.cells #[.int .u32 0, .int .i32 0, .int .u32 0, .slice none 0 0, .slice none 0 0, .slice none 0 0, .map none, .int .u32 0, .int .i32 0, .int .u32 0, .slice none 0 0, .slice none 0 0, .map none, .int .u32 0, .int .i32 0, .int .u32 0] 66) = W2 at HR ⊢
    generalize w2.heap.size = C at HR ⊢
    obtain ⟨spa, spn, hsub⟩ := HR.out.sub
    have hloc := loc_over C (C + 1) W.heap.size U LU bu n spn qq spa (keysL n ds1) (keysL (n + 2) ds2) W2 HR.out.top hsub HR.out.ne.1 HR.out.ne.2 (keys_in (by omega)) hn3 (Nat.le_trans (keysL_facts n ds1).2.2 (by have := HE.out.1.size; omega)) (keys_in' (by omega) (by omega)) (Nat.le_trans (keysL_facts (n + 2) ds2).2.2 (by have := HE.out.2.1.size; omega)) hq3
    refine hloc.mono ?_
    clear hloc hsub
    intro e w3 hpost
    obtain ⟨ra1, rl1, rc1, zs1, ra2, rl2, rc2, zs2, rfl, hgot⟩ := got_mk HR.out (by omega) hpost
    have HG : Hid (Got w w3 ra1 rl1 zs1 ra2 rl2 zs2 n qq ds1 ds2) := hgot
    have hz1 : rl1 ≤ 1024 := by rw [hgot.e1.2]; exact Nat.le_trans (expL_len _ _ _) (by have := HE.out.1.size; omega)
    have hz2 : rl2 ≤ 1024 := by rw [hgot.e2.2]; exact Nat.le_trans (expL_len _ _ _) (by have := HE.out.2.1.size; omega)
    clear hpost hgot HR
    have hnot : ∀ (x : Bool) (w : World), (Op.unary .not (.bool x)).run Yba.prog w = .ok (.bool (!x)) w := fun _ _ => rfl
    go_upto_region 10 with fail
    obtain ⟨W3, hW3⟩ : ∃ W3, w3.alloc (Obj.cells #[Value.slice ra1 rl1 rc1, Value.slice ra2 rl2 rc2] 68) = W3 := ⟨_, rfl⟩
    obtain ⟨G, hG⟩ : ∃ G, G = w3.heap.size := ⟨_, rfl⟩
    have hg0 : W3.cell? ⟨w3.heap.size, 0, none⟩ = some (.slice ra1 rl1 rc1) := by rw [← hW3, (At.new w3 _ 68).cell]; rfl
    have hg1 : W3.cell? ⟨w3.heap.size, 1, none⟩ = some (.slice ra2 rl2 rc2) := by rw [← hW3, (At.new w3 _ 68).cell]; rfl
    have hs3 : Below w3.heap.size w3 W3 := by rw [← hW3]; exact ((Same.refl [] _).alloc _).below (by simp) (Nat.le_refl _)
    have hG3 : w3.heap.size < W3.heap.size := by rw [← hW3]; simp
    have H3 : Hid (Got w W3 ra1 rl1 zs1 ra2 rl2 zs2 n qq ds1 ds2 ∧ W3.cell? ⟨w3.heap.size, 0, none⟩ = some (.slice ra1 rl1 rc1) ∧ W3.cell? ⟨w3.heap.size, 1, none⟩ = some (.slice ra2 rl2 rc2) ∧ w3.heap.size < W3.heap.size) := ⟨HG.out.below hs3, hg0, hg1, hG3⟩
    rw [hW3]
    rw [← hG] at hg0 hg1 H3 ⊢
    clear hW3 hG hs3 hG3 HG
    go_cut [64] from 57 to 63 (fun v wc => v = .bool false ∧ Below W3.heap.size W3 wc)
    case first =>
      go_region_with (first
        | (go_at_call 11; go_must (refine (expect_any ao1 len1 cap1 n qq ds1 W3.drew (by have := ((HE.out.1.below H3.out.1.bel).mono H3.out.1.bel.size); exact ⟨this.size, this.cells, this.small⟩) hl1 (by omega) (by omega)).mono ?_); rintro e w4 ⟨v4, rfl, ho4, hb4⟩; have hg4 := (hb4.cell (p := ⟨G, 0, none⟩) H3.out.2.2.2).trans H3.out.2.1; have H4 : Hid (w4.ownsRow W3.heap.size 21 1 v4 (expL n (qq : Int) ds1).length (((expL n (qq : Int) ds1).mergeSort le32).map (Value.int .i32)) ∧ Below W3.heap.size W3 w4) := ⟨ho4, ⟨hb4.os, hb4.tape, hb4.output, hb4.size, hb4.block⟩⟩; clear ho4 hb4)
        | (go_at_call 10; go_must (refine (same_any W3.heap.size rl1 rc1 ra1 zs1 v4 w4 (H3.out.1.s1.below H4.out.2) (by omega) (by rw [H3.out.1.e1.1, H3.out.1.e1.2]; exact H4.out.1)).mono ?_); rintro e w5 ⟨rfl, hb5⟩; have H5 : Hid (Below w4.heap.size w4 w5) := hb5; clear hb5))
      all_goals
        go_wp2_with fail
        go_meet
        exact ⟨rfl, H4.out.2.trans (H5.out.mono H4.out.2.size)⟩
    case rest =>
      obtain ⟨rfl, hb4⟩ := hcut
      generalize wc = w4 at hb4 ⊢
      clear wc
      have hg4 := (hb4.cell (p := ⟨G, 1, none⟩) H3.out.2.2.2).trans H3.out.2.2.1
      have H4 : Hid (Got w w4 ra1 rl1 zs1 ra2 rl2 zs2 n qq ds1 ds2 ∧ G < w4.heap.size ∧ w4.cell? ⟨G, 1, none⟩ = some (.slice ra2 rl2 rc2)) := ⟨H3.out.1.below hb4, Nat.lt_of_lt_of_le H3.out.2.2.2 hb4.size, hg4⟩
      clear hb4 H3 hg0 hg1
      go_wp2_with fail
      have hexp : Calls Yba.prog 11 #[.slice ao2 len2 cap2, .int .i64 (IntKind.i64.wrap ((n : Int) + 2)), .int .i32 (qq : Int)] w4.drew fun e w' => ∃ v, e = .returned v ∧ w'.ownsRow w4.heap.size 21 1 v (expL (n + 2) (qq : Int) ds2).length (((expL (n + 2) (qq : Int) ds2).mergeSort le32).map (Value.int .i32)) ∧ Below w4.heap.size w4 w' := by
        rw [show IntKind.i64.wrap ((n : Int) + 2) = (n : Int) + 2 by rw [IntKind.wrap_i64]; omega]
        have hd := (HE.out.2.1.below H4.out.1.bel).mono H4.out.1.bel.size
        have h := expect_any ao2 len2 cap2 (n + 2) qq ds2 w4.drew ⟨hd.size, hd.cells, hd.small⟩ hl2 (by omega) (by omega)
        rw [show (((n + 2 : Nat)) : Int) = (n : Int) + 2 by omega] at h
        refine h.mono ?_
        rintro e w' ⟨v, rfl, h1, h2⟩
        exact ⟨v, rfl, h1, ⟨h2.os, h2.tape, h2.output, h2.size, h2.block⟩⟩
      have HX : Hid (Calls Yba.prog 11 #[.slice ao2 len2 cap2, .int .i64 (IntKind.i64.wrap ((n : Int) + 2)), .int .i32 (qq : Int)] w4.drew fun e w' => ∃ v, e = .returned v ∧ w'.ownsRow w4.heap.size 21 1 v (expL (n + 2) (qq : Int) ds2).length (((expL (n + 2) (qq : Int) ds2).mergeSort le32).map (Value.int .i32)) ∧ Below w4.heap.size w4 w') := hexp
      clear hexp hnot
      go_region_with (first
        | (go_at_call 11; go_must (refine Calls.mono HX.out ?_); rintro e w5 ⟨v5, rfl, ho5, hb5⟩; have hg5 := (hb5.cell (p := ⟨G, 1, none⟩) H4.out.2.1).trans H4.out.2.2; have H5 : Hid (w5.ownsRow w4.heap.size 21 1 v5 (expL (n + 2) (qq : Int) ds2).length (((expL (n + 2) (qq : Int) ds2).mergeSort le32).map (Value.int .i32)) ∧ Below w4.heap.size w4 w5) := ⟨ho5, hb5⟩; clear ho5 hb5)
        | (go_at_call 10; go_must (refine (same_any w4.heap.size rl2 rc2 ra2 zs2 v5 w5 (H4.out.1.s2.below H5.out.2) (by omega) (by rw [H4.out.1.e2.1, H4.out.1.e2.2]; exact H5.out.1)).mono ?_); rintro e w6 ⟨rfl, hb6⟩; have H6 : Hid (Below w5.heap.size w5 w6) := hb6; clear hb6))
      all_goals
        go_wp2_with fail
        go_ret
        exact ⟨rfl, (H4.out.1.bel.trans (H5.out.2.mono H4.out.1.bel.size)).trans (H6.out.mono (Nat.le_trans H4.out.1.bel.size H5.out.2.size))⟩
end Go.Proofs.Ybulkbksk
