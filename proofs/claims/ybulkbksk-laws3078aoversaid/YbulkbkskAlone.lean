/-
  'LawS3078AAlone'.
-/
import Derived.Test.YbulkbkskLoc
import Derived.Deep.DeepMust
import Derived.Deep.Cut
import Derived.Deep.CutRange
import Derived.Deep.DeepCutAuto
namespace Go.Proofs.Ybulkbksk
open Go.RowKit
set_option linter.unusedVariables false

theorem info176 : (Yba.prog.info? 176).map (fun i => (i.zero.isSome, i.size, i.bytes)) = some (true, 1, 16) := by kernel_rfl

theorem make24 (n : Nat) (hn : n ≤ 100) : ∃ MC : Array Value, ∀ W : World, Sem.run Yba.prog (Instr.makeSlice 24 (.int .i64 (n : Int)) (.int .i64 (n : Int))) W = .ok (.slice (some ⟨W.heap.size, 0, none⟩) n n) (W.alloc (Obj.cells MC 176)) := by
  obtain ⟨i, hi, h⟩ := Option.map_eq_some_iff.1 info176
  simp only [Prod.mk.injEq] at h
  obtain ⟨h0, h1, h2⟩ := h
  obtain ⟨z, hz⟩ := Option.isSome_iff_exists.1 h0
  refine ⟨madeCells z.cells (n * i.size), fun W => ?_⟩
  have := run_make (P := Yba.prog) W 24 176 i z Yba.underlying24 hi hz .i64 .i64 n n (by omega) (by omega) (by rw [h2]; omega) (by omega)
  simpa using this

theorem Defs.same {w W : World} {ao : Option Addr} {len : Nat} {ds : List (Nat × Int)} (h : Defs w.heap.size ao len ds w) (hs : Same [] w W) : Defs W.heap.size ao len ds W := by
  refine ⟨h.size, fun h0 => ?_, h.small⟩
  obtain ⟨b, off, e, hl, hc⟩ := h.cells h0
  refine ⟨b, off, e, Nat.lt_of_lt_of_le hl hs.size, fun i p hp => ?_⟩
  exact ⟨hs.cell (hc i p hp).1 (by simp), hs.cell (hc i p hp).2 (by simp)⟩

/-- A set just made. -/
def SetAt (w : World) (B C b n : Nat) (lazy : Value) (ks : List (Int × Int)) (wc : World) : Prop :=
  ∃ (pa : Option Addr) (cur : Array Value), At wc C cur 45 ∧ cur.size = 26 ∧ cur[0]? = some (.pointer none) ∧ cur[6]? = some (.slice pa n n) ∧ cur[14]? = some (.map (some b)) ∧ cur[24]? = some lazy ∧ KMap wc b ks ∧ Below B w wc ∧ B ≤ C

theorem set_mk {w w1 : World} {b n : Nat} {pa : Option Addr} {lz : Value} {ks : List (Int × Int)} (cur : Array Value) (hb : Below w.heap.size w w1) (hk : KMap w1 b ks) (h26 : cur.size = 26) (h0 : cur[0]? = some (.pointer none)) (h6 : cur[6]? = some (.slice pa n n)) (h14 : cur[14]? = some (.map (some b))) (h24 : cur[24]? = some lz) :
    SetAt w w.heap.size w1.heap.size b n lz ks (w1.alloc (Obj.cells cur 45)) :=
  ⟨pa, cur, At.new _ _ _, h26, h0, h6, h14, h24, hk.alloc _, hb.alloc hb.size _, hb.size⟩

theorem below_le {B B' : Nat} {w w' : World} (h : Below B w w') (hB : B' ≤ B) : Below B' w w' := ⟨h.os, h.tape, h.output, h.size, fun k hk => h.block k (by omega)⟩

/-- The lazy indexes, as they are made. -/
def Z66 : Array Value := #[.int .u32 0, .int .i32 0, .int .u32 0, .slice none 0 0, .slice none 0 0, .slice none 0 0, .map none, .int .u32 0, .int .i32 0, .int .u32 0, .slice none 0 0, .slice none 0 0, .map none, .int .u32 0, .int .i32 0, .int .u32 0]

/-- A set with a fresh lazy index behind it. -/
structure LazyAt (w W : World) (C L b n : Nat) (under : Value) (pa : Option Addr) (pn : Nat) (ks : List (Int × Int)) : Prop where
  c0 : W.cell? ⟨C, 0, none⟩ = some under
  c6 : W.cell? ⟨C, 6, none⟩ = some (.slice pa n pn)
  c14 : W.cell? ⟨C, 14, none⟩ = some (.map (some b))
  c24 : W.cell? ⟨C, 24, none⟩ = some (.pointer (some ⟨L, 0, none⟩))
  ne : C ≠ L
  hL : At W L Z66 66
  hK : KMap W b ks
  bel : Below w.heap.size w W
  hB : w.heap.size ≤ L

theorem lazy_mk {w w1 : World} {C b n pn : Nat} {under : Value} {pa : Option Addr} {cur : Array Value} {ks : List (Int × Int)} (hC : At w1 C cur 45) (h0 : cur[0]? = some under) (h6 : cur[6]? = some (.slice pa n pn)) (h14 : cur[14]? = some (.map (some b))) (h26 : cur.size = 26) (hK : KMap w1 b ks) (hb : Below w.heap.size w w1) (hBC : w.heap.size ≤ C) :
    LazyAt w ((w1.alloc (Obj.cells Z66 66)).setCell ⟨C, 24, none⟩ (.pointer (some ⟨w1.heap.size, 0, none⟩))) C w1.heap.size b n under pa pn ks := by
  have hlt := hC.lt
  have hC2 := (hC.alloc (Obj.cells Z66 66)).set 24 (.pointer (some ⟨w1.heap.size, 0, none⟩))
  refine ⟨?_, ?_, ?_, ?_, by omega, (At.new w1 Z66 66).other (by show w1.heap.size ≠ C; omega) _, (hK.alloc _).setCell (hC.alloc _) _, ?_, hb.size⟩
  · rw [hC2.cell, Array.getElem?_setIfInBounds_ne (by decide)]; exact h0
  · rw [hC2.cell, Array.getElem?_setIfInBounds_ne (by decide)]; exact h6
  · rw [hC2.cell, Array.getElem?_setIfInBounds_ne (by decide)]; exact h14
  · rw [hC2.cell]; exact Array.getElem?_setIfInBounds_self_of_lt (by omega)
  · exact (hb.alloc hb.size _).trans (((Same.refl [C] _).setCell (.inl (by simp)) _).below (by simpa using hBC) (Nat.le_trans hb.size (by simp)))

theorem Defs.mono {B B' : Nat} {ao : Option Addr} {len : Nat} {ds : List (Nat × Int)} {w : World} (h : Defs B ao len ds w) (hB : B ≤ B') : Defs B' ao len ds w := by
  refine ⟨h.size, fun h0 => ?_, h.small⟩
  obtain ⟨b, off, e, hl, hc⟩ := h.cells h0
  exact ⟨b, off, e, by omega, hc⟩

/-- What comes back, sorted, is what is expected, sorted. -/
theorem expected {n q : Nat} {ds : List (Nat × Int)} {zs : List Int} {done : List (Int × Int)} (hp : done.Perm (keysL n ds)) (h1 : q < n → zs = ats q done) (h2 : n ≤ q → zs = []) (hn : 0 < n) :
    zs.mergeSort le32 = (expL n (q : Int) ds).mergeSort le32 ∧ zs.length = (expL n (q : Int) ds).length := by
  rcases Nat.lt_or_ge q n with h | h
  · rw [h1 h]
    exact ⟨sort_perm (ats_expL hp), (ats_expL hp).length_eq⟩
  · rw [h2 h, expL_none hn h]
    exact ⟨rfl, rfl⟩

theorem keys_in {n : Nat} {ds : List (Nat × Int)} (hn : 0 < n) : ∀ x ∈ keysL n ds, 0 ≤ x.1 ∧ x.1 < (n : Int) := by
  rintro ⟨p, a⟩ hx
  obtain ⟨d, _, h1, _⟩ := ((keysL_facts n ds).2.1 p a).1 hx
  have := Nat.mod_lt d.1 hn
  simp only
  omega

set_option maxRecDepth 100000 in
set_option maxHeartbeats 4000000 in
theorem law3_short (np q : Nat) (lazy : Bool) (ao : Option Addr) (len cap : Nat) (ds : List (Nat × Int)) (w : World) (hnp : np ≤ 255) (hq : q ≤ 255) (hD : Defs w.heap.size ao len ds w) (hwf : ∀ d ∈ ds, wf32 d.2) (hl : len ≤ 1024) :
    Calls Yba.prog 3 #[.int .u8 np, .slice ao len cap, .int .u8 q, .bool lazy] w fun e w' => e = .returned (.bool true) ∧ Below w.heap.size w w' := by
  have HD : Hid (∀ W, Same [] w W → Defs W.heap.size ao len ds W) := fun W hs => hD.same hs
  have HW : Hid (∀ d ∈ ds, wf32 d.2) := hwf
  clear hD hwf
  go_enter Yba.func3, Yba.ntmps3
  go_upto_region 5 with fail
  obtain ⟨n, hn⟩ : ∃ n, n = np % 8 + 1 := ⟨_, rfl⟩
  obtain ⟨qq, hqq⟩ : ∃ x, x = q % (n + 2) := ⟨_, rfl⟩
  have hn1 : (np : Int) % 8 + 1 = (n : Int) := by omega
  have hq1 : (q : Int) % ((n : Int) + 2) = (qq : Int) := by subst hqq; simp
  rw [hn1, hq1]
  have hn2 : 1 ≤ n := by omega
  have hn3 : n ≤ 8 := by omega
  have hq3 : qq ≤ 10 := by have := Nat.mod_lt q (show 0 < n + 2 by omega); omega
  have hw32 : wrap32 (qq : Int) = (qq : Int) := by unfold wrap32; omega
  rw [hw32]
  clear hn1 hq1 hn hqq hw32
  obtain ⟨MC, hmk⟩ := make24 n (by omega)
  go_cut [11] from 26 to 32 (fun v wc => ∃ C b, v = .pointer (some ⟨C, 0, none⟩) ∧ SetAt w w.heap.size C b n (.pointer none) (keysL n ds) wc)
  case first =>
    go_region_with (go_at_call 8; refine (build_any ao len cap n ds _ (HD.out _ (by first | exact (Same.refl _ _).drew | exact ((Same.refl _ _).drew).alloc _ | exact ((Same.refl _ _).alloc _).drew)) HW.out hl (by omega) (by omega)).mono ?_; rintro e w1 ⟨rfl, hk1, hb1⟩)
    · go_wp2_with fail
      go_meet
      refine ⟨w1.heap.size, w.heap.size + 1, rfl, set_mk _ ?_ (by simpa using hk1) rfl rfl rfl rfl rfl⟩
      exact (((Below.refl _ w).alloc (Nat.le_refl _) _).drew).trans (below_le hb1 (by simp))
    · go_wp2_with fail
      go_meet
      refine ⟨w1.heap.size + 1, w.heap.size, rfl, ?_⟩
      have := set_mk (w := w) (w1 := w1.alloc (Obj.cells MC 176)) (b := w.heap.size) (n := n) (pa := some ⟨w1.heap.size, 0, none⟩) (lz := .pointer none) (ks := keysL n ds) #[Value.pointer none, Value.int IntKind.i32 0, Value.int IntKind.i32 0, Value.int IntKind.i32 0,
          Value.int IntKind.i32 0, Value.map none, Value.slice (some { block := w1.heap.size, off := 0 }) n n,
          Value.map none, Value.slice none 0 0, Value.slice none 0 0, Value.int IntKind.u64 0, Value.int IntKind.i64 0,
          Value.slice none 0 0, Value.map none, Value.map (some w.heap.size), Value.map none, Value.slice none 0 0,
          Value.slice none 0 0, Value.int IntKind.u64 0, Value.int IntKind.i64 0, Value.map none, Value.map none,
          Value.map none, Value.slice none 0 0, Value.pointer none, Value.map none] ?_ (KMap.alloc hk1 _) rfl rfl rfl rfl rfl
      · simpa using this
      · exact ((Below.refl _ w).drew.trans hb1).alloc hb1.size _
  case rest =>
    obtain ⟨C, b, rfl, hset⟩ := hcut
    clear hmk
    generalize wc = w1 at hset ⊢
    clear wc
    obtain ⟨pa, cur, hC, h26, h0, h6, h14, h24, hK, hbel, hBC⟩ := hset
    have c0 : w1.cell? ⟨C, 0, none⟩ = some (.pointer none) := by rw [hC.cell]; exact h0
    have c24 : w1.cell? ⟨C, 24, none⟩ = some (.pointer none) := by rw [hC.cell]; exact h24
    have f24 := hC.free 24
    have HC : Hid (At w1 C cur 45 ∧ cur[0]? = some (.pointer none) ∧ cur[6]? = some (.slice pa n n) ∧ cur[14]? = some (.map (some b)) ∧ cur.size = 26 ∧ KMap w1 b (keysL n ds) ∧ Below w.heap.size w w1 ∧ w.heap.size ≤ C) := ⟨hC, h0, h6, h14, h26, hK, hbel, hBC⟩
    cases lazy with
    | false =>
      clear hC h26 h0 h6 h14 h24 hK hbel hBC
      go_wp2_with fail
      refine (loc_nil C qq w1 c0 c24).mono ?_
      rintro e w2 ⟨rfl, hs2⟩
      have HS : Hid (Same [] w1 w2) := hs2
      clear hs2
      go_wp2_with fail
      go_ret
      exact ⟨rfl, (HC.out.2.2.2.2.2.2.1.trans (HS.out.below (by simp) HC.out.2.2.2.2.2.2.1.size)).alloc (Nat.le_trans HC.out.2.2.2.2.2.2.1.size HS.out.size) _⟩
    | true =>
      have HZ : Hid (LazyAt w ((w1.alloc (Obj.cells #[.int .u32 0, .int .i32 0, .int .u32 0, .slice none 0 0, .slice none 0 0, .slice none 0 0, .map none, .int .u32 0, .int .i32 0, .int .u32 0, .slice none 0 0, .slice none 0 0, .map none, .int .u32 0, .int .i32 0, .int .u32 0] 66)).setCell ⟨C, 24, none⟩ (.pointer (some ⟨w1.heap.size, 0, none⟩))) C w1.heap.size b n (.pointer none) pa n (keysL n ds)) := lazy_mk hC h0 h6 h14 h26 hK hbel hBC
      have c24' : (w1.alloc (Obj.cells #[.int .u32 0, .int .i32 0, .int .u32 0, .slice none 0 0, .slice none 0 0, .slice none 0 0, .map none, .int .u32 0, .int .i32 0, .int .u32 0, .slice none 0 0, .slice none 0 0, .map none, .int .u32 0, .int .i32 0, .int .u32 0] 66)).cell? ⟨C, 24, none⟩ = some (.pointer none) := ((Same.refl [] w1).alloc _).cell c24 (by simp)
      have f24' : (w1.alloc (Obj.cells #[.int .u32 0, .int .i32 0, .int .u32 0, .slice none 0 0, .slice none 0 0, .slice none 0 0, .map none, .int .u32 0, .int .i32 0, .int .u32 0, .slice none 0 0, .slice none 0 0, .map none, .int .u32 0, .int .i32 0, .int .u32 0] 66)).frozen? ⟨C, 24, none⟩ = false := (hC.alloc _).free 24
      clear hC h26 h0 h6 h14 h24 hK hbel hBC c0 c24 f24 HC
      go_wp2_with fail
      have HLoc := loc_alone C w1.heap.size b n n qq pa Z66 (keysL n ds) _ HZ.out.c0 HZ.out.c6 HZ.out.c14 HZ.out.c24 HZ.out.ne HZ.out.hL rfl rfl rfl HZ.out.hK (keys_in (by omega)) hn3 (Nat.le_trans (keysL_facts n ds).2.2 (by have := (HD.out w (Same.refl _ _)).size; omega)) hq3
      refine HLoc.mono ?_
      clear HLoc
      rintro e w2 ⟨hs2, rao, rlen, rcap, zs, done, rfl, hseg, hperm, hz1, hz2⟩
      obtain ⟨hx1, hx2⟩ := expected hperm hz1 hz2 (by omega)
      have hbel2 : Below w.heap.size w w2 := HZ.out.bel.trans (hs2.below (by intro k hk; simp at hk; subst hk; exact HZ.out.hB) HZ.out.bel.size)
      have hzl : rlen ≤ 1024 := by rw [← hseg.size, hx2]; exact Nat.le_trans (expL_len _ _ _) (by have := (HD.out w (Same.refl _ _)).size; omega)
      have H2 : Hid (Seg32 w2 rao rlen zs ∧ Below w.heap.size w w2 ∧ zs.mergeSort le32 = (expL n (qq : Int) ds).mergeSort le32 ∧ rlen = (expL n (qq : Int) ds).length) := ⟨hseg, hbel2, hx1, by rw [← hseg.size, hx2]⟩
      clear hs2 hseg hperm hz1 hz2 hx1 hx2 hbel2 HZ c24' f24'
      go_wp2_with fail
      obtain ⟨W3, hW3⟩ : ∃ W3, w2.alloc (Obj.cells #[Value.slice rao rlen rcap, Value.slice none 0 0] 68) = W3 := ⟨_, rfl⟩
      obtain ⟨G, hG⟩ : ∃ G, G = w2.heap.size := ⟨_, rfl⟩
      have hg0 : W3.cell? ⟨w2.heap.size, 0, none⟩ = some (.slice rao rlen rcap) := by rw [← hW3, (At.new w2 _ 68).cell]; rfl
      have hs3 : Same [] w2 W3 := by rw [← hW3]; exact (Same.refl _ _).alloc _
      have hb3 : Below w.heap.size w W3 := H2.out.2.1.trans (hs3.below (by simp) H2.out.2.1.size)
      have hG3 : w2.heap.size < W3.heap.size := by rw [← hW3]; simp
      have H3 : Hid (Defs W3.heap.size ao len ds W3 ∧ Seg32 W3 rao rlen zs ∧ Below w.heap.size w W3 ∧ W3.cell? ⟨w2.heap.size, 0, none⟩ = some (.slice rao rlen rcap) ∧ w2.heap.size < W3.heap.size) :=
        ⟨((HD.out w (Same.refl _ _)).below hb3).mono hb3.size, H2.out.1.below (hs3.below (by simp) (Nat.le_refl _)), hb3, hg0, hG3⟩
      rw [hW3]
      rw [← hG] at hg0 H3 ⊢
      clear hW3 hG hs3 hb3 hG3
      go_region_with (first
        | (go_at_call 11; go_must (refine (expect_any ao len cap n qq ds W3.drew ⟨H3.out.1.size, H3.out.1.cells, H3.out.1.small⟩ hl (by omega) (by omega)).mono ?_); rintro e w4 ⟨v4, rfl, ho4, hb4⟩; have hg4 := (hb4.cell (p := ⟨G, 0, none⟩) H3.out.2.2.2.2).trans H3.out.2.2.2.1; have H4 : Hid (w4.ownsRow W3.heap.size 21 1 v4 (expL n (qq : Int) ds).length (((expL n (qq : Int) ds).mergeSort le32).map (Value.int .i32)) ∧ Below W3.heap.size W3 w4) := ⟨ho4, ⟨hb4.os, hb4.tape, hb4.output, hb4.size, hb4.block⟩⟩; clear ho4 hb4)
        | (go_at_call 10; go_must (refine (same_any W3.heap.size rlen rcap rao zs v4 w4 (H3.out.2.1.below H4.out.2) (by omega) (by rw [H2.out.2.2.1, H2.out.2.2.2]; exact H4.out.1)).mono ?_); rintro e w5 ⟨rfl, hb5⟩; have H5 : Hid (Below w4.heap.size w4 w5) := hb5; clear hb5))
      all_goals
        go_wp2_with fail
        go_ret
        exact ⟨rfl, (H3.out.2.2.1.trans (H4.out.2.mono H3.out.2.2.1.size)).trans (H5.out.mono (Nat.le_trans H3.out.2.2.1.size H4.out.2.size))⟩
end Go.Proofs.Ybulkbksk
