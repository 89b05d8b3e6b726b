/-
  '(*CertSet).localsOf' of a set that stands over another.
-/
import Derived.Test.YbulkbkskOwnO
import Derived.Test.YbulkbkskAlone
namespace Go.Proofs.Ybulkbksk
open Go.RowKit
set_option linter.unusedVariables false

theorem Seg32.same {w w' : World} {S : List Nat} {ao : Option Addr} {len : Nat} {zs : List Int} (h : Seg32 w ao len zs) (hs : Same S w w') (hn : ∀ a, ao = some a → a.block ∉ S) : Seg32 w' ao len zs := by
  refine ⟨h.size, fun h0 => ?_⟩
  obtain ⟨b, off, e, hl, hc⟩ := h.cells h0
  exact ⟨b, off, e, Nat.lt_of_lt_of_le hl hs.size, fun j u hu => hs.cell (hc j u hu) (show b ∉ S from hn _ e)⟩

/-- A set over another, with a fresh lazy index behind it. -/
structure TopAt (W : World) (C L b U : Nat) (ks : List (Int × Int)) : Prop where
  c0 : W.cell? ⟨C, 0, none⟩ = some (.pointer (some ⟨U, 0, none⟩))
  c14 : W.cell? ⟨C, 14, none⟩ = some (.map (some b))
  c24 : W.cell? ⟨C, 24, none⟩ = some (.pointer (some ⟨L, 0, none⟩))
  ne : C ≠ L
  hL : At W L Z66 66
  hK : KMap W b ks

theorem TopAt.same {W W' : World} {S : List Nat} {C L b U : Nat} {ks : List (Int × Int)} (h : TopAt W C L b U ks) (hs : Same S W W') (h1 : C ∉ S) (h2 : L ∉ S) (h3 : b ∉ S) : TopAt W' C L b U ks :=
  ⟨hs.cell h.c0 h1, hs.cell h.c14 h1, hs.cell h.c24 h1, h.ne, hs.at_ h.hL h2, h.hK.keep (hs.block b h.hK.lt h3)⟩

/-- The set under it. -/
structure SubAt (W : World) (C L b n : Nat) (pa : Option Addr) (pn : Nat) (ks : List (Int × Int)) : Prop where
  c0 : W.cell? ⟨C, 0, none⟩ = some (.pointer none)
  c6 : W.cell? ⟨C, 6, none⟩ = some (.slice pa n pn)
  c14 : W.cell? ⟨C, 14, none⟩ = some (.map (some b))
  c24 : W.cell? ⟨C, 24, none⟩ = some (.pointer (some ⟨L, 0, none⟩))
  ne : C ≠ L
  hL : At W L Z66 66
  hK : KMap W b ks

theorem SubAt.same {W W' : World} {S : List Nat} {C L b n pn : Nat} {pa : Option Addr} {ks : List (Int × Int)} (h : SubAt W C L b n pa pn ks) (hs : Same S W W') (h1 : C ∉ S) (h2 : L ∉ S) (h3 : b ∉ S) : SubAt W' C L b n pa pn ks :=
  ⟨hs.cell h.c0 h1, hs.cell h.c6 h1, hs.cell h.c14 h1, hs.cell h.c24 h1, h.ne, hs.at_ h.hL h2, h.hK.keep (hs.block b h.hK.lt h3)⟩

def LocPost (S : List Nat) (n q : Nat) (ku kt : List (Int × Int)) (w : World) (e : Ending) (w' : World) : Prop :=
  Same S w w' ∧ ∃ ao1 len1 cap1 zs1 done1 ao2 len2 cap2 done2, e = .returned (.agg #[.slice ao1 len1 cap1, .slice ao2 len2 cap2]) ∧ Seg32 w' ao1 len1 zs1 ∧ done1.Perm ku ∧ (q < n → zs1 = ats q done1) ∧ (n ≤ q → zs1 = []) ∧ Seg32 w' ao2 len2 (ats q done2) ∧ done2.Perm kt

set_option maxRecDepth 20000 in
set_option maxHeartbeats 1000000 in
theorem loc_over (C L b U LU bu n pn q : Nat) (pa : Option Addr) (ku kt : List (Int × Int)) (w : World) (hT : TopAt w C L b U kt) (hU : SubAt w U LU bu n pa pn ku) (h1 : C ≠ LU) (h2 : L ≠ LU)
    (hpu : ∀ x ∈ ku, 0 ≤ x.1 ∧ x.1 < (n : Int)) (hn : n ≤ 8) (hku : ku.length ≤ 1024) (hpt : ∀ x ∈ kt, 0 ≤ x.1 ∧ x.1 < 1000) (hkt : kt.length ≤ 1024) (hq : q ≤ 10) :
    Calls Yba.prog 9 #[.pointer (some ⟨C, 0, none⟩), .int .i32 q] w (LocPost [L, LU] n q ku kt w) := by
  have hal : Same [] w (w.alloc (Obj.cells #[.slice none 0 0, .slice none 0 0] 68)) := (Same.refl _ _).alloc _
  have hT0 := hT.same hal (by simp) (by simp) (by simp)
  have hU0 := hU.same hal (by simp) (by simp) (by simp)
  have h0 := hT0.c0
  have hbLU : b ≠ LU := hT.hK.at_ne hU.hL
  have HF := own_alone U LU bu n pn q pa Z66 ku _ hU0.c0 hU0.c6 hU0.c14 hU0.c24 hU0.ne hU0.hL rfl rfl rfl hU0.hK hpu hn hku hq
  have HF' : Hid (Calls Yba.prog 18 #[.pointer (some ⟨U, 0, none⟩), .int .i32 q] (w.alloc (Obj.cells #[.slice none 0 0, .slice none 0 0] 68)) (OwnPost [LU] n q ku (w.alloc (Obj.cells #[.slice none 0 0, .slice none 0 0] 68)))) := HF
  have HA : Hid (Same [] w (w.alloc (Obj.cells #[.slice none 0 0, .slice none 0 0] 68)) ∧ At (w.alloc (Obj.cells #[.slice none 0 0, .slice none 0 0] 68)) w.heap.size #[.slice none 0 0, .slice none 0 0] 68 ∧ TopAt (w.alloc (Obj.cells #[.slice none 0 0, .slice none 0 0] 68)) C L b U kt ∧ (C ≠ LU ∧ L ≠ LU ∧ b ≠ LU) ∧ LU < w.heap.size ∧ L < w.heap.size ∧ ∀ x ∈ kt, 0 ≤ x.1 ∧ x.1 < 1000) := ⟨hal, At.new _ _ _, hT0, ⟨h1, h2, hbLU⟩, hU.hL.lt, hT.hL.lt, hpt⟩
  clear HF hal hT0 hU0 hT hU h1 h2 hbLU hpu hpt
  go_enter Yba.func9, Yba.ntmps9
  go_wp2_with fail
  refine Calls.mono HF'.out ?_
  rintro e w1 ⟨hs1, ao1, len1, cap1, zs1, done1, rfl, hb1, hseg1, hp1, hz1, hz2⟩
  obtain ⟨hal, hat, hT0, ⟨n1, n2, n3⟩, l1, l2, hpt⟩ := HA.out
  have hT1 := hT0.same hs1 (by simpa using n1) (by simpa using n2) (by simpa using n3)
  have HF2 := own_over C L b U q Z66 kt w1 hT1.c0 hT1.c14 hT1.c24 hT1.ne hT1.hL rfl rfl rfl hT1.hK hpt hkt hq
  have HF2' : Hid (Calls Yba.prog 18 #[.pointer (some ⟨C, 0, none⟩), .int .i32 q] w1 (OwnPostO [L] q kt w1)) := HF2
  have H1 : Hid (Same [LU] (w.alloc (Obj.cells #[.slice none 0 0, .slice none 0 0] 68)) w1 ∧ (∀ a, ao1 = some a → w.heap.size < a.block) ∧ Seg32 w1 ao1 len1 zs1 ∧ done1.Perm ku ∧ (q < n → zs1 = ats q done1) ∧ (n ≤ q → zs1 = [])) := ⟨hs1, fun a ha => by have := hb1 a ha; simp at this; omega, hseg1, hp1, hz1, hz2⟩
  clear hal hat hT0 n1 n2 n3 l1 l2 hpt hT1 HF2 hs1 hb1 hseg1 hp1 hz1 hz2 HF'
  go_wp2_with fail
  refine Calls.mono HF2'.out ?_
  rintro e w2 ⟨hs2, ao2, len2, cap2, done2, rfl, hb2, hseg2, hp2⟩
  obtain ⟨hal, hat, hT0, ⟨n1, n2, n3⟩, l1, l2, hpt⟩ := HA.out
  obtain ⟨hs1, hb1, hseg1, hr1⟩ := H1.out
  have hat1 := hs1.at_ hat (by simp; omega)
  have hat2 := hs2.at_ hat1 (by simp; omega)
  have c0 := hat2.cell 0
  have c1 := hat2.cell 1
  have f0 := hat2.free 0
  have f1 := hat2.free 1
  simp only [List.getElem?_toArray, List.getElem?_cons_zero, List.getElem?_cons_succ] at c0 c1
  have hw1 : w.heap.size < w1.heap.size := by have := hs1.size; simp at this; omega
  have HR : Hid (Same [L, LU] w w2 ∧ Seg32 w2 ao1 len1 zs1 ∧ Seg32 w2 ao2 len2 (ats q done2) ∧ (∀ a, ao1 = some a → a.block ≠ w.heap.size) ∧ (∀ a, ao2 = some a → a.block ≠ w.heap.size) ∧ done2.Perm kt) :=
    ⟨((hal.mono (S' := [L, LU]) (by simp)).trans (hs1.mono (by simp))).trans (hs2.mono (by simp)), hseg1.same hs2 (fun a ha => by have := hb1 a ha; simp; omega), hseg2, fun a ha => by have := hb1 a ha; omega, fun a ha => by have := hb2 a ha; omega, hp2⟩
  have HT : Hid (At ((w2.setCell ⟨w.heap.size, 0, none⟩ (.slice ao1 len1 cap1)).setCell ⟨w.heap.size, 1, none⟩ (.slice ao2 len2 cap2)) w.heap.size #[.slice ao1 len1 cap1, .slice ao2 len2 cap2] 68) := by
    have := (hat2.set 0 (.slice ao1 len1 cap1)).set 1 (.slice ao2 len2 cap2)
    show At _ _ _ _
    simpa using this
  clear hal hat hT0 n1 n2 n3 l1 l2 hpt hs1 hb1 hseg1 hr1 hat1 hat2 hs2 hb2 hseg2 hp2 hw1 HF2'
  go_wp2_with fail
  refine bodyPost_ret (results_cell_row rfl _ _ w.heap.size 68 #[.slice ao1 len1 cap1, .slice ao2 len2 cap2] (0, 0) _ rfl HT.out Yba.underlying68 rfl (by kernel_rfl)) rfl ?_
  obtain ⟨r1, r2, r3, r4, r5, r6⟩ := HR.out
  exact ⟨(r1.setCell (.inr (Nat.le_refl _)) _).setCell (.inr (Nat.le_refl _)) _, ao1, len1, cap1, zs1, done1, ao2, len2, cap2, done2, rfl, (r2.other r4 _).other r4 _, H1.out.2.2.2.1, H1.out.2.2.2.2.1, H1.out.2.2.2.2.2, (r3.other r5 _).other r5 _, r6⟩
end Go.Proofs.Ybulkbksk
