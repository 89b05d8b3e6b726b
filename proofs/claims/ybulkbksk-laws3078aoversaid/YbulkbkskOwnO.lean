/-
  '(*CertSet).ownLocalsOf', first time, of a set that stands over another; 'localsOf' of such a set.
-/
import Derived.Test.YbulkbkskOvr
import Derived.Test.YbulkbkskLoc
namespace Go.Proofs.Ybulkbksk
open Go.RowKit
set_option linter.unusedVariables false

def AftO (L B : Nat) (ks : List (Int × Int)) (w : World) : Prop :=
  ∃ M base n done, done.Perm ks ∧ w.cell? ⟨L, 12, none⟩ = some (.map (some M)) ∧ Gr w M base n done ∧ B ≤ base ∧ n ≤ 1024

theorem grown_setCell (w : World) (a : Addr) (v : Value) : w.grownBy (w.setCell a v) (some a.block) :=
  ⟨rfl, rfl, rfl, by simp, fun k _ hne => Below.heap_setCell _ _ _ _ (by intro e; exact hne (by rw [e]))⟩

theorem do_over (bl bc C L b U : Nat) (cur : Array Value) (ks : List (Int × Int)) (w : World)
    (hbl : w.cell? ⟨bl, 0, none⟩ = some (.pointer (some ⟨L, 0, none⟩))) (hbc : w.cell? ⟨bc, 0, none⟩ = some (.pointer (some ⟨C, 0, none⟩))) (hlL : bl ≠ L) (hcL : bc ≠ L)
    (hC0 : w.cell? ⟨C, 0, none⟩ = some (.pointer (some ⟨U, 0, none⟩))) (hC14 : w.cell? ⟨C, 14, none⟩ = some (.map (some b))) (hCL : C ≠ L)
    (hL : At w L cur 66) (hLs : cur.size = 16) (h7 : cur[7]? = some (.int .u32 0)) (h8 : cur[8]? = some (.int .i32 0)) (hK : KMap w b ks) (hp : ∀ x ∈ ks, 0 ≤ x.1 ∧ x.1 < 1000) (hk : ks.length ≤ 1024) :
    Calls Yba.prog 24 #[.pointer (some ⟨L, 7, none⟩), .func (.func 25) #[] #[.pointer (some ⟨bl, 0, none⟩), .pointer (some ⟨bc, 0, none⟩)]] w fun e w' => e = .returned (.tuple #[]) ∧ Same [L] w w' ∧ AftO L w.heap.size ks w' := by
  have hs1 : Same [L] w (w.setCell ⟨L, 8, none⟩ (.int .i32 1)) := (Same.refl _ _).setCell (.inl (by simp)) _
  have hL1 := hL.set 8 (.int .i32 1)
  have hf := idx_over C L b U (cur.setIfInBounds 8 (.int .i32 1)) ks (w.setCell ⟨L, 8, none⟩ (.int .i32 1)).drew (hs1.cell hC0 (by simpa using hCL)) (hs1.cell hC14 (by simpa using hCL)) hCL hL1 (by simpa using hLs) (hK.setCell hL _) hp hk
  have hclo := clo_any bl bc L C _ (w.setCell ⟨L, 8, none⟩ (.int .i32 1)) (hs1.cell hbl (by simpa using hlL)) (hs1.cell hbc (by simpa using hcL)) hf
  have hdo := do_first L 7 (.pointer (some ⟨bl, 0, none⟩)) (.pointer (some ⟨bc, 0, none⟩)) (fun w2 => Same [L] w w2 ∧ IdxO L w.heap.size (cur.setIfInBounds 8 (.int .i32 1)) ks w2) w (by rw [hL.cell]; exact h7) (by rw [hL.cell]; exact h8) (hL.free 7) (hL.free 8) (by
    refine hclo.mono ?_
    rintro e w2 ⟨rfl, hs2, hidx⟩
    obtain ⟨M, base, n, done, hp1, hA, hg, hB1, hB2, hLb, hn⟩ := hidx
    refine ⟨rfl, ?_, ?_, hA.free _, hA.free _, hs1.trans ⟨hs2.os, hs2.tape, hs2.output, hs2.size, hs2.block⟩, M, base, n, done, hp1, hA, hg, by simpa using hB1, by simpa using hB2, hLb, hn⟩
    · rw [hA.cell, Array.getElem?_setIfInBounds_ne (by decide), Array.getElem?_setIfInBounds_ne (by decide)]
      exact h7
    · rw [hA.cell, Array.getElem?_setIfInBounds_ne (by decide)]
      exact Array.getElem?_setIfInBounds_self_of_lt (by omega))
  refine hdo.mono ?_
  rintro e w' ⟨rfl, w2, ⟨hs2, M, base, n, done, hp1, hA, hg, hB1, hB2, hLb, hn⟩, rfl⟩
  have hlt := hL.lt
  have hgd : Gr w2.drew M base n done := hg
  refine ⟨rfl, ((hs2.drew).setCell (.inl (by simp)) _).setCell (.inl (by simp)) _, M, base, n, done, hp1, ?_, ?_, hB2, hn⟩
  · rw [((hA.drew.set 7 _).set 8 _).cell, Array.getElem?_setIfInBounds_ne (by decide), Array.getElem?_setIfInBounds_ne (by decide)]
    exact Array.getElem?_setIfInBounds_self_of_lt (by simp; omega)
  · exact (hgd.kept (grown_setCell _ ⟨L, 7, none⟩ _) (by simp; omega) (by intro j hj; simp at hj; omega)).kept (grown_setCell _ ⟨L, 8, none⟩ _) (by simp; omega) (by intro j hj; simp at hj; omega)

theorem seg_ints {w : World} {base : Nat} {v : Value} {zs : List Int} (h : w.ownsInts base 21 .i32 v zs) : ∃ ao len cap, v = .slice ao len cap ∧ (∀ a, ao = some a → base ≤ a.block) ∧ Seg32 w ao len zs := by
  have hl : zs.length = zs.length := rfl
  rcases h.1.2 with ⟨rfl, h0⟩ | ⟨g, cap, cur, rfl, hg, hh, hn, _, hs, ht⟩
  · exact ⟨none, 0, 0, rfl, by simp, h0, fun h => by omega⟩
  · refine ⟨_, _, _, rfl, (by rintro a ha; cases ha; exact hg), rfl, fun _ => ⟨g, 0, rfl, lt_of_block hh, fun j u hu => ?_⟩⟩
    have hj := (List.getElem?_eq_some_iff.1 hu).1
    have hc := h.1.cellAt j (by omega)
    rw [Nat.zero_add, cell_of_row w g j cur 21 (0, 0) hh]
    have h2 : (cur.toList.take (zs.length * 1))[j]? = some (.int .i32 u) := by rw [ht, List.getElem?_map, hu]; rfl
    rw [List.getElem?_take_of_lt (by omega)] at h2
    simpa using h2

def OwnPostO (S : List Nat) (q : Nat) (ks : List (Int × Int)) (w : World) (e : Ending) (w' : World) : Prop :=
  Same S w w' ∧ ∃ ao len cap done, e = .returned (.slice ao len cap) ∧ (∀ a, ao = some a → w.heap.size ≤ a.block) ∧ Seg32 w' ao len (ats q done) ∧ done.Perm ks

set_option maxRecDepth 20000 in
set_option maxHeartbeats 1000000 in
theorem own_over (C L b U q : Nat) (cur : Array Value) (ks : List (Int × Int)) (w : World)
    (hC0 : w.cell? ⟨C, 0, none⟩ = some (.pointer (some ⟨U, 0, none⟩))) (hC14 : w.cell? ⟨C, 14, none⟩ = some (.map (some b))) (hC24 : w.cell? ⟨C, 24, none⟩ = some (.pointer (some ⟨L, 0, none⟩))) (hCL : C ≠ L)
    (hL : At w L cur 66) (hLs : cur.size = 16) (h7 : cur[7]? = some (.int .u32 0)) (h8 : cur[8]? = some (.int .i32 0)) (hK : KMap w b ks) (hp : ∀ x ∈ ks, 0 ≤ x.1 ∧ x.1 < 1000) (hk : ks.length ≤ 1024) (hq : q ≤ 10) :
    Calls Yba.prog 18 #[.pointer (some ⟨C, 0, none⟩), .int .i32 q] w (OwnPostO [L] q ks w) := by
  have hal : Same [] w ((w.alloc (Obj.cells #[.pointer (some ⟨C, 0, none⟩)] 23)).alloc (Obj.cells #[.pointer (some ⟨L, 0, none⟩)] 42)) := ((Same.refl [] w).alloc _).alloc _
  have hal1 : Same [] w (w.alloc (Obj.cells #[.pointer (some ⟨C, 0, none⟩)] 23)) := (Same.refl [] w).alloc _
  have hCl : C < w.heap.size := World.block_lt_of_cell? w _ hC0
  have hLl := hL.lt
  have hbl : ((w.alloc (Obj.cells #[.pointer (some ⟨C, 0, none⟩)] 23)).alloc (Obj.cells #[.pointer (some ⟨L, 0, none⟩)] 42)).cell? ⟨w.heap.size + 1, 0, none⟩ = some (.pointer (some ⟨L, 0, none⟩)) := by
    simp
  have hbc : ((w.alloc (Obj.cells #[.pointer (some ⟨C, 0, none⟩)] 23)).alloc (Obj.cells #[.pointer (some ⟨L, 0, none⟩)] 42)).cell? ⟨w.heap.size, 0, none⟩ = some (.pointer (some ⟨C, 0, none⟩)) := by
    simp
  have HDo : Hid _ := do_over (w.heap.size + 1) w.heap.size C L b U cur ks _ hbl hbc (by omega) (by omega) (hal.cell hC0 (by simp)) (hal.cell hC14 (by simp)) hCL (hal.at_ hL (by simp)) hLs h7 h8 (hK.keep (hal.block b hK.lt (by simp))) hp hk
  have h24 := hal1.cell hC24 (by simp)
  have h24' := hal.cell hC24 (by simp)
  have h0' := hal.cell hC0 (by simp)
  have HA : Hid (Same [] w ((w.alloc (Obj.cells #[.pointer (some ⟨C, 0, none⟩)] 23)).alloc (Obj.cells #[.pointer (some ⟨L, 0, none⟩)] 42))) := hal
  have HN : Hid (C ≠ L ∧ C < w.heap.size ∧ L < w.heap.size) := ⟨hCL, hCl, hLl⟩
  clear hal hal1 hC0 hC14 hC24 hL hLs h7 h8 hK hp
  have HB : Hid (((w.alloc (Obj.cells #[.pointer (some ⟨C, 0, none⟩)] 23)).alloc (Obj.cells #[.pointer (some ⟨L, 0, none⟩)] 42)).cell? ⟨w.heap.size + 1, 0, none⟩ = some (.pointer (some ⟨L, 0, none⟩)) ∧ ((w.alloc (Obj.cells #[.pointer (some ⟨C, 0, none⟩)] 23)).alloc (Obj.cells #[.pointer (some ⟨L, 0, none⟩)] 42)).cell? ⟨w.heap.size, 0, none⟩ = some (.pointer (some ⟨C, 0, none⟩)) ∧ ((w.alloc (Obj.cells #[.pointer (some ⟨C, 0, none⟩)] 23)).alloc (Obj.cells #[.pointer (some ⟨L, 0, none⟩)] 42)).cell? ⟨C, 0, none⟩ = some (.pointer (some ⟨U, 0, none⟩))) := ⟨hbl, hbc, h0'⟩
  clear hbl hbc h0'
  go_enter Yba.func18, Yba.ntmps18
  go_wp2_with fail
  refine Calls.mono HDo.out ?_
  rintro e w1 ⟨rfl, hs1, M, base, n, done, hp1, h12, hg, hB, hn⟩
  have hl1 := hs1.cell HB.out.1 (by simp; have := HN.out; omega)
  have hc1 := hs1.cell HB.out.2.1 (by simp; have := HN.out; omega)
  have hz1 := hs1.cell HB.out.2.2 (by simpa using hCL)
  have hs2 := (HA.out.mono (S' := [L]) (by simp)).trans hs1
  obtain ⟨v, hlook, hoi, _, _⟩ := hg.look (p := q) (by omega) (by omega)
  obtain ⟨ao, len, cap, rfl, hblk, hseg⟩ := seg_ints hoi
  have HS : Hid (Same [L] w w1 ∧ done.Perm ks ∧ Seg32 w1 ao len (ats q done) ∧ ∀ a, ao = some a → w.heap.size ≤ a.block) := ⟨hs2, hp1, hseg, fun a ha => by have := hblk a ha; simp at hB; omega⟩
  clear HB HDo h24 h24' HA hs1 hs2 hp1 hg hB hn hoi hblk hseg
  go_wp2_with fail
  go_ret
  exact ⟨HS.out.1, ao, len, cap, done, rfl, HS.out.2.2.2, HS.out.2.2.1, HS.out.2.1⟩
end Go.Proofs.Ybulkbksk
