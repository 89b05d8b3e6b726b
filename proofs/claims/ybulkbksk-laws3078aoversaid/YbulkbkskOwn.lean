/-
  '(*CertSet).ownLocalsOf', first time, of a set that stands over none.
-/
import Derived.Test.YbulkbkskIdxWalk
import Derived.Test.YbulkbkskOnceDo
import Derived.Test.YbulkbkskSame
import Derived.BigQuiet
namespace Go.Proofs.Ybulkbksk
open Go.RowKit
set_option linter.unusedVariables false

theorem clo_any (bl bc L C : Nat) (R : World → Prop) (w : World) (h0 : w.cell? ⟨bl, 0, none⟩ = some (.pointer (some ⟨L, 0, none⟩))) (h1 : w.cell? ⟨bc, 0, none⟩ = some (.pointer (some ⟨C, 0, none⟩)))
    (hf : Calls Yba.prog 26 #[.pointer (some ⟨L, 10, none⟩), .pointer (some ⟨C, 0, none⟩)] w.drew fun e w' => e = .returned (.tuple #[]) ∧ R w') :
    Calls Yba.prog 25 #[.pointer (some ⟨bl, 0, none⟩), .pointer (some ⟨bc, 0, none⟩)] w fun e w' => e = .returned (.tuple #[]) ∧ R w' := by
  go_enter Yba.func25, Yba.ntmps25
  go_region_with (go_at_call 26; refine hf.mono ?_; rintro e w' ⟨rfl, hR⟩)
  all_goals
    go_wp2_with fail
    go_end0
    exact ⟨rfl, hR⟩

def AftA (L n B : Nat) (ks : List (Int × Int)) (w : World) : Prop :=
  ∃ gs ga done fa, B ≤ ga ∧ done.Perm ks ∧ w.cell? ⟨L, 10, none⟩ = some (.slice (some ⟨gs, 0, none⟩) (n + 1) (n + 1)) ∧ w.cell? ⟨L, 11, none⟩ = some (.slice (some ⟨ga, 0, none⟩) ks.length ks.length) ∧
    Ints w gs (n + 1) (fun i => ((lo ks i : Nat) : Int)) ∧ Ints w ga ks.length fa ∧ ∀ p, p < n → ∀ i z, (ats p done)[i]? = some z → fa (lo ks p + i) = z

theorem do_alone (bl bc C L b n pc : Nat) (pa : Option Addr) (cur : Array Value) (ks : List (Int × Int)) (w : World)
    (hbl : w.cell? ⟨bl, 0, none⟩ = some (.pointer (some ⟨L, 0, none⟩))) (hbc : w.cell? ⟨bc, 0, none⟩ = some (.pointer (some ⟨C, 0, none⟩))) (hlL : bl ≠ L) (hcL : bc ≠ L)
    (hC0 : w.cell? ⟨C, 0, none⟩ = some (.pointer none)) (hC6 : w.cell? ⟨C, 6, none⟩ = some (.slice pa n pc)) (hC14 : w.cell? ⟨C, 14, none⟩ = some (.map (some b))) (hCL : C ≠ L)
    (hL : At w L cur 66) (hLs : cur.size = 16) (h7 : cur[7]? = some (.int .u32 0)) (h8 : cur[8]? = some (.int .i32 0)) (hK : KMap w b ks) (hp : ∀ x ∈ ks, 0 ≤ x.1 ∧ x.1 < (n : Int)) (hn : n ≤ 8) (hk : ks.length ≤ 1024) :
    Calls Yba.prog 24 #[.pointer (some ⟨L, 7, none⟩), .func (.func 25) #[] #[.pointer (some ⟨bl, 0, none⟩), .pointer (some ⟨bc, 0, none⟩)]] w fun e w' => e = .returned (.tuple #[]) ∧ Same [L] w w' ∧ AftA L n w.heap.size ks w' := by
  have hs1 : Same [L] w (w.setCell ⟨L, 8, none⟩ (.int .i32 1)) := (Same.refl _ _).setCell (.inl (by simp)) _
  have hL1 := hL.set 8 (.int .i32 1)
  have hf := idx_alone C L b n pc pa (cur.setIfInBounds 8 (.int .i32 1)) ks (w.setCell ⟨L, 8, none⟩ (.int .i32 1)).drew (hs1.cell hC0 (by simpa using hCL)) (hs1.cell hC6 (by simpa using hCL)) (hs1.cell hC14 (by simpa using hCL)) hCL hL1 (by simpa using hLs) (hK.setCell hL _) hp hn hk
  have hclo := clo_any bl bc L C _ (w.setCell ⟨L, 8, none⟩ (.int .i32 1)) (hs1.cell hbl (by simpa using hlL)) (hs1.cell hbc (by simpa using hcL)) hf
  have hdo := do_first L 7 (.pointer (some ⟨bl, 0, none⟩)) (.pointer (some ⟨bc, 0, none⟩)) (fun w2 => Same [L] w w2 ∧ ∃ gs ga, w.heap.size ≤ gs ∧ w.heap.size ≤ ga ∧ Idx L n gs ga (cur.setIfInBounds 8 (.int .i32 1)) ks w2) w (by rw [hL.cell]; exact h7) (by rw [hL.cell]; exact h8) (hL.free 7) (hL.free 8) (by
    refine hclo.mono ?_
    rintro e w2 ⟨rfl, hs2, gs, ga, hg1, hg2, hidx⟩
    have hA : At w2 L (LB (cur.setIfInBounds 8 (.int .i32 1)) (.slice (some ⟨gs, 0, none⟩) (n + 1) (n + 1)) (.slice (some ⟨ga, 0, none⟩) ks.length ks.length)) 66 := by
      obtain ⟨_, _, _, h, _⟩ := hidx
      exact h
    refine ⟨rfl, ?_, ?_, hA.free _, hA.free _, hs1.trans ⟨hs2.os, hs2.tape, hs2.output, hs2.size, hs2.block⟩, gs, ga, by simpa using hg1, by simpa using hg2, hidx⟩
    · rw [hA.cell, LB, Array.getElem?_setIfInBounds_ne (by decide), Array.getElem?_setIfInBounds_ne (by decide), Array.getElem?_setIfInBounds_ne (by decide)]
      exact h7
    · rw [hA.cell, LB, Array.getElem?_setIfInBounds_ne (by decide), Array.getElem?_setIfInBounds_ne (by decide)]
      exact Array.getElem?_setIfInBounds_self_of_lt (by omega))
  refine hdo.mono ?_
  rintro e w' ⟨rfl, w2, ⟨hs2, gs, ga, hg1, hg2, done, fa, hp1, hA, hI1, hI2, hfill⟩, rfl⟩
  refine ⟨rfl, ((hs2.drew).setCell (.inl (by simp)) _).setCell (.inl (by simp)) _, gs, ga, done, fa, hg2, hp1, ?_, ?_, ?_, ?_, hfill⟩
  · rw [((hA.drew.set 7 _).set 8 _).cell, Array.getElem?_setIfInBounds_ne (by decide), Array.getElem?_setIfInBounds_ne (by decide), LB, Array.getElem?_setIfInBounds_ne (by decide)]
    exact Array.getElem?_setIfInBounds_self_of_lt (by simp; omega)
  · rw [((hA.drew.set 7 _).set 8 _).cell, Array.getElem?_setIfInBounds_ne (by decide), Array.getElem?_setIfInBounds_ne (by decide), LB]
    exact Array.getElem?_setIfInBounds_self_of_lt (by simp; omega)
  · have hlt := hL.lt
    exact ((hI1.drew).other (show gs ≠ L by omega) _).other (show gs ≠ L by omega) _
  · have hlt := hL.lt
    exact ((hI2.drew).other (show ga ≠ L by omega) _).other (show ga ≠ L by omega) _

theorem seg_of {w : World} {q ga : Nat} {ks done : List (Int × Int)} {fa : Nat → Int} (hp : done.Perm ks) (hI : Ints w ga ks.length fa) (hfill : ∀ i z, (ats q done)[i]? = some z → fa (lo ks q + i) = z) :
    Seg32 w (some ⟨ga, lo ks q, none⟩) (lo ks (q + 1) - lo ks q) (ats q done) := by
  have h1 := lo_succ ks q
  have h2 := lo_le ks (q + 1)
  have h3 := cn_full hp q
  refine ⟨by rw [ats_length]; omega, fun _ => ⟨ga, lo ks q, rfl, hI.lt, fun j u hu => ?_⟩⟩
  have hj := (List.getElem?_eq_some_iff.1 hu).1
  rw [ats_length] at hj
  rw [hI.cell (by omega), hfill j u hu]

/-- The set has no lazy index: nothing is read. -/
theorem own_nil (C q : Nat) (w : World) (h24 : w.cell? ⟨C, 24, none⟩ = some (.pointer none)) :
    Calls Yba.prog 18 #[.pointer (some ⟨C, 0, none⟩), .int .i32 q] w fun e w' => e = .returned (.slice none 0 0) ∧ Same [] w w' := by
  have hlt := World.block_lt_of_cell? w _ h24
  simp only at hlt
  have h24' : (w.alloc (Obj.cells #[.pointer (some ⟨C, 0, none⟩)] 23)).cell? ⟨C, 24, none⟩ = some (.pointer none) := ((Same.refl [] w).alloc _).cell h24 (by simp)
  go_enter Yba.func18, Yba.ntmps18
  go_wp2_with fail
  go_ret
  exact ⟨rfl, (Same.refl _ _).alloc _⟩

/-- What 'ownLocalsOf' hands back: a slice of the atoms of q, in some order. -/
def OwnPost (S : List Nat) (n q : Nat) (ks : List (Int × Int)) (w : World) (e : Ending) (w' : World) : Prop :=
  Same S w w' ∧ ∃ ao len cap zs done, e = .returned (.slice ao len cap) ∧ (∀ a, ao = some a → w.heap.size ≤ a.block) ∧ Seg32 w' ao len zs ∧ done.Perm ks ∧ (q < n → zs = ats q done) ∧ (n ≤ q → zs = [])

theorem Seg32.drewN {w : World} {ao : Option Addr} {len : Nat} {zs : List Int} (h : Seg32 w ao len zs) (n : Nat) : Seg32 (w.drewN n) ao len zs := ⟨h.size, h.cells⟩

set_option maxRecDepth 20000 in
set_option maxHeartbeats 1000000 in
theorem own_alone (C L b n pc q : Nat) (pa : Option Addr) (cur : Array Value) (ks : List (Int × Int)) (w : World)
    (hC0 : w.cell? ⟨C, 0, none⟩ = some (.pointer none)) (hC6 : w.cell? ⟨C, 6, none⟩ = some (.slice pa n pc)) (hC14 : w.cell? ⟨C, 14, none⟩ = some (.map (some b))) (hC24 : w.cell? ⟨C, 24, none⟩ = some (.pointer (some ⟨L, 0, none⟩))) (hCL : C ≠ L)
    (hL : At w L cur 66) (hLs : cur.size = 16) (h7 : cur[7]? = some (.int .u32 0)) (h8 : cur[8]? = some (.int .i32 0)) (hK : KMap w b ks) (hp : ∀ x ∈ ks, 0 ≤ x.1 ∧ x.1 < (n : Int)) (hn : n ≤ 8) (hk : ks.length ≤ 1024) (hq : q ≤ 10) :
    Calls Yba.prog 18 #[.pointer (some ⟨C, 0, none⟩), .int .i32 q] w (OwnPost [L] n q ks w) := by
  have hal : Same [] w ((w.alloc (Obj.cells #[.pointer (some ⟨C, 0, none⟩)] 23)).alloc (Obj.cells #[.pointer (some ⟨L, 0, none⟩)] 42)) := ((Same.refl [] w).alloc _).alloc _
  have hal1 : Same [] w (w.alloc (Obj.cells #[.pointer (some ⟨C, 0, none⟩)] 23)) := (Same.refl [] w).alloc _
  have hCl : C < w.heap.size := World.block_lt_of_cell? w _ hC0
  have hLl := hL.lt
  have hbl : ((w.alloc (Obj.cells #[.pointer (some ⟨C, 0, none⟩)] 23)).alloc (Obj.cells #[.pointer (some ⟨L, 0, none⟩)] 42)).cell? ⟨w.heap.size + 1, 0, none⟩ = some (.pointer (some ⟨L, 0, none⟩)) := by
    simp
  have hbc : ((w.alloc (Obj.cells #[.pointer (some ⟨C, 0, none⟩)] 23)).alloc (Obj.cells #[.pointer (some ⟨L, 0, none⟩)] 42)).cell? ⟨w.heap.size, 0, none⟩ = some (.pointer (some ⟨C, 0, none⟩)) := by
    simp
  have HDo : Hid _ := do_alone (w.heap.size + 1) w.heap.size C L b n pc pa cur ks _ hbl hbc (by omega) (by omega) (hal.cell hC0 (by simp)) (hal.cell hC6 (by simp)) (hal.cell hC14 (by simp)) hCL (hal.at_ hL (by simp)) hLs h7 h8 (hK.keep (hal.block b hK.lt (by simp))) hp hn hk
  have h24 := hal1.cell hC24 (by simp)
  have h24' := hal.cell hC24 (by simp)
  have h0' := hal.cell hC0 (by simp)
  have HA : Hid (Same [] w ((w.alloc (Obj.cells #[.pointer (some ⟨C, 0, none⟩)] 23)).alloc (Obj.cells #[.pointer (some ⟨L, 0, none⟩)] 42))) := hal
  have HN : Hid (C ≠ L ∧ C < w.heap.size ∧ L < w.heap.size) := ⟨hCL, hCl, hLl⟩
  clear hal hal1 hC0 hC6 hC14 hC24 hL hLs h7 h8 hK hp
  have HB : Hid (((w.alloc (Obj.cells #[.pointer (some ⟨C, 0, none⟩)] 23)).alloc (Obj.cells #[.pointer (some ⟨L, 0, none⟩)] 42)).cell? ⟨w.heap.size + 1, 0, none⟩ = some (.pointer (some ⟨L, 0, none⟩)) ∧ ((w.alloc (Obj.cells #[.pointer (some ⟨C, 0, none⟩)] 23)).alloc (Obj.cells #[.pointer (some ⟨L, 0, none⟩)] 42)).cell? ⟨w.heap.size, 0, none⟩ = some (.pointer (some ⟨C, 0, none⟩)) ∧ ((w.alloc (Obj.cells #[.pointer (some ⟨C, 0, none⟩)] 23)).alloc (Obj.cells #[.pointer (some ⟨L, 0, none⟩)] 42)).cell? ⟨C, 0, none⟩ = some (.pointer none)) := ⟨hbl, hbc, h0'⟩
  clear hbl hbc h0'
  go_enter Yba.func18, Yba.ntmps18
  go_wp2_with fail
  refine Calls.mono HDo.out ?_
  rintro e w1 ⟨rfl, hs1, gs, ga, done, fa, hBg, hp1, h10, h11, hI1, hI2, hfill⟩
  have hl1 := hs1.cell HB.out.1 (by simp; have := HN.out; omega)
  have hc1 := hs1.cell HB.out.2.1 (by simp; have := HN.out; omega)
  have hz1 := hs1.cell HB.out.2.2 (by simpa using hCL)
  have hBg' : w.heap.size ≤ ga := by simp at hBg; omega
  have HBg : Hid (∀ (a : Addr) (o : Nat), some (⟨ga, o, none⟩ : Addr) = some a → w.heap.size ≤ a.block) := by rintro a o h; cases h; exact hBg'
  clear hBg hBg'
  have hs2 := (HA.out.mono (S' := [L]) (by simp)).trans hs1
  clear HB HDo h24 h24' HA
  rcases Nat.lt_or_ge q n with hqn | hqn
  · have hq1 := hI1.cell (show q < n + 1 by omega)
    have hq2 := hI1.cell (show q + 1 < n + 1 by omega)
    have hle1 : lo ks q ≤ lo ks (q + 1) := lo_mono ks (by omega)
    have hle2 := lo_le ks (q + 1)
    have HS : Hid (Same [L] w w1 ∧ done.Perm ks ∧ Seg32 w1 (some ⟨ga, lo ks q, none⟩) (lo ks (q + 1) - lo ks q) (ats q done)) := ⟨hs2, hp1, seg_of hp1 hI2 (hfill q hqn)⟩
    clear hs1 hI1 hI2 hfill hp1 hs2
    generalize lo ks q = l0 at *
    generalize lo ks (q + 1) = l1 at *
    go_wp2_with fail
    go_quiet (fail)
    go_wp2_with fail
    · go_ret
      refine ⟨HS.out.1.drewN _, _, _, _, ats q done, done, rfl, fun a h => HBg.out a _ h, ⟨?_, fun h0 => ?_⟩, HS.out.2.1, fun _ => rfl, fun h => by omega⟩
      · have := HS.out.2.2.size
        omega
      · omega
    · go_ret
      exact ⟨HS.out.1.drewN _, _, _, _, ats q done, done, rfl, fun a h => HBg.out a _ h, HS.out.2.2.drewN _, HS.out.2.1, fun _ => rfl, fun h => by omega⟩
  · have HS : Hid (Same [L] w w1 ∧ done.Perm ks) := ⟨hs2, hp1⟩
    clear hs1 hI1 hI2 hfill hp1 hs2
    go_wp2_with fail
    go_ret
    exact ⟨HS.out.1, none, 0, 0, [], done, rfl, (fun _ h => by cases h), ⟨rfl, fun h => by omega⟩, HS.out.2, fun h => by omega, fun _ => rfl⟩
end Go.Proofs.Ybulkbksk
