/-
  '(*CertSet).localsOf' of a set that stands over none.
-/
import Derived.Test.YbulkbkskOwn
namespace Go.Proofs.Ybulkbksk
open Go.RowKit
set_option linter.unusedVariables false

theorem Seg32.other {w : World} {ao : Option Addr} {len : Nat} {zs : List Int} (h : Seg32 w ao len zs) {g o : Nat} (hb : ∀ a, ao = some a → a.block ≠ g) (v : Value) : Seg32 (w.setCell ⟨g, o, none⟩ v) ao len zs := by
  refine ⟨h.size, fun h0 => ?_⟩
  obtain ⟨b, off, e, hl, hc⟩ := h.cells h0
  refine ⟨b, off, e, by simpa using hl, fun j u hu => ?_⟩
  rw [World.cell?_setCell_other _ _ _ _ (fun e' => hb _ e (by simpa using (congrArg Addr.block e').symm))]
  exact hc j u hu

theorem loc_one (C q : Nat) (w : World) (S : List Nat) (R : World → Option Addr → Nat → Nat → Prop) (hC0 : w.cell? ⟨C, 0, none⟩ = some (.pointer none))
    (hf : Calls Yba.prog 18 #[.pointer (some ⟨C, 0, none⟩), .int .i32 q] (w.alloc (Obj.cells #[.slice none 0 0, .slice none 0 0] 68)) fun e w' => ∃ ao len cap, e = .returned (.slice ao len cap) ∧ Same S (w.alloc (Obj.cells #[.slice none 0 0, .slice none 0 0] 68)) w' ∧ R w' ao len cap)
    (hS : w.heap.size ∉ S) :
    Calls Yba.prog 9 #[.pointer (some ⟨C, 0, none⟩), .int .i32 q] w fun e w' => ∃ ao len cap w1, e = .returned (.agg #[.slice ao len cap, .slice none 0 0]) ∧ Same S w w1 ∧ R w1 ao len cap ∧ w' = (w1.setCell ⟨w.heap.size, 0, none⟩ (.slice ao len cap)).setCell ⟨w.heap.size, 1, none⟩ (.slice none 0 0) := by
  have hal : Same [] w (w.alloc (Obj.cells #[.slice none 0 0, .slice none 0 0] 68)) := (Same.refl _ _).alloc _
  have h0 := hal.cell hC0 (by simp)
  have HF : Hid (Calls Yba.prog 18 #[.pointer (some ⟨C, 0, none⟩), .int .i32 q] (w.alloc (Obj.cells #[.slice none 0 0, .slice none 0 0] 68)) fun e w' => ∃ ao len cap, e = .returned (.slice ao len cap) ∧ Same S (w.alloc (Obj.cells #[.slice none 0 0, .slice none 0 0] 68)) w' ∧ R w' ao len cap) := hf
  have HA : Hid (Same [] w (w.alloc (Obj.cells #[.slice none 0 0, .slice none 0 0] 68)) ∧ At (w.alloc (Obj.cells #[.slice none 0 0, .slice none 0 0] 68)) w.heap.size #[.slice none 0 0, .slice none 0 0] 68) := ⟨hal, At.new _ _ _⟩
  clear hf hal hC0
  go_enter Yba.func9, Yba.ntmps9
  go_wp2_with fail
  refine Calls.mono HF.out ?_
  rintro e w1 ⟨ao, len, cap, rfl, hs1, hR⟩
  have hat := hs1.at_ HA.out.2 hS
  have c0 := hat.cell 0
  have c1 := hat.cell 1
  have f0 := hat.free 0
  have f1 := hat.free 1
  simp only [List.getElem?_toArray, List.getElem?_cons_zero, List.getElem?_cons_succ] at c0 c1
  have HR : Hid (Same S w w1 ∧ R w1 ao len cap) := ⟨(HA.out.1.mono (by simp)).trans hs1, hR⟩
  have HT : Hid (At ((w1.setCell ⟨w.heap.size, 0, none⟩ (.slice ao len cap)).setCell ⟨w.heap.size, 1, none⟩ (.slice none 0 0)) w.heap.size #[.slice ao len cap, .slice none 0 0] 68) := by
    have := (hat.set 0 (.slice ao len cap)).set 1 (.slice none 0 0)
    show At _ _ _ _
    simpa using this
  clear hs1 hR hat HF
  go_wp2_with fail
  refine bodyPost_ret (results_cell_row rfl _ _ w.heap.size 68 #[.slice ao len cap, .slice none 0 0] (0, 0) _ rfl HT.out Yba.underlying68 rfl (by kernel_rfl)) rfl ?_
  exact ⟨ao, len, cap, w1, rfl, HR.out.1, HR.out.2, rfl⟩

theorem loc_nil (C q : Nat) (w : World) (hC0 : w.cell? ⟨C, 0, none⟩ = some (.pointer none)) (h24 : w.cell? ⟨C, 24, none⟩ = some (.pointer none)) :
    Calls Yba.prog 9 #[.pointer (some ⟨C, 0, none⟩), .int .i32 q] w fun e w' => e = .returned (.agg #[.slice none 0 0, .slice none 0 0]) ∧ Same [] w w' := by
  have hal : Same [] w (w.alloc (Obj.cells #[.slice none 0 0, .slice none 0 0] 68)) := (Same.refl _ _).alloc _
  refine (loc_one C q w [] (fun w' ao len cap => ao = none ∧ len = 0 ∧ cap = 0) hC0 ((own_nil C q _ (hal.cell h24 (by simp))).mono ?_) (by simp)).mono ?_
  · rintro e w' ⟨rfl, hs⟩
    exact ⟨none, 0, 0, rfl, hs, rfl, rfl, rfl⟩
  · rintro e w' ⟨ao, len, cap, w1, rfl, hs, ⟨rfl, rfl, rfl⟩, rfl⟩
    exact ⟨rfl, (hs.setCell (.inr (Nat.le_refl _)) _).setCell (.inr (Nat.le_refl _)) _⟩

theorem loc_alone (C L b n pc q : Nat) (pa : Option Addr) (cur : Array Value) (ks : List (Int × Int)) (w : World)
    (hC0 : w.cell? ⟨C, 0, none⟩ = some (.pointer none)) (hC6 : w.cell? ⟨C, 6, none⟩ = some (.slice pa n pc)) (hC14 : w.cell? ⟨C, 14, none⟩ = some (.map (some b))) (hC24 : w.cell? ⟨C, 24, none⟩ = some (.pointer (some ⟨L, 0, none⟩))) (hCL : C ≠ L)
    (hL : At w L cur 66) (hLs : cur.size = 16) (h7 : cur[7]? = some (.int .u32 0)) (h8 : cur[8]? = some (.int .i32 0)) (hK : KMap w b ks) (hp : ∀ x ∈ ks, 0 ≤ x.1 ∧ x.1 < (n : Int)) (hn : n ≤ 8) (hk : ks.length ≤ 1024) (hq : q ≤ 10) :
    Calls Yba.prog 9 #[.pointer (some ⟨C, 0, none⟩), .int .i32 q] w fun e w' => Same [L] w w' ∧ ∃ ao len cap zs done, e = .returned (.agg #[.slice ao len cap, .slice none 0 0]) ∧ Seg32 w' ao len zs ∧ done.Perm ks ∧ (q < n → zs = ats q done) ∧ (n ≤ q → zs = []) := by
  have hal : Same [] w (w.alloc (Obj.cells #[.slice none 0 0, .slice none 0 0] 68)) := (Same.refl _ _).alloc _
  have hlt := hL.lt
  refine (loc_one C q w [L] (fun w' ao len cap => (∀ a, ao = some a → w.heap.size < a.block) ∧ ∃ zs done, Seg32 w' ao len zs ∧ done.Perm ks ∧ (q < n → zs = ats q done) ∧ (n ≤ q → zs = [])) hC0
    ((own_alone C L b n pc q pa cur ks _ (hal.cell hC0 (by simp)) (hal.cell hC6 (by simp)) (hal.cell hC14 (by simp)) (hal.cell hC24 (by simp)) hCL (hal.at_ hL (by simp)) hLs h7 h8 (hK.keep (hal.block b hK.lt (by simp))) hp hn hk hq).mono ?_) (by simp; omega)).mono ?_
  · rintro e w' ⟨hs, ao, len, cap, zs, done, rfl, hb, hseg, hr⟩
    exact ⟨ao, len, cap, rfl, hs, (fun a ha => by have := hb a ha; simp at this; omega), zs, done, hseg, hr⟩
  · rintro e w' ⟨ao, len, cap, w1, rfl, hs, ⟨hb, zs, done, hseg, hr⟩, rfl⟩
    refine ⟨(hs.setCell (.inr (Nat.le_refl _)) _).setCell (.inr (Nat.le_refl _)) _, ao, len, cap, zs, done, rfl, ?_, hr⟩
    have hne : ∀ a, ao = some a → a.block ≠ w.heap.size := fun a ha => by have := hb a ha; omega
    exact (hseg.other hne _).other hne _
end Go.Proofs.Ybulkbksk
