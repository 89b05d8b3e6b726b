/-
  'zzs3078abuild'.
-/
import Derived.Test.YbulkbkskBuildLaws
import Derived.Test.YbulkbkskExpect
import Derived.Test.YbulkbkskRange
namespace Go.Proofs.Ybulkbksk
open Go.RowKit
set_option linter.unusedVariables false

/-- The keys of the map, in the order of their first place. -/
def keysL (m : Nat) (ds : List (Nat × Int)) : List (Int × Int) := ds.foldl (fun ks d => addKey ks (((d.1 % m : Nat) : Int), d.2)) []
theorem keysL_succ (m : Nat) (ds : List (Nat × Int)) (k : Nat) (hk : k < ds.length) : keysL m (ds.take (k + 1)) = addKey (keysL m (ds.take k)) (((ds[k].1 % m : Nat) : Int), ds[k].2) := by
  unfold keysL
  rw [List.take_succ_eq_append_getElem hk, List.foldl_append]
  rfl

theorem wf32_small {p : Nat} (h : p ≤ 1000) : wf32 (p : Int) := by
  unfold wf32
  simp [Lit.wf, IntKind.min, IntKind.max, IntKind.signed, IntKind.bits]
  omega

set_option maxRecDepth 20000 in
set_option maxHeartbeats 1000000 in
theorem build_any (ao : Option Addr) (len cap m : Nat) (ds : List (Nat × Int)) (w : World) (hD : Defs w.heap.size ao len ds w) (hwf : ∀ d ∈ ds, wf32 d.2) (hl : len ≤ 1024) (hm : 0 < m) (hm2 : m ≤ 10) :
    Calls Yba.prog 8 #[.slice ao len cap, .int .i64 m] w fun e w' => e = .returned (.map (some w.heap.size)) ∧ KMap w' w.heap.size (keysL m ds) ∧ Below w.heap.size w w' := by
  have HD : Hid (Defs w.heap.size ao len ds w) := hD
  have HW : Hid (∀ d ∈ ds, wf32 d.2) := hwf
  have HLn : Hid (ds.length = len) := hD.size
  clear hD hwf
  have hmm := @run_makeMap Yba.prog
  go_enter Yba.func8, Yba.ntmps8
  go_wp2_with fail
  go_loopg [12] len (fun qq i wr => ∃ k : Nat, k + qq = len ∧ i = .int .i64 k ∧ DMap wr w.heap.size w.heap.size k (keysL m (ds.take k)) ∧ Below w.heap.size w wr)
  case atStart => exact ⟨0, by omega, rfl, DMap.made _ _, (Below.refl _ _).alloc (Nat.le_refl _) _⟩
  case round =>
    obtain ⟨k, hkq, rfl, ho, hb⟩ := hrel
    by_cases hk : k < len
    · obtain ⟨b, off, rfl, hbl, hc⟩ := (HD.out.below hb).cells (by omega)
      have hkl : k < ds.length := by rw [HLn.out]; exact hk
      obtain ⟨c1, c2⟩ := hc k ds[k] (by simp [hkl])
      have hsm := HD.out.small ds[k] (List.getElem_mem _)
      have hw2 := HW.out ds[k] (List.getElem_mem _)
      have HE : Hid (keysL m (ds.take (k + 1)) = addKey (keysL m (ds.take k)) (((ds[k].1 % m : Nat) : Int), ds[k].2)) := keysL_succ m ds k hkl
      generalize keysL m (ds.take k) = ks at ho HE
      generalize ds[k] = d at c1 c2 hsm HE hw2
      obtain ⟨P, A⟩ := d
      simp only at c1 c2 hsm hw2
      have HW2 : Hid (wf32 A) := hw2
      have HO : Hid (DMap wr w.heap.size w.heap.size k ks) := ho
      have HB : Hid (Below w.heap.size w wr) := hb
      clear ho hb hc hw2
      have hpm : P % m < m := Nat.mod_lt _ hm
      have hbs := HB.out.size
      go_wp2_with fail
      go_region
      have hpe : (P : Int) % (m : Int) = ((P % m : Nat) : Int) := by omega
      rw [hpe]
      clear hpe
      generalize hW : ((wr.alloc (Obj.cells #[Value.int IntKind.u8 ↑P, Value.int IntKind.i32 A] 107)).alloc (Obj.cells #[Value.int IntKind.i32 ((P % m : Nat) : Int), Value.int IntKind.i32 A] 109)).drew = W
      have hWs : Same [] wr W := by rw [← hW]; exact (((Same.refl _ _).alloc _).alloc _).drew
      have hW0 : W.heap.size = wr.heap.size + 2 := by rw [← hW]; simp
      have hW1 : At W (wr.heap.size + 1) #[Value.int IntKind.i32 ((P % m : Nat) : Int), Value.int IntKind.i32 A] 109 := by
        rw [← hW]
        have := At.new (wr.alloc (Obj.cells #[Value.int IntKind.u8 ↑P, Value.int IntKind.i32 A] 107)) #[Value.int IntKind.i32 ((P % m : Nat) : Int), Value.int IntKind.i32 A] 109
        simpa using this.drew
      have hk1 : W.cell? ⟨wr.heap.size + 1, 0, none⟩ = some (Value.int IntKind.i32 ((P % m : Nat) : Int)) := by rw [hW1.cell]; rfl
      have hk2 : W.cell? ⟨wr.heap.size + 1, 1, none⟩ = some (Value.int IntKind.i32 A) := by rw [hW1.cell]; rfl
      have HWs : Hid (Same [] wr W) := hWs
      have hwp : wf32 ((P % m : Nat) : Int) := wf32_small (by omega)
      have HP : Hid (wf32 ((P % m : Nat) : Int)) := hwp
      clear hW hW1 hWs hwp c1 c2
      generalize P % m = p at *
      have HDW : Hid (DMap (W.alloc (Obj.cells #[.int .i32 0, .int .i32 0, .int .u32 1, .int .i32 (-1)] 112)) w.heap.size w.heap.size k ks) := HO.out.same (HWs.out.alloc _)
      obtain ⟨v0, st, w1, hrun, hmid⟩ := HDW.out.midst HP.out HW2.out
      unfold kv at hrun
      have hsz1 : w1.heap.size = wr.heap.size + 3 := by rw [hmid.1]; simp [hW0]
      have hnews : ∀ (j : Nat) (u : Value), [Value.int .i32 0, .int .i32 0, .int .u32 1, .int .i32 (-1)][j]? = some u → w1.cell? ((⟨wr.heap.size + 2, 0, none⟩ : Addr).add j) = some u := by
        refine World.news_of_block (t := 112) (fr := (0, 0)) (cs := #[.int .i32 0, .int .i32 0, .int .u32 1, .int .i32 (-1)]) ?_
        refine hmid.2.2.2.1 _ _ ?_
        rw [← hW0]
        exact heap_alloc_new _ _
      have HM : Hid _ := hmid
      have HN : Hid _ := hnews
      clear hmid hnews
      go_wp2_with (at_builtin; go_must (refine wpList_append_112 _ rfl (.tmp 27) (.tmp 29) rfl w.heap.size k v0 rfl HM.out.2.1 (by omega) (by omega) ⟨wr.heap.size + 2, 0, none⟩ 1 _ rfl rfl HN.out (by simp [Value.oneCell']) ?_))
      intro v2 w2 hok2 hkp2
      obtain ⟨w3, hst, hdm3, hb3⟩ := HM.out.2.2.2.2.2 w2 v2 (k + 1) (by omega) hkp2 (by omega) hok2
      unfold goInt at hst
      have hbel : Below w.heap.size w w3 := by
        exact (((HB.out.trans ((HWs.out.alloc _).below (by simp) hbs)).trans HM.out.2.2.1).trans (hkp2.below (by omega))).trans hb3
      have H3 : Hid _ := And.intro hdm3 hbel
      clear hok2 hkp2 hdm3 hbel hb3 HM
      go_wp2_with fail
      go_roundg (gk - 1)
      case measure => omega
      case rel => exact ⟨k + 1, by omega, by go_num, by rw [HE.out]; exact H3.out.1, H3.out.2⟩
    · obtain rfl : k = len := by omega
      have HK : Hid (ds.take k = ds) := by show _ = _; rw [← HLn.out, List.take_length]
      have HO : Hid (DMap wr w.heap.size w.heap.size k (keysL m (ds.take k))) := ho
      have HB : Hid (Below w.heap.size w wr) := hb
      clear ho hb
      go_wp2_with fail
      go_ret
      have := HO.out.k
      rw [HK.out] at this
      exact ⟨rfl, this, HB.out⟩
end Go.Proofs.Ybulkbksk
