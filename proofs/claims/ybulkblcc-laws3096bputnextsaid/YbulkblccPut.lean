/-
  'put' and 'putNext'.
-/
import Derived.Test.YbulkblccRows
import Derived.Test.YbulkblccSt
import Derived.Deep.RegionWith
import Derived.WalkKit
import Derived.WalkLawsBesides
import Derived.WalkSpells
import Derived.BigQuiet
import Derived.Deep.LoopGhost
import Derived.Deep.QuietTactic
import Derived.Deep.Cut
import Derived.Deep.CutRange
import Derived.Deep.DeepCutAuto
import Derived.Deep.DeepMust
namespace Go.Proofs.Ybulkblcc
open Go.RowKit
set_option linter.unusedVariables false



theorem qpush_st {B Sb Pb : Nat} {now : Int} {head : Nat} {L G : List Value} {vG nx nxAt : Value} {w : World} (h : St B Sb Pb now head L G vG nx nxAt w) (g : Addr) (hl : G.length < 100000) :
    Calls Yba.prog 5 #[.pointer (some ⟨Sb, 14, none⟩), .pointer (some g)] w fun e w' => e = .returned (.tuple #[]) ∧ ∃ vG', St B Sb Pb now head L (G ++ [.pointer (some g)]) vG' nx nxAt w' ∧ Fr [47, 54, 49] B w w' := by
  obtain ⟨fs, hS, hn, h14, h15⟩ := h.sim
  obtain ⟨fp, hP, hPr⟩ := h.p
  refine (qpush_any Sb B G.length fs vG G g w hS h14 h15 h.gs hl h.size).mono fun e w' ⟨he, v', hsame, hB, ho⟩ => ?_
  have hf : Fr [47, 49] B w w' := Fr.ofSame hsame h.size (by
    intro b hb
    simp at hb
    rcases hb with rfl | hb
    · obtain ⟨cur, hc, _⟩ := hS
      exact ⟨h.hs, cur, 47, by simp, hc⟩
    · obtain ⟨hg, cur, hc⟩ := owns_block h.gs hb
      exact ⟨hg, cur, 49, by simp, hc⟩)
  refine ⟨he, v', ⟨⟨_, hB, ?_, ?_, ?_⟩, ⟨fp, hf.blk hP (by decide), hPr⟩, ?_, h.hs, h.hp⟩, hf.mono (by simp)⟩
  · rw [upd_ne _ _ (by omega)]; exact hn
  · rw [upd_same]
  · rw [upd_ne _ _ (by omega)]; exact h15
  · simpa using ho

set_option maxRecDepth 20000 in
set_option maxHeartbeats 1000000 in
theorem put_room {B Sb Pb : Nat} {now : Int} {head : Nat} {L G : List Value} {vG nx nxAt : Value} {w : World} (h : St B Sb Pb now head L G vG nx nxAt w) (g : Addr) (hl : L.length < 256) :
    Calls Yba.prog 10 #[.pointer (some ⟨Sb, 0, none⟩), .pointer (some ⟨Pb, 0, none⟩), .pointer (some g)] w fun e w' => e = .returned (.tuple #[]) ∧ St B Sb Pb now head (L ++ [.pointer (some g)]) G vG nx nxAt w' ∧ Fr [47, 54, 49] B w w' := by
  have HS : Hid (St B Sb Pb now head L G vG nx nxAt w) := h
  clear h
  go_enter Yba.func10, Yba.ntmps10
  go_wp2_with (first | (go_at_call 11; go_must (refine (len_st HS.out).mono ?_); rintro e w' ⟨rfl, rfl⟩) | (go_at_call 4; go_must (refine (push_st HS.out g hl).mono ?_); rintro e w' ⟨rfl, hst, hfr⟩; have H1 : Hid _ := And.intro hst hfr; clear hst hfr))
  refine bodyPost_ret (results_none rfl _ _ _) rfl ?_
  exact ⟨rfl, H1.out⟩

set_option maxRecDepth 20000 in
set_option maxHeartbeats 1000000 in
theorem put_full {B Sb Pb : Nat} {now : Int} {head : Nat} {L G : List Value} {vG nx nxAt : Value} {w : World} (h : St B Sb Pb now head L G vG nx nxAt w) (g : Addr) (hl : L.length = 256) (hp : ∀ v ∈ L, ∃ a, v = .pointer (some a)) (hG : G.length < 1000) :
    Calls Yba.prog 10 #[.pointer (some ⟨Sb, 0, none⟩), .pointer (some ⟨Pb, 0, none⟩), .pointer (some g)] w fun e w' => e = .returned (.tuple #[]) ∧ ∃ head' vG', St B Sb Pb now head' (L.drop 128) (G ++ L.take 128 ++ [.pointer (some g)]) vG' nx nxAt w' ∧ Fr [47, 54, 49] B w w' := by
  have HS : Hid (St B Sb Pb now head L G vG nx nxAt w) := h
  have HP : Hid (∀ v ∈ L, ∃ a, v = .pointer (some a)) := hp
  have HL : Hid (L.length = 256) := hl
  have hl1 : L.length ≤ 256 := by omega
  have hl2 : 256 ≤ L.length := by omega
  clear h hp hl
  go_enter Yba.func10, Yba.ntmps10
  go_wp2_with (first | (go_at_call 11; go_must (refine (len_st HS.out).mono ?_); rintro e w' ⟨rfl, rfl⟩))
  go_loopg [16] 128 (fun q i wr => ∃ (k head' : Nat) (vG' : Value), k + q = 128 ∧ i = .int .i64 k ∧ St B Sb Pb now head' (L.drop k) (G ++ L.take k) vG' nx nxAt wr ∧ Fr [47, 54, 49] B w wr)
  case atStart => exact ⟨0, head, vG, by omega, rfl, by simpa using HS.out, Fr.refl _ _ _⟩
  case round =>
    obtain ⟨k, head', vG', hkq, rfl, hst, hfr⟩ := hrel
    by_cases hk : k < 128
    · obtain ⟨a, ha⟩ := HP.out (L[k]'(by omega)) (List.getElem_mem _)
      have hdrop : L.drop k = .pointer (some a) :: L.drop (k + 1) := by rw [List.drop_eq_getElem_cons (by omega), ha]
      have htake : G ++ L.take k ++ [.pointer (some a)] = G ++ L.take (k + 1) := by rw [List.take_succ_eq_append_getElem (by omega), ha, List.append_assoc]
      rw [hdrop] at hst
      have HT : Hid (G ++ L.take k ++ [.pointer (some a)] = G ++ L.take (k + 1)) := htake
      have HW : Hid (St B Sb Pb now head' (.pointer (some a) :: L.drop (k + 1)) (G ++ L.take k) vG' nx nxAt wr.drew) := hst.drewN 1
      have HF : Hid (Fr [47, 54, 49] B w wr.drew) := hfr.drewN 1
      have hlen : (G ++ L.take k).length < 100000 := by simp; omega
      clear hst hfr hdrop htake ha
      go_wp2_with fail
      go_region_with (first
        | (go_at_call 12; go_must (refine (pop_st HW.out).mono ?_); rintro e w1 ⟨rfl, hst1, hfr1⟩; have H1 : Hid _ := And.intro hst1 hfr1; clear hst1 hfr1)
        | (go_at_call 5; go_must (refine (qpush_st H1.out.1 a hlen).mono ?_); rintro e w2 ⟨rfl, vG2, hst2, hfr2⟩; have H2 : Hid _ := And.intro hst2 hfr2; clear hst2 hfr2))
      go_wp2_with fail
      go_roundg (gk - 1)
      case measure => omega
      case rel => exact ⟨k + 1, (head' + 1) % 256, vG2, by omega, by go_num, HT.out ▸ H2.out.1, (HF.out.trans H1.out.2).trans H2.out.2⟩
    · obtain rfl : k = 128 := by omega
      have HW : Hid (St B Sb Pb now head' (L.drop 128) (G ++ L.take 128) vG' nx nxAt wr) := hst
      have HF : Hid (Fr [47, 54, 49] B w wr) := hfr
      have hlen : (G ++ L.take 128).length < 100000 := by simp; omega
      clear hst hfr
      go_wp2_with (go_at_call 5; go_must (refine (qpush_st HW.out g hlen).mono ?_); rintro e w2 ⟨rfl, vG2, hst2, hfr2⟩; have H2 : Hid _ := And.intro hst2 hfr2; clear hst2 hfr2)
      go_end0
      exact ⟨rfl, head', vG2, H2.out.1, HF.out.trans H2.out.2⟩

/-- What becomes of the ring and of the global queue where the slot held 'a'. -/
def ringAfter (L : List Value) (nx : Value) : List Value := if L.length < 256 then L ++ [nx] else L.drop 128
def globAfter (L G : List Value) (nx : Value) : List Value := if L.length < 256 then G else G ++ L.take 128 ++ [nx]

theorem put_any {B Sb Pb : Nat} {now : Int} {head : Nat} {L G : List Value} {vG nx nxAt : Value} {w : World} (h : St B Sb Pb now head L G vG nx nxAt w) (g : Addr) (hp : ∀ v ∈ L, ∃ a, v = .pointer (some a)) (hG : G.length < 1000) :
    Calls Yba.prog 10 #[.pointer (some ⟨Sb, 0, none⟩), .pointer (some ⟨Pb, 0, none⟩), .pointer (some g)] w fun e w' => e = .returned (.tuple #[]) ∧ ∃ head' vG', St B Sb Pb now head' (ringAfter L (.pointer (some g))) (globAfter L G (.pointer (some g))) vG' nx nxAt w' ∧ Fr [47, 54, 49] B w w' := by
  unfold ringAfter globAfter
  have hle : L.length ≤ 256 := by
    obtain ⟨f, _, hR, _⟩ := h.p
    exact hR.len
  by_cases hl : L.length < 256
  · simp only [hl, if_true]
    exact (put_room h g hl).mono fun e w' ⟨he, h1, h2⟩ => ⟨he, head, vG, h1, h2⟩
  · simp only [hl, if_false]
    exact put_full h g (by omega) hp hG

/-- The two stores at the end of putNext. -/
theorem St.slot {B Sb Pb : Nat} {now : Int} {head : Nat} {L G : List Value} {vG nx nxAt : Value} {w : World} (h : St B Sb Pb now head L G vG nx nxAt w) (u v : Value) :
    St B Sb Pb now head L G vG u v ((w.setCell ⟨Pb, 2, none⟩ u).setCell ⟨Pb, 3, none⟩ v) ∧ Fr [47, 54, 49] B w ((w.setCell ⟨Pb, 2, none⟩ u).setCell ⟨Pb, 3, none⟩ v) := by
  obtain ⟨fs, hS, hSr⟩ := h.sim
  obtain ⟨fp, hP, hR, h0, h1, h2, h3, h4, h5⟩ := h.p
  have hs : Same [Pb] w ((w.setCell ⟨Pb, 2, none⟩ u).setCell ⟨Pb, 3, none⟩ v) := ((Same.refl [Pb] w).setCell (.inl (by simp)) _).setCell (.inl (by simp)) _
  have hf : Fr [54] B w ((w.setCell ⟨Pb, 2, none⟩ u).setCell ⟨Pb, 3, none⟩ v) := Fr.ofSame hs h.size (by intro b hb; simp at hb; subst hb; obtain ⟨cur, hc, _⟩ := hP; exact ⟨h.hp, cur, 54, by simp, hc⟩)
  have hB := (hP.set 2 u (by omega)).set 3 v (by omega)
  have hne : ∀ j, j ≠ 2 → j ≠ 3 → upd (upd fp 2 u) 3 v j = fp j := fun j h1 h2 => by rw [upd_ne _ _ h2, upd_ne _ _ h1]
  refine ⟨⟨⟨fs, hf.blk hS (by decide), hSr⟩, ⟨_, hB, ?_, ?_, ?_, ?_, ?_, ?_, ?_⟩, hf.owns h.gs (by decide), h.hs, h.hp⟩, hf.mono (by simp)⟩
  · refine ⟨hR.hd, hR.len, ?_, ?_, ?_, ?_⟩
    · rw [hne _ (by omega) (by omega)]; exact hR.fh
    · rw [hne _ (by omega) (by omega)]; exact hR.fn
    · intro i x hx
      rw [hne _ (by omega) (by omega)]; exact hR.at_ i x hx
    · intro j hj hno
      rw [hne _ (by omega) (by omega)]; exact hR.off j hj hno
  · rw [hne _ (by omega) (by omega)]; exact h0
  · rw [hne _ (by omega) (by omega)]; exact h1
  · rw [upd_ne _ _ (by omega), upd_same]
  · rw [upd_same]
  · rw [hne _ (by omega) (by omega)]; exact h4
  · rw [hne _ (by omega) (by omega)]; exact h5

section
variable {B Sb Pb : Nat} {now : Int} {head : Nat} {L G : List Value} {vG nx nxAt : Value} {w w' : World}
theorem St.cNow (h : St B Sb Pb now head L G vG nx nxAt w) : w.cell? ⟨Sb, 5, none⟩ = some (.int .i64 now) := by
  obtain ⟨f, hB, h5, _⟩ := h.sim
  rw [hB.cell (by omega), h5]
theorem St.cQ (h : St B Sb Pb now head L G vG nx nxAt w) : w.cell? ⟨Sb, 14, none⟩ = some vG := by
  obtain ⟨f, hB, _, h14, _⟩ := h.sim
  rw [hB.cell (by omega), h14]
theorem St.cQh (h : St B Sb Pb now head L G vG nx nxAt w) : w.cell? ⟨Sb, 15, none⟩ = some (.int .i64 0) := by
  obtain ⟨f, hB, _, _, h15⟩ := h.sim
  rw [hB.cell (by omega), h15]
theorem St.cNx (h : St B Sb Pb now head L G vG nx nxAt w) : w.cell? ⟨Pb, 2, none⟩ = some nx := by
  obtain ⟨f, hB, _, _, _, h2, _⟩ := h.p
  rw [hB.cell (by omega), h2]
theorem St.cNxAt (h : St B Sb Pb now head L G vG nx nxAt w) : w.cell? ⟨Pb, 3, none⟩ = some nxAt := by
  obtain ⟨f, hB, _, _, _, _, h3, _⟩ := h.p
  rw [hB.cell (by omega), h3]
theorem St.fP (h : St B Sb Pb now head L G vG nx nxAt w) (i : Nat) : w.frozen? ⟨Pb, i, none⟩ = false := by
  obtain ⟨f, hB, _⟩ := h.p
  exact hB.free i
end

set_option maxRecDepth 20000 in
set_option maxHeartbeats 1000000 in
theorem putNext_none {B Sb Pb : Nat} {now : Int} {head : Nat} {L G : List Value} {vG nxAt : Value} {w : World} (h : St B Sb Pb now head L G vG (.pointer none) nxAt w) (g : Addr) :
    Calls Yba.prog 6 #[.pointer (some ⟨Sb, 0, none⟩), .pointer (some ⟨Pb, 0, none⟩), .pointer (some g)] w fun e w' => e = .returned (.tuple #[]) ∧ St B Sb Pb now head L G vG (.pointer (some g)) (.int .i64 now) w' ∧ Fr [47, 54, 49] B w w' := by
  have hc1 := h.cNow
  have hc2 := h.cNx
  have hc3 := h.cNxAt
  have hf2 := h.fP 2
  have hf3 := h.fP 3
  have HS : Hid (St B Sb Pb now head L G vG (.pointer none) nxAt w) := h
  clear h
  go_enter Yba.func6, Yba.ntmps6
  go_wp2_with fail
  go_end0
  exact ⟨rfl, HS.out.slot _ _⟩

set_option maxRecDepth 20000 in
set_option maxHeartbeats 1000000 in
theorem putNext_some {B Sb Pb : Nat} {now : Int} {head : Nat} {L G : List Value} {vG nxAt : Value} {x : Addr} {w : World} (h : St B Sb Pb now head L G vG (.pointer (some x)) nxAt w) (g : Addr) (hp : ∀ v ∈ L, ∃ a, v = .pointer (some a)) (hG : G.length < 1000) :
    Calls Yba.prog 6 #[.pointer (some ⟨Sb, 0, none⟩), .pointer (some ⟨Pb, 0, none⟩), .pointer (some g)] w fun e w' => e = .returned (.tuple #[]) ∧ ∃ head' vG', St B Sb Pb now head' (ringAfter L (.pointer (some x))) (globAfter L G (.pointer (some x))) vG' (.pointer (some g)) (.int .i64 now) w' ∧ Fr [47, 54, 49] B w w' := by
  have hc2 := h.cNx
  have HS : Hid (St B Sb Pb now head L G vG (.pointer (some x)) nxAt w) := h
  have HP : Hid (∀ v ∈ L, ∃ a, v = .pointer (some a)) := hp
  clear h hp
  go_enter Yba.func6, Yba.ntmps6
  go_wp2_with (go_at_call 10; go_must (refine (put_any HS.out x HP.out hG).mono ?_); rintro e w2 ⟨rfl, head', vG2, hst2, hfr2⟩; have H2 : Hid _ := And.intro hst2 hfr2; have hd1 := hst2.cNow; have hd2 := hst2.cNx; have hd3 := hst2.cNxAt; have hg2 := hst2.fP 2; have hg3 := hst2.fP 3; clear hst2 hfr2)
  go_end0
  have h3 := H2.out.1.slot (.pointer (some g)) (.int .i64 now)
  exact ⟨rfl, head', vG2, h3.1, H2.out.2.trans h3.2⟩
end Go.Proofs.Ybulkblcc
