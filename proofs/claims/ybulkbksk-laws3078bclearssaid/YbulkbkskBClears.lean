import Derived.Test.YbulkbkskLabels3
import Derived.ProofKit
import Derived.OpenShut
import Derived.ShutString
import Derived.ChangeOld
namespace Go.Proofs.Ybulkbksk.BClears
open Go.ChangeShapes Go.WideShapes Go.ChangeAt Go.RowKit
open Go.Proofs.Ybulkbksk
set_option linter.unusedVariables false

theorem addL_len (L : List Nat) (x : Nat) : (addL L x).length ≤ L.length + 1 := by
  unfold addL
  split <;> simp

theorem below_ls {w wr w1 : World} {Sb : Nat} {vb vl : Value} {B L : List Nat} (h : LS wr w.heap.size Sb vb vl B L) (hSb : w.heap.size ≤ Sb) (hb : Below w.heap.size w wr)
    (hs : Same (Sb :: (vb.ownBlock.toList ++ vl.ownBlock.toList)) wr w1) : Below w.heap.size w w1 := by
  refine hb.trans (hs.below ?_ hb.size)
  intro k hk
  simp at hk
  rcases hk with rfl | hk | hk
  · exact hSb
  · exact (h.hb.lt k hk).1
  · exact (h.hl.lt k hk).1

def Cells (w : World) (a0 : Option Addr) (len : Nat) (Z : Nat → Nat) : Prop :=
  ∀ k, k < len → ∃ b off, a0 = some ⟨b, off, none⟩ ∧ b < w.heap.size ∧ w.cell? ⟨b, off + k, none⟩ = some (.int .u16 (Z k)) ∧ Z k ≤ 65535

/-- What holds at the head of a round of the refill: the set's labels are the model's list. -/
def Refill (w : World) (len : Nat) (q : Nat) (vw i : Value) (wr : World) : Prop :=
  ∃ (k : Nat) (vb vl : Value) (B W : List Nat), k + q = len ∧ i = .int .i64 k ∧ LS wr w.heap.size w.heap.size vb vl B W ∧ wr.ownsRow w.heap.size 21 1 vw W.length (W.map fun n : Nat => Value.int .i32 (n : Int)) ∧
    (∀ g, vl.ownBlock = some g → vw.ownBlock ≠ some g) ∧ W.length ≤ k ∧ Below w.heap.size w wr

/-- One round: what 'want' has become behind the append or without it, then 'add'. -/
theorem Refill.next {w w1 w2 : World} {len q k x : Nat} {vb vl vw : Value} {B W : List Nat} (hk : k + q = len) (hlt : k < len) (hls : LS w1 w.heap.size w.heap.size vb vl B W)
    (hw : w1.ownsRow w.heap.size 21 1 vw (addL W x).length ((addL W x).map fun n : Nat => Value.int .i32 (n : Int))) (hd : ∀ g, vl.ownBlock = some g → vw.ownBlock ≠ some g) (hWk : W.length ≤ k) (hb : Below w.heap.size w w1)
    (hadd : AddPost w1 w.heap.size w.heap.size x vb vl B W w2) : Refill w len (q - 1) vw (.int .i64 ((k : Int) + 1)) w2 := by
  obtain ⟨vb', vl', B', hls', hs', _, hf⟩ := hadd
  refine ⟨k + 1, vb', vl', B', addL W x, by omega, by simp, hls', hs'.owns hw ?_, ?_, by have := addL_len W x; omega, below_ls hls (Nat.le_refl _) hb hs'⟩
  · intro g hg hm
    obtain ⟨_, c, hc⟩ := owns_block hw hg
    simp at hm
    rcases hm with hm | hm | hm
    · exact hc.ne hls.hS (by decide) hm
    · exact owns_ne hls.hb hc (by decide) hm
    · exact hd g hm hg
  · intro g hg hm
    rcases hf with hf | hf
    · exact hd g (by rw [← hf]; exact hg) hm
    · have h1 := hf g hg
      have h2 := (hw.lt g hm).2
      omega

theorem LS.behindAppend {w w1 w2 : World} {Sb g cap n : Nat} {vb vl vw : Value} {B W : List Nat} (hls : LS w1 w.heap.size Sb vb vl B W) (hw : w1.ownsRow w.heap.size 21 1 vw W.length (W.map fun n : Nat => Value.int .i32 (n : Int)))
    (hd : ∀ g, vl.ownBlock = some g → vw.ownBlock ≠ some g) (hb : Below w.heap.size w w1) (hs : Same vw.ownBlock.toList w1 w2) (hat : vw.ownBlock = some g ∨ w1.heap.size ≤ g) :
    LS w2 w.heap.size Sb vb vl B W ∧ (∀ g', vl.ownBlock = some g' → (Value.slice (some ⟨g, 0, none⟩) n cap).ownBlock ≠ some g') ∧ Below w.heap.size w w2 := by
  refine ⟨hls.same hs ?_ ?_ ?_, ?_, hb.trans (hs.below ?_ hb.size)⟩
  · intro hm
    simp at hm
    exact owns_ne hw hls.hS (by decide) hm
  · intro g' hg' hm
    simp at hm
    obtain ⟨_, c, hc⟩ := owns_block hls.hb hg'
    exact owns_ne hw hc (by decide) hm
  · intro g' hg' hm
    simp at hm
    exact hd g' hg' hm
  · intro g' hg' hm
    simp [Value.ownBlock] at hm
    subst hm
    rcases hat with hat | hat
    · exact hd _ hg' hat
    · have := (hls.hl.lt _ hg').2
      omega
  · intro b hb'
    simp at hb'
    exact (hw.lt b hb').1

/-- The set and the model's list, behind the refill. -/
def Full (w : World) (vb vl vw : Value) (B W : List Nat) (wr : World) : Prop :=
  LS wr w.heap.size w.heap.size vb vl B W ∧ wr.ownsRow w.heap.size 21 1 vw W.length (W.map fun n : Nat => Value.int .i32 (n : Int)) ∧ Below w.heap.size w wr

theorem Full.draw {w wr : World} {vb vl vw : Value} {B W : List Nat} (h : Full w vb vl vw B W wr) (n : Nat) : Full w vb vl vw B W (wr.drewN n) :=
  ⟨h.1.draw n, owns_drewN h.2.1 n, ⟨h.2.2.os, h.2.2.tape, h.2.2.output, h.2.2.size, h.2.2.block⟩⟩

theorem row_cell {wr : World} {base cap k : Nat} {ao : Option Addr} {W : List Nat} (hW : wr.ownsRow base 21 1 (.slice ao W.length cap) W.length (W.map fun n : Nat => Value.int .i32 (n : Int))) (hk : k < W.length) :
    ∃ g, ao = some ⟨g, 0, none⟩ ∧ wr.cell? ⟨g, k, none⟩ = some (.int .i32 ((W.getD k 0 : Nat) : Int)) := by
  obtain ⟨g, c, cur, e1, _, a1, n1, _⟩ := owns_at hW (by omega)
  simp only [Value.slice.injEq] at e1
  obtain ⟨rfl, _, rfl⟩ := e1
  refine ⟨g, rfl, ?_⟩
  rw [hW.cellAt k (by omega)]
  simp [hk]

set_option maxRecDepth 20000 in
set_option maxHeartbeats 2000000 in
theorem walk_short (a0 a1 : Option Addr) (len0 cap0 len1 cap1 : Nat) (Z0 Z1 : Nat → Nat) (w : World) (hlen0 : len0 ≤ 1024) (hlen1 : len1 ≤ 1024) (hcell0 : Cells w a0 len0 Z0) (hcell1 : Cells w a1 len1 Z1) :
    Calls Yba.prog 5 #[.slice a0 len0 cap0, .slice a1 len1 cap1] w fun e w' => e = .returned (.bool true) ∧ Below w.heap.size w w' := by
  have HC0 : Hid (Cells w a0 len0 Z0) := hcell0
  have HC1 : Hid (Cells w a1 len1 Z1) := hcell1
  clear hcell0 hcell1
  go_enter Yba.func5, Yba.ntmps5
  go_wp2
  go_loopg [6] len0 (fun q i wr => ∃ (k : Nat) (vb vl : Value) (B L : List Nat), k + q = len0 ∧ i = .int .i64 k ∧ LS wr w.heap.size w.heap.size vb vl B L ∧ L.length ≤ k ∧ Below w.heap.size w wr)
  case atStart =>
    refine ⟨0, .slice none 0 0, .slice none 0 0, [], [], by omega, rfl, ⟨At.new w _ 77, World.ownsRow_nil _ _ _ _, World.ownsRow_nil _ _ _ _, by simp, by simp, by simp, by simp⟩, Nat.le_refl _, (Below.refl _ w).alloc (Nat.le_refl _) _⟩
  case round =>
    obtain ⟨k, vb, vl, B, L, hkq, rfl, hls, hLk, hbel⟩ := hrel
    have HL : Hid (LS wr w.heap.size w.heap.size vb vl B L ∧ Below w.heap.size w wr) := ⟨hls, hbel⟩
    clear hls hbel
    by_cases hlt : k < len0
    · obtain ⟨b, off, rfl, hb, hc, hz⟩ := HC0.out k hlt
      have hck : wr.cell? ⟨b, off + k, none⟩ = some (.int .u16 (Z0 k)) := (HL.out.2.cell (by exact hb)).trans hc
      generalize Z0 k = z at *
      clear hc
      go_wp2_with fail
      refine (bmap_any z _ hz).mono ?_
      rintro e w' ⟨rfl, rfl⟩
      have hxl : z % 2048 < 2048 := by omega
      generalize z % 2048 = x at *
      go_wp2_with fail
      refine (add_any w.heap.size w.heap.size x vb vl B L wr HL.out.1 hxl (by omega) HL.out.2.size).mono ?_
      rintro e w1 ⟨rfl, hadd⟩
      obtain ⟨vb', vl', B', hls', hs', _, _⟩ := hadd
      have H1 : Hid (LS w1 w.heap.size w.heap.size vb' vl' B' (addL L x) ∧ Below w.heap.size w w1) := ⟨hls', below_ls HL.out.1 (Nat.le_refl _) HL.out.2 hs'⟩
      clear hls' hs' HL hck
      go_wp2
      go_roundg (gk - 1)
      case measure => omega
      case rel => exact ⟨k + 1, vb', vl', B', addL L x, by omega, by go_num, H1.out.1, by have := addL_len L x; omega, H1.out.2⟩
    · obtain ⟨ab, cb, rfl⟩ := owns_form HL.out.1.hb
      have hc0 := HL.out.1.hS.cell 0
      simp at hc0
      have hbl := HL.out.1.blen
      go_wp2_with fail
      refine (empty_any w.heap.size w.heap.size _ vl B L wr HL.out.1 (by omega)).mono ?_
      rintro e w1 ⟨rfl, hem⟩
      obtain ⟨vl', B', hls', hBl, hz, hs', hvl⟩ := hem
      have H1 : Hid (LS w1 w.heap.size w.heap.size (.slice ab B.length cb) vl' B' [] ∧ Below w.heap.size w w1 ∧ B'.length = B.length ∧ (∀ j, B'.getD j 0 = 0)) := ⟨hls', below_ls HL.out.1 (Nat.le_refl _) HL.out.2 hs', hBl, hz⟩
      have hc0' := hls'.hS.cell 0
      have hc1' := hls'.hS.cell 1
      obtain ⟨al, cl, rfl⟩ := owns_form hls'.hl
      simp at hc0' hc1'
      clear hls' hs' HL hBl hz hvl hc0
      obtain ⟨w2, rfl⟩ : ∃ w2 : World, w2 = w1 := ⟨_, rfl⟩
      go_wp2_with fail
      go_loop [8] (fun i => ∃ k : Nat, k ≤ B.length ∧ i = .int .i64 k) (fun i => B.length - (intOf i).toNat)
      case atStart => exact ⟨0, Nat.zero_le _, rfl⟩
      case round =>
        obtain ⟨j, hj, rfl⟩ := hrel
        by_cases hjl : j < B.length
        · obtain ⟨hls, _, hBl, hz⟩ := H1.out
          obtain ⟨gb, cb', hv, hcw, _, _, hcb⟩ := hls.word (i := j) (by omega)
          simp only [Value.slice.injEq] at hv
          obtain ⟨rfl, _, rfl⟩ := hv
          rw [hz j] at hcw
          clear hls hBl hz
          go_wp2
          go_round
          case rel => exact ⟨j + 1, by omega, by go_num⟩
          case measure => simp [intOf]; omega
        · go_wp2_with fail
          go_loopg [9] len0 (fun q i wf => ∃ k : Nat, k + q = len0 ∧ i = .int .i64 k ∧ ∃ nd, wf = w2.drewN nd)
          case atStart => exact ⟨0, by omega, rfl, 0, rfl⟩
          case round =>
            obtain ⟨p, hpq, rfl, nd, rfl⟩ := hrel
            by_cases hpl : p < len0
            · obtain ⟨b, off, rfl, hb, hc, hz⟩ := HC0.out p hpl
              have hck : w2.cell? ⟨b, off + p, none⟩ = some (.int .u16 (Z0 p)) := (H1.out.2.1.cell (by exact hb)).trans hc
              generalize Z0 p = z at *
              clear hc
              go_wp2_with fail
              refine (bmap_any z _ hz).mono ?_
              rintro e w' ⟨rfl, rfl⟩
              have hxl : z % 2048 < 2048 := by omega
              generalize z % 2048 = x at *
              go_wp2_with fail
              refine (holds_any w.heap.size w.heap.size x _ _ B' [] (w2.drewN nd) (H1.out.1.draw nd) hxl).mono ?_
              rintro e w3 ⟨rfl, nd3, rfl⟩
              simp only [List.not_mem_nil, decide_false]
              go_wp2_with fail
              go_roundg (gk - 1)
              case measure => omega
              case rel => exact ⟨p + 1, by omega, by go_num, nd + nd3, rfl⟩
            · have H2 : Hid (LS (w2.drewN nd) w.heap.size w.heap.size (.slice ab B.length cb) (.slice al 0 cl) B' [] ∧ Below w.heap.size w (w2.drewN nd)) := ⟨H1.out.1.draw nd, ⟨H1.out.2.1.os, H1.out.2.1.tape, H1.out.2.1.output, H1.out.2.1.size, H1.out.2.1.block⟩⟩
              clear H1 hc0' hc1'
              go_wp2_with fail
              generalize w2.drewN nd = w3 at *
              go_loopg [10, 11] len1 (fun q vw i wr => Refill w len1 q vw i wr)
              case atStart => exact ⟨0, _, _, B', [], by omega, rfl, H2.out.1, World.ownsRow_nil _ _ _ _, by simp [Value.ownBlock], Nat.le_refl _, H2.out.2⟩
              case round =>
                obtain ⟨t, vb, vl, B, W, htq, rfl, hls, hw, hd, hWt, hbel⟩ := hrel
                obtain ⟨aw, cw, hvw⟩ := owns_form hw
                subst hvw
                have HL : Hid (LS wr w.heap.size w.heap.size vb vl B W ∧ wr.ownsRow w.heap.size 21 1 (.slice aw W.length cw) W.length (W.map fun n : Nat => Value.int .i32 (n : Int)) ∧ (∀ g, vl.ownBlock = some g → (Value.slice aw W.length cw).ownBlock ≠ some g) ∧ Below w.heap.size w wr) := ⟨hls, hw, hd, hbel⟩
                clear hls hw hd hbel
                by_cases htl : t < len1
                · obtain ⟨b, off, rfl, hb, hc, hz⟩ := HC1.out t htl
                  have hck : wr.cell? ⟨b, off + t, none⟩ = some (.int .u16 (Z1 t)) := (HL.out.2.2.2.cell (by exact hb)).trans hc
                  generalize Z1 t = z at *
                  clear hc
                  go_wp2_with fail
                  refine (bmap_any z _ hz).mono ?_
                  rintro e w' ⟨rfl, rfl⟩
                  have hxl : z % 2048 < 2048 := by omega
                  generalize z % 2048 = x at *
                  go_wp2_with fail
                  refine (bin_any x w.heap.size _ W wr HL.out.2.1 (by omega)).mono ?_
                  rintro e w' ⟨rfl, rfl⟩
                  by_cases hm : x ∈ W
                  · have hdm : decide (x ∈ W) = true := by simpa using hm
                    rw [hdm]
                    have hadd : addL W x = W := by unfold addL; rw [if_pos hm]
                    have HM : Hid (addL W x = W) := hadd
                    clear hdm hadd hm
                    go_wp2_with fail
                    refine (add_any w.heap.size w.heap.size x vb vl B W wr HL.out.1 hxl (by omega) HL.out.2.2.2.size).mono ?_
                    rintro e w4 ⟨rfl, hadd⟩
                    have HR : Hid (Refill w len1 (gk - 1) (.slice aw W.length cw) (.int .i64 ((t : Int) + 1)) w4) := Refill.next htq htl HL.out.1 (by rw [HM.out]; exact HL.out.2.1) HL.out.2.2.1 hWt HL.out.2.2.2 hadd
                    clear hadd
                    go_wp2
                    go_roundg (gk - 1)
                    case measure => omega
                    case rel => exact HR.out
                  · have hdm : decide (x ∈ W) = false := by simpa using hm
                    rw [hdm]
                    have hadd : addL W x = W ++ [x] := by unfold addL; rw [if_neg hm]
                    have HM : Hid (addL W x = W ++ [x]) := hadd
                    clear hdm hadd hm
                    go_wp2_with (at_builtin; go_must (refine wpList_append_one wr rfl (.tmp 106) (.tmp 108) 59 rfl w.heap.size 21 (.int .i32 0) 4 Yba.underlying59 info21 rfl HL.out.2.1 rfl _ rfl rfl (by unfold maxLen; omega) (by omega) HL.out.2.2.2.size ?_))
                    intro g cap w4 hown4 hs4 hat4
                    obtain ⟨hls4, hd4, hb4⟩ := LS.behindAppend (n := W.length + 1) (cap := cap) HL.out.1 HL.out.2.1 HL.out.2.2.1 HL.out.2.2.2 hs4 hat4
                    have H4 : Hid _ := And.intro hls4 (And.intro hd4 (And.intro hb4 hown4))
                    clear hls4 hd4 hb4 hown4 hs4 hat4
                    go_wp2_with fail
                    refine (add_any w.heap.size w.heap.size x vb vl B W w4 H4.out.1 hxl (by omega) H4.out.2.2.1.size).mono ?_
                    rintro e w5 ⟨rfl, hadd⟩
                    have HR : Hid (Refill w len1 (gk - 1) (.slice (some ⟨g, 0, none⟩) (W.length + 1) cap) (.int .i64 ((t : Int) + 1)) w5) := Refill.next htq htl H4.out.1 (by rw [HM.out]; simpa using H4.out.2.2.2) H4.out.2.1 hWt H4.out.2.2.1 hadd
                    clear hadd
                    go_wp2
                    go_roundg (gk - 1)
                    case measure => omega
                    case rel => exact HR.out
                · obtain ⟨al2, cl2, hvl⟩ := owns_form HL.out.1.hl
                  subst hvl
                  have hc1 := HL.out.1.hS.cell 1
                  simp at hc1
                  obtain ⟨w6, rfl⟩ : ∃ w6 : World, w6 = wr := ⟨_, rfl⟩
                  have HF : Hid (Full w vb (.slice al2 W.length cl2) (.slice aw W.length cw) B W w6) := ⟨HL.out.1, HL.out.2.1, HL.out.2.2.2⟩
                  go_wp2_with fail
                  go_loopg [13] W.length (fun q i wf => ∃ k : Nat, k + q = W.length ∧ i = .int .i64 k ∧ Full w vb (.slice al2 W.length cl2) (.slice aw W.length cw) B W wf)
                  case atStart => exact ⟨0, by omega, rfl, HF.out⟩
                  case round =>
                    obtain ⟨p2, hp2q, rfl, hfull⟩ := hrel
                    have HF2 : Hid (Full w vb (.slice al2 W.length cl2) (.slice aw W.length cw) B W wr) := hfull
                    clear hfull
                    have hc1 := HF2.out.1.hS.cell 1
                    simp at hc1
                    by_cases hp2 : p2 < W.length
                    · obtain ⟨g1, e1, hcl⟩ := row_cell HF2.out.1.hl hp2
                      obtain ⟨g2, e2, hcw⟩ := row_cell HF2.out.2.1 hp2
                      subst e1
                      subst e2
                      have hmem : W.getD p2 0 ∈ W := by
                        simp only [List.getD, List.getElem?_eq_getElem hp2, Option.getD_some]
                        exact List.getElem_mem _
                      have hyl := HF2.out.1.lt _ hmem
                      generalize W.getD p2 0 = y at *
                      have HH : Hid (∀ n, Calls Yba.prog 15 #[.pointer (some ⟨w.heap.size, 0, none⟩), .int .i32 y] (wr.drewN n) fun e w' => e = .returned (.bool true) ∧ ∃ m, w' = (wr.drewN n).drewN m) := by
                        intro n
                        refine (holds_any w.heap.size w.heap.size y _ _ B W (wr.drewN n) (HF2.out.1.draw n) hyl).mono ?_
                        rintro e w' ⟨rfl, hm⟩
                        exact ⟨by simp [hmem], hm⟩
                      clear hmem
                      go_wp2_with fail
                      go_quiet ((go_at_call 15; exact Calls.quiet_of (HH.out _)))
                      go_wp2_with fail
                      go_roundg (gk - 1)
                      case measure => omega
                      case rel => exact ⟨p2 + 1, by omega, by go_num, HF2.out.draw _⟩
                    · go_wp2_with fail
                      go_loopg [14] len0 (fun q i wf => ∃ k : Nat, k + q = len0 ∧ i = .int .i64 k ∧ Full w vb (.slice al2 W.length cl2) (.slice aw W.length cw) B W wf)
                      case atStart => exact ⟨0, by omega, rfl, HF2.out⟩
                      case round =>
                        obtain ⟨p3, hp3q, rfl, hfull⟩ := hrel
                        have HF3 : Hid (Full w vb (.slice al2 W.length cl2) (.slice aw W.length cw) B W wr) := hfull
                        clear hfull
                        by_cases hp3 : p3 < len0
                        · obtain ⟨b, off, rfl, hb, hc, hz⟩ := HC0.out p3 hp3
                          have hck : wr.cell? ⟨b, off + p3, none⟩ = some (.int .u16 (Z0 p3)) := (HF3.out.2.2.cell (by exact hb)).trans hc
                          generalize Z0 p3 = z at *
                          clear hc
                          go_wp2_with fail
                          refine (bmap_any z _ hz).mono ?_
                          rintro e w' ⟨rfl, rfl⟩
                          have hxl : z % 2048 < 2048 := by omega
                          generalize z % 2048 = x at *
                          go_wp2_with fail
                          refine (holds_any w.heap.size w.heap.size x _ _ B W wr HF3.out.1 hxl).mono ?_
                          rintro e w7 ⟨rfl, nd7, rfl⟩
                          generalize hbx : decide (x ∈ W) = bx
                          have HBX : Hid (decide (x ∈ W) = bx) := hbx
                          clear hbx
                          go_wp2_with fail
                          refine (bin_any x w.heap.size _ W (wr.drewN nd7) (HF3.out.draw nd7).2.1 (by omega)).mono ?_
                          rintro e w' ⟨rfl, rfl⟩
                          rw [HBX.out]
                          cases bx
                          all_goals
                            go_wp2_with fail
                            go_roundg (gk - 1)
                            case measure => omega
                            case rel => exact ⟨p3 + 1, by omega, by go_num, HF3.out.draw _⟩
                        · go_wp2
                          go_ret
                          exact ⟨rfl, HF3.out.2.2⟩
theorem own : ownKnob Yba.prog.godebug = none := by kernel_rfl
theorem laidOut : laidOutB Yba.prog = true := by kernel_rfl

/-- WHAT THE WALK IS TOLD OF A SLICE OF INTEGERS THAT CAME IN: it is nil; or it leads to a row of 'cap' cells, the numbers 'zs' (the first 'len' are its elements, the rest its spare room), each fitting its kind. -/
def IsRow (k : IntKind) (w : World) (a : Option Addr) (len cap : Nat) (zs : List Int) : Prop :=
  (a = none ∧ len = 0 ∧ cap = 0 ∧ zs = []) ∨
  ∃ x, a = some x ∧ len ≤ cap ∧ cap ≤ maxLen ∧ zs.length = cap ∧ (∀ i, i < zs.length → w.cell? (x.add i) = some (.int k (zs.getD i 0))) ∧ ∀ n ∈ zs, (Lit.int k n).wf = true


set_option maxRecDepth 20000 in
set_option maxHeartbeats 400000 in
theorem walk_long (a0 a1 : Option Addr) (len0 cap0 len1 cap1 : Nat) (w : World) (h : 1024 < len0 ∨ (len0 ≤ 1024 ∧ 1024 < len1)) (h0 : len0 ≤ 9223372036854775807) (h1 : len1 ≤ 9223372036854775807) :
    Calls Yba.prog 5 #[.slice a0 len0 cap0, .slice a1 len1 cap1] w fun e w' => e = .returned (.bool true) ∧ Below w.heap.size w w' := by
  rcases h with h | ⟨h, h'⟩
  · go_enter Yba.func5, Yba.ntmps5
    go_wp2
    go_ret
    exact ⟨rfl, Below.refl _ _⟩
  · go_enter Yba.func5, Yba.ntmps5
    go_wp2
    go_ret
    exact ⟨rfl, Below.refl _ _⟩

theorem cells_of {w : World} {a : Option Addr} {len cap : Nat} {zs : List Int} (h : IsRow .u16 w a len cap zs) : Cells w a len (fun k => (zs.getD k 0).toNat) := by
  intro k hk
  rcases h with ⟨_, rfl, _⟩ | ⟨x, rfl, h1, h2, h3, h4, h5⟩
  · omega
  · obtain ⟨b, off, rfl, hc⟩ := ints_at h4 (by omega)
    have hcell := hc k (by omega)
    have hwf : 0 ≤ zs.getD k 0 ∧ zs.getD k 0 ≤ 65535 := by simpa [List.getD] using range_u16 h5 k
    refine ⟨b, off, rfl, World.block_lt_of_cell? w _ hcell, ?_, by simp only; omega⟩
    rw [hcell]
    congr 2
    simp only
    omega

theorem len_le {w : World} {a : Option Addr} {len cap : Nat} {zs : List Int} (h : IsRow .u16 w a len cap zs) : len ≤ 9223372036854775807 := by
  rcases h with ⟨_, rfl, _⟩ | ⟨x, rfl, h1, h2, _⟩
  · omega
  · simp only [maxLen] at h2
    omega

theorem walk (a0 : Option Addr) (len0 cap0 : Nat) (z0 : List Int) (a1 : Option Addr) (len1 cap1 : Nat) (z1 : List Int) (w : World) (w0 : IsRow .u16 w a0 len0 cap0 z0) (w1 : IsRow .u16 w a1 len1 cap1 z1) :
    Calls Yba.prog 5 #[.slice a0 len0 cap0, .slice a1 len1 cap1] w fun e w' => e = .returned (.bool true) ∧ Below w.heap.size w w' := by
  by_cases hl : 1024 < len0 ∨ (len0 ≤ 1024 ∧ 1024 < len1)
  · exact walk_long a0 a1 len0 cap0 len1 cap1 w hl (len_le w0) (len_le w1)
  · exact walk_short a0 a1 len0 cap0 len1 cap1 _ _ w (by omega) (by omega) (cells_of w0) (cells_of w1)

set_option maxRecDepth 100000 in
theorem lifted (os : Os) (started : os.Started) (H : Type) (enc : TypeId × Value → H) :
    ReturnsInHanded {} Yba.checked os 5 .any (Rows.lawS3078BClearsSpec.pre6 enc Yba.prog Yba.f5 Rows.lawS3078BClearsRow.domain false) (Rows.lawS3078BClearsSpec.post enc Yba.prog Yba.f5 false true false false) := by
  refine returnsInHanded_of_change (C := Yba.checked) own started (by kernel_rfl) Yba.func5
    (ChangeSpec.witness6 (enc := enc) (C := Yba.checked) false ⟨#[], #[.slice none 0 0, .slice none 0 0], []⟩ 8 (by kernel_rfl) (by kernel_rfl) (by kernel_rfl) (by kernel_rfl)) ?_
  intro W base args ds gs before hval0 hW hcnd _
  have hval : ∀ (j : Nat) t v, Yba.f5.params[j]? = some t → args[j]? = some v → Value.okWide Yba.prog W .any base t v := hval0
  have hW' := hW
  obtain ⟨p, q, hA0, hV, rfl, hfz, hnd⟩ := hW
  have hA : DataW.TrodAll enc Yba.prog W 0 (fun _ => true) true Yba.f5.params.toList args.toList ds p := hA0
  rw [Yba.params5] at hA hval
  obtain ⟨v0, vs0, d0, ds0, p0, q0, hargs, rfl, rfl, h0, r0⟩ := trodAll_cons hA
  obtain ⟨v1, vs1, d1, ds1, p1, q1, rfl, rfl, rfl, h1, r1⟩ := trodAll_cons r0
  obtain ⟨rfl, rfl, rfl⟩ := trodAll_nil r1
  obtain rfl : args = #[v0, v1] := by cases args; simp_all
  obtain ⟨rfl, rfl⟩ := trodVars_none hV
  obtain ⟨a0, len0, cap0, rfl⟩ := okWide_slice Yba.underlying74 (hval 0 74 v0 rfl rfl)
  have k0 := h0
  have lt0 : ∀ x ∈ p0, x.block < W.heap.size := by obtain ⟨m, hm⟩ := k0; exact DataW.trod_lt m _ _ _ hm
  obtain ⟨z0, w0⟩ : ∃ zs, IsRow .u16 W a0 len0 cap0 zs := by
    obtain ⟨fuel, hf⟩ := h0
    rcases open_ints Yba.underlying74 Yba.underlying80 (by kernel_rfl) hf with ⟨hcs, _⟩ | ⟨x, l, c, zs, hcs, _, hl, hm, hz, _, hcell, hwz⟩
    · simp [Value.cells] at hcs
      obtain ⟨rfl, rfl, rfl⟩ := hcs
      exact ⟨[], .inl ⟨rfl, rfl, rfl, rfl⟩⟩
    · simp [Value.cells] at hcs
      obtain ⟨rfl, rfl, rfl⟩ := hcs
      exact ⟨zs, .inr ⟨_, rfl, hl, hm, by simpa using hz, hcell, hwz⟩⟩
  obtain ⟨a1, len1, cap1, rfl⟩ := okWide_slice Yba.underlying74 (hval 1 74 v1 rfl rfl)
  have k1 := h1
  have lt1 : ∀ x ∈ p1, x.block < W.heap.size := by obtain ⟨m, hm⟩ := k1; exact DataW.trod_lt m _ _ _ hm
  obtain ⟨z1, w1⟩ : ∃ zs, IsRow .u16 W a1 len1 cap1 zs := by
    obtain ⟨fuel, hf⟩ := h1
    rcases open_ints Yba.underlying74 Yba.underlying80 (by kernel_rfl) hf with ⟨hcs, _⟩ | ⟨x, l, c, zs, hcs, _, hl, hm, hz, _, hcell, hwz⟩
    · simp [Value.cells] at hcs
      obtain ⟨rfl, rfl, rfl⟩ := hcs
      exact ⟨[], .inl ⟨rfl, rfl, rfl, rfl⟩⟩
    · simp [Value.cells] at hcs
      obtain ⟨rfl, rfl, rfl⟩ := hcs
      exact ⟨zs, .inr ⟨_, rfl, hl, hm, by simpa using hz, hcell, hwz⟩⟩
  clear hA0 hval0
  refine (walk a0 len0 cap0 z0 a1 len1 cap1 z1 W w0 w1).mono fun e W' ⟨he, bel⟩ => ?_
  subst he
  exact ⟨_, rfl, _, _, _, [], _, [], hW', trodAll_mk1 (shut_bool Yba.underlying4 _), (trodAll_cons_mk (Below.trod laidOut (by kernel_rfl) (of_decide_eq_true (by kernel_rfl)) k0 bel lt0) (trodAll_cons_mk (Below.trod laidOut (by kernel_rfl) (of_decide_eq_true (by kernel_rfl)) k1 bel lt1) trodAll_mk0)), rfl, bel.frame _, fun h => by cases h⟩

theorem over : Rows.lawS3078BClearsRow.holds Yba.pinned (OpenSpec.ofChange Rows.lawS3078BClearsSpec) :=
  OpenClaim.holds_of_wide 5 Yba.f5 rfl rfl rfl rfl rfl rfl rfl ⟨rfl, rfl, rfl, rfl, rfl⟩ rfl rfl rfl rfl rfl (by kernel_rfl) Yba.func5 (by kernel_rfl)
    (of_decide_eq_true (by kernel_rfl)) (by unfold Func.isWrapper; first | (rw [if_pos (by decide +kernel)]; kernel_rfl) | (rw [if_neg (by decide +kernel)]; exact ⟨rfl, rfl⟩))
    (fun os started H enc _ => lifted os started H enc)

/-- ████ THE STATEMENT ████ -/
theorem proved : Rows.LawS3078BClearsSaid := over
end Go.Proofs.Ybulkbksk.BClears
