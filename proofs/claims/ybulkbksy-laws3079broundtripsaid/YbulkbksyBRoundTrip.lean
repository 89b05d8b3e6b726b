import Derived.Test.YbulkbksyTrip
import Derived.Test.YbulkbksyApp
import Derived.ProofKit
import Derived.OpenShut
import Derived.ShutString
import Derived.ChangeOld
import Derived.SliceStrings
namespace Go.Proofs.Ybulkbksy.BRoundTrip
open Go.ChangeShapes Go.WideShapes Go.ChangeAt Go.RowKit
open Go.Proofs.Ybulkbksy
set_option linter.unusedVariables false

def Strs (w : World) (a : Option Addr) (len : Nat) (S : Nat → ByteArray) : Prop :=
  ∀ k, k < len → ∃ b off, a = some ⟨b, off, none⟩ ∧ b < w.heap.size ∧ w.cell? ⟨b, off + k, none⟩ = some (.string (S k)) ∧ (S k).size ≤ 9223372036854775807

def names (S : Nat → ByteArray) (k : Nat) : List (List Nat) := (List.range k).map fun j => nameOf (S j)

theorem names_succ (S : Nat → ByteArray) (k : Nat) : names S (k + 1) = names S k ++ [nameOf (S k)] := by
  simp [names, List.range_succ]

/-- A string's bytes, laid in a new block. -/
theorem lone_of {w : World} {base : Nat} (s : ByteArray) (hs : s.size ≠ 0) (hb : base ≤ w.heap.size) (hsz : s.size ≤ 1024) :
    Lone (w.drew.alloc (.cells (bytesRow s (grownCap w s.size 0 5)) 5 ((bytesRow s (grownCap w s.size 0 5)).size, (bytesRow s (grownCap w s.size 0 5)).size + 1))) base w.heap.size (grownCap w s.size 0 5) (nameOf s) := by
  have e : s.data.toList.length = s.size := by rw [Array.length_toList]; rfl
  have e' : s.data.size = s.size := rfl
  have hn : nameOf s = s.data.toList.map UInt8.toNat := by unfold nameOf; rw [if_neg hs]
  have hl : (nameOf s).length = s.size := by rw [hn, List.length_map, e]
  have hcm := grownCap_le_maxLen w s.size 0 5 (by unfold maxLen; omega)
  refine ⟨hb, ?_, by rw [hl]; exact grownCap_ge w s.size 0 5, by unfold maxLen at hcm; exact hcm, nameOf_small s, fun i hi => ?_⟩
  · show w.heap.size < (w.heap.push _).size
    simp
  · have hc := World.cell?_alloc_mark w.drew (bytesRow s (grownCap w s.size 0 5)) 5 ((bytesRow s (grownCap w s.size 0 5)).size, (bytesRow s (grownCap w s.size 0 5)).size + 1) i
    have hc' : (w.drew.alloc (.cells (bytesRow s (grownCap w s.size 0 5)) 5 ((bytesRow s (grownCap w s.size 0 5)).size, (bytesRow s (grownCap w s.size 0 5)).size + 1))).cell? ⟨w.heap.size, i, none⟩ = (bytesRow s (grownCap w s.size 0 5))[i]? := hc
    rw [hc', bytesRow_at s _ i (by omega), hn]
    have hi' : i < s.data.size := by omega
    simp [List.getD, Array.getElem?_eq_getElem hi']

theorem lone_news {w : World} {base g cap : Nat} {a : List Nat} (h : Lone w base g cap a) : ∀ (j : Nat) (u : Value), (a.map fun n : Nat => Value.int .u8 (n : Int))[j]? = some u → w.cell? ((⟨g, 0, none⟩ : Addr).add j) = some u := by
  intro j u hu
  have hj : j < a.length := by
    have := (List.getElem?_eq_some_iff.1 hu).1
    simpa using this
  rw [Addr.add_lit, Nat.zero_add, h.cells j hj]
  simp [hj] at hu
  simp [List.getD, hj, hu]

theorem u8_one (l : List Nat) : ∀ u ∈ (l.map fun n : Nat => Value.int .u8 (n : Int)), u.oneCell' = true := by
  intro u hu
  obtain ⟨_, _, rfl⟩ := List.mem_map.1 hu
  rfl

theorem two_new (w : World) (x y : Value) (t : TypeId) : ∀ (j : Nat) (u : Value), [x, y][j]? = some u → (w.alloc (.cells #[x, y] t)).cell? ((⟨w.heap.size, 0, none⟩ : Addr).add j) = some u := by
  intro j u hu
  rw [Addr.add_lit, Nat.zero_add, (At.new w #[x, y] t).cell]
  simpa using hu

theorem enc_cells (As : List (List Nat)) (a : List Nat) (nl : Nat) (h : a.length = nl) :
    ((enc As).map (fun n : Nat => Value.int .u8 (n : Int)) ++ [.int .u8 ((nl : Int) / 256), .int .u8 ((nl : Int) % 256)]) ++ a.map (fun n : Nat => Value.int .u8 (n : Int)) = (enc (As ++ [a])).map fun n : Nat => Value.int .u8 (n : Int) := by
  subst h
  rw [enc_snoc]
  simp [encN]

theorem seg_news {w : World} {B len cap : Nat} {ao : Option Addr} {xs : List Nat} (h : Seg w B ao len cap xs) (h0 : 0 < len) : ∃ ad, ao = some ad ∧ ∀ (j : Nat) (u : Value), (xs.map fun n : Nat => Value.int .u8 (n : Int))[j]? = some u → w.cell? (ad.add j) = some u := by
  obtain ⟨b, off, rfl, _, _, hc⟩ := h.cells h0
  refine ⟨_, rfl, fun j u hu => ?_⟩
  have hl := h.len_eq
  have hj : j < xs.length := by
    have := (List.getElem?_eq_some_iff.1 hu).1
    simpa using this
  rw [Addr.add_lit, hc j (by omega)]
  simp [hj] at hu
  simp [List.getD, hj, hu]

theorem body_cells (T I : List Nat) (n m : Nat) (hn : T.length = n) (hm : I.length = m) :
    (([Value.int .u8 (n : Int)] ++ T.map (fun n : Nat => Value.int .u8 (n : Int))) ++ [.int .u8 ((m : Int) / 256), .int .u8 ((m : Int) % 256)]) ++ I.map (fun n : Nat => Value.int .u8 (n : Int)) = (body T I).map fun n : Nat => Value.int .u8 (n : Int) := by
  subst hn
  subst hm
  simp [body]

theorem body_small (T I : List Nat) (hT : T.length ≤ 255) (h1 : ∀ x ∈ T, x < 256) (h2 : ∀ x ∈ I, x < 256) (hI : I.length ≤ 65535) : ∀ x ∈ body T I, x < 256 := by
  intro x hx
  simp only [body, List.mem_cons, List.mem_append] at hx
  rcases hx with rfl | hx | rfl | rfl | hx
  · omega
  · exact h1 x hx
  · omega
  · omega
  · exact h2 x hx

set_option maxRecDepth 20000 in
set_option maxHeartbeats 2000000 in
theorem walk_short (a0 a1 : Option Addr) (len0 cap0 len1 cap1 : Nat) (T : List Nat) (S : Nat → ByteArray) (w : World) (hlen0 : len0 ≤ 255) (hlen1 : len1 ≤ 1024) (hT : Seg w w.heap.size a0 len0 cap0 T) (hS : Strs w a1 len1 S) :
    Calls Yba.prog 4 #[.slice a0 len0 cap0, .slice a1 len1 cap1] w fun e w' => e = .returned (.bool true) ∧ Below w.heap.size w w' := by
  have HT : Hid (Seg w w.heap.size a0 len0 cap0 T) := hT
  have HS : Hid (Strs w a1 len1 S) := hS
  clear hT hS
  go_enter Yba.func4, Yba.ntmps4
  go_wp2
  go_loop [5] (fun i => ∃ k : Nat, k ≤ len1 ∧ i = .int .i64 k ∧ ∀ j, j < k → (S j).size ≤ 1024) (fun i => len1 - (intOf i).toNat)
  case atStart => exact ⟨0, Nat.zero_le _, rfl, fun j hj => by omega⟩
  case round =>
    obtain ⟨k, hk, rfl, hsm⟩ := hrel
    have HSm : Hid (∀ j, j < k → (S j).size ≤ 1024) := hsm
    clear hsm
    by_cases hlt : k < len1
    · obtain ⟨b, off, rfl, hb, hc, hsz⟩ := HS.out k hlt
      by_cases hbig : 1024 < (S k).size
      · go_wp2
        go_ret
        exact ⟨rfl, Below.refl _ _⟩
      · have HB : Hid (¬ 1024 < (S k).size) := hbig
        go_wp2
        go_round
        case rel =>
          refine ⟨k + 1, by omega, by go_num, fun j hj => ?_⟩
          by_cases hjk : j = k
          · subst hjk; have := HB.out; omega
          · exact HSm.out j (by omega)
        case measure => simp [intOf]; omega
    · have hkl : k = len1 := by omega
      have HSz : Hid (∀ j, j < len1 → (S j).size ≤ 1024) := by rw [← hkl]; exact HSm.out
      clear HSm
      go_wp2_with fail
      go_loopg [6, 7, 8] len1 (fun q va vi i wr => ∃ k : Nat, k + q = len1 ∧ i = .int .i64 k ∧ RT w va vi (names S k) wr)
      case atStart => exact ⟨0, by omega, rfl, RT.start w⟩
      case round =>
        obtain ⟨p, hpq, rfl, hrt⟩ := hrel
        have hrl : (names S p).length = p := by simp [names]
        have hel := enc_len (names S p) 1024 (fun a ha => (hrt.small a ha).2.1)
        rw [hrl] at hel
        obtain ⟨ava, cva, hva⟩ := (show ∃ ao cap, u6 = .slice ao p cap by obtain ⟨vs, h1, _⟩ := hrt.row; rw [hrl] at h1; exact owns_form h1)
        obtain ⟨avi, cvi, hvi⟩ := owns_form hrt.inner
        subst hva
        subst hvi
        have HRT : Hid (RT w (.slice ava p cva) (.slice avi (enc (names S p)).length cvi) (names S p) wr) := hrt
        clear hrt
        by_cases hpl : p < len1
        · obtain ⟨b, off, rfl, hb, hc, _⟩ := HS.out p hpl
          have hck : wr.cell? ⟨b, off + p, none⟩ = some (.string (S p)) := HRT.out.same.cell hc (by simp)
          have hsz := HSz.out p hpl
          clear hc
          have kc := fun (w : World) (s : ByteArray) => run_bytes_of_string (P := Yba.prog) w 9 22 5 s Yba.underlying9 Yba.underlying22 Yba.underlying5
          have hkl' : (enc (names S p)).length ≤ 1060000 := by omega
          generalize hL : (enc (names S p)).length = L at *
          have HLL : Hid ((enc (names S p)).length = L) := hL
          clear hL hel hrl
          obtain ⟨wo, rfl⟩ : ∃ wo : World, wo = wr := ⟨_, rfl⟩
          go_upto_region 13 with fail
          go_cut [9] (fun v wc => ∃ cap, v = .slice (some ⟨wo.heap.size, 0, none⟩) (S p).size cap ∧ Same [] wo wc ∧ wo.heap.size < wc.heap.size ∧ (S p).size ≤ cap ∧ ((S p).size ≠ 0 → Lone wc w.heap.size wo.heap.size cap (nameOf (S p))))
          case first =>
            go_wp2
            go_meet
            case rel =>
              refine ⟨_, rfl, ((Same.refl [] wo).drew).alloc _, ?_, grownCap_ge _ _ _ _, fun h0 => lone_of (S p) h0 HRT.out.same.size hsz⟩
              show wo.heap.size < (wo.heap.push _).size
              simp
          case rest =>
            obtain ⟨capn, rfl, hs1, hsz1, hcapn, hlone⟩ := hcut
            have H1 : Hid (Same [] wo wc ∧ wo.heap.size < wc.heap.size ∧ ((S p).size ≠ 0 → Lone wc w.heap.size wo.heap.size capn (nameOf (S p)))) := ⟨hs1, hsz1, hlone⟩
            obtain ⟨w1, rfl⟩ : ∃ w1 : World, w1 = wc := ⟨_, rfl⟩
            clear hs1 hlone kc hck
            go_upto_if 46 with fail
            go_cut [9] (fun v wc => ∃ g cap, v = .slice (some ⟨g, 0, none⟩) (nameOf (S p)).length cap ∧ Same [] wo wc ∧ wo.heap.size ≤ g ∧ Lone wc w.heap.size g cap (nameOf (S p)))
            case first =>
              by_cases h0 : (S p).size = 0
              · have HN : Hid (nameOf (S p) = [120]) := by show _ = _; unfold nameOf; rw [if_pos h0]
                go_wp2
                go_meet
                case rel =>
                  refine ⟨w1.heap.size, 1, by rw [HN.out]; rfl, H1.out.1.alloc _, Nat.le_of_lt H1.out.2.1, ?_⟩
                  rw [HN.out]
                  refine ⟨Nat.le_trans HRT.out.same.size (Nat.le_of_lt H1.out.2.1), by simp, by simp, by omega, by simp, fun i hi => ?_⟩
                  have : i = 0 := by simp at hi; omega
                  subst this
                  rw [(At.new w1 #[.int .u8 120] 5).cell]
                  rfl
              · have HN : Hid ((nameOf (S p)).length = (S p).size) := by
                  show _ = _
                  unfold nameOf
                  rw [if_neg h0, List.length_map, Array.length_toList]
                  rfl
                have h0' : (((S p).size : Int) == 0) = false := beq_eq_false_iff_ne.2 (by omega)
                go_wp2
                go_meet
                case rel => exact ⟨wo.heap.size, capn, by rw [HN.out], H1.out.1, Nat.le_refl _, H1.out.2.2 h0⟩
            case rest =>
              obtain ⟨g, capg, rfl, hs2, hg2, hl2⟩ := hcut
              obtain ⟨w2, rfl⟩ : ∃ w2 : World, w2 = wc := ⟨_, rfl⟩
              have hnl := nameOf_len (S p) hsz
              obtain ⟨vs, hvs, hvr⟩ := HRT.out.row
              have hvl : vs.length = p := by have := hvs.1; simpa [names] using this
              rw [show (names S p).length = p by simp [names]] at hvs
              have hvs2 : w2.ownsRow w.heap.size 22 1 (.slice ava p cva) p vs := hs2.owns hvs (by simp)
              have hi2 : w2.ownsRow w.heap.size 5 1 (.slice avi L cvi) L ((enc (names S p)).map fun n : Nat => Value.int .u8 (n : Int)) := by
                have := hs2.owns HRT.out.inner (by simp)
                rw [HLL.out] at this
                exact this
              have H2 : Hid (Same [] wo w2 ∧ wo.heap.size ≤ g ∧ Lone w2 w.heap.size g capg (nameOf (S p))) := ⟨hs2, hg2, hl2⟩
              have HV : Hid _ := And.intro hvs (And.intro hvr (And.intro hvs2 hi2))
              have hb2 : w.heap.size ≤ w2.heap.size := Nat.le_trans HRT.out.same.size hs2.size
              have hlc : (nameOf (S p)).length ≤ capg ∧ capg ≤ 9223372036854775807 := ⟨hl2.le, hl2.cap_le⟩
              clear hs2 hg2 hl2 hvs hvr hvs2 hi2 H1
              generalize hNL : (nameOf (S p)).length = nl at *
              have HNL : Hid ((nameOf (S p)).length = nl) := hNL
              clear hNL
              go_wp2_with (at_builtin; go_must (refine wpList_append_one w2 rfl (.tmp 48) (.tmp 50) 24 rfl w.heap.size 22 (.slice none 0 0) 24 Yba.underlying24 info22 rfl HV.out.2.2.1 rfl _ rfl rfl (by unfold maxLen; omega) (by omega) hb2 ?_))
              intro g3 cap3 w3 ho3 hs3 hat3
              have hi3 : w3.ownsRow w.heap.size 5 1 (.slice avi L cvi) L ((enc (names S p)).map fun n : Nat => Value.int .u8 (n : Int)) := hs3.owns HV.out.2.2.2 (by
                intro b hb hm
                simp at hm
                obtain ⟨_, c, hc⟩ := owns_block HV.out.2.2.2 hb
                exact owns_ne HV.out.2.2.1 hc (by decide) hm)
              have hb3 : w.heap.size ≤ w3.heap.size := Nat.le_trans hb2 hs3.size
              have H3 : Hid _ := And.intro ho3 (And.intro hs3 (And.intro hat3 hi3))
              clear ho3 hs3 hat3 hi3
              go_wp2_with (at_builtin; go_must (refine wpList_append_seg _ rfl (.tmp 52) (.tmp 60) 22 rfl w.heap.size 5 (.int .u8 0) 1 Yba.underlying22 info5 rfl (H3.out.2.2.2.alloc _) rfl (some ⟨w3.heap.size, 0, none⟩) 2 2 [.int .u8 ((nl : Int) / 256), .int .u8 ((nl : Int) % 256)] rfl rfl (fun _ => ⟨_, rfl, two_new _ _ _ _⟩) (by simp; exact ⟨rfl, rfl⟩) (by omega) (by unfold maxLen; omega) (by omega) (by simp; omega) ?_))
              intro g4 cap4 w4 ho4 hs4' hat4'
              have hs4 : Same (Value.slice avi L cvi).ownBlock.toList w3 w4 := ((Same.refl _ w3).alloc _).comp hs4' (fun b hb => .inl hb)
              have hat4 : (Value.slice avi L cvi).ownBlock = some g4 ∨ w3.heap.size ≤ g4 := by
                rcases hat4' with h | h
                · exact .inl h
                · right; omega
              have hb4 : w.heap.size ≤ w4.heap.size := Nat.le_trans hb3 hs4.size
              have hl4 : Lone w4 w.heap.size g capg (nameOf (S p)) := by
                refine (H2.out.2.2.same H3.out.2.1 ?_).same hs4 ?_
                · intro hm; simp at hm; have := (HV.out.1.lt g hm).2; have := H2.out.2.1; omega
                · intro hm; simp at hm; have := (HRT.out.inner.lt g hm).2; have := H2.out.2.1; omega
              have H4 : Hid _ := And.intro ho4 (And.intro hs4 (And.intro hat4 hl4))
              clear ho4 hs4 hat4 hl4 hs4' hat4'
              have hm4 : ((nameOf (S p)).map fun n : Nat => Value.int .u8 (n : Int)).length = nl := by rw [List.length_map]; exact HNL.out
              have HM4 : Hid _ := hm4
              clear hm4
              go_wp2_with (at_builtin; go_must (refine wpList_append_seg w4 rfl (.tmp 62) (.tmp 63) 22 rfl w.heap.size 5 (.int .u8 0) 1 Yba.underlying22 info5 rfl H4.out.1 rfl (some ⟨g, 0, none⟩) nl capg ((nameOf (S p)).map fun n : Nat => Value.int .u8 (n : Int)) rfl HM4.out (fun _ => ⟨_, rfl, lone_news H4.out.2.2.2⟩) (u8_one _) (by omega) (by unfold maxLen; omega) (by omega) hb4 ?_))
              intro g5 cap5 w5 ho5 hs5 hat5
              have hst : RT w (.slice (some ⟨g3, 0, none⟩) (p + 1) cap3) (.slice (some ⟨g5, 0, none⟩) (L + 2 + nl) cap5) (names S (p + 1)) w5 := by
                rw [names_succ]
                have hnp : (names S p).length = p := by simp [names]
                have e1 := enc_cells (names S p) (nameOf (S p)) nl HNL.out
                have e2 : (enc (names S p ++ [nameOf (S p)])).length = L + 2 + nl := by rw [enc_snoc, List.length_append, HLL.out]; simp [encN, HNL.out]; omega
                have hrt := HRT.out
                have := RT.step (n4 := L + 2 + nl) (c4 := cap5) (g4 := g5) (g3 := g4) (g2 := g3) (c2 := cap3) (vs := vs) (w2 := w3) (w3 := w4) (w4 := w5) hrt H2.out.1 H2.out.2.2 H2.out.2.1 (by rw [HNL.out]; exact hnl) (by rw [hnp]; exact HV.out.1) HV.out.2.1 (by rw [hnp, HNL.out]; exact H3.out.1) H3.out.2.1 H3.out.2.2.1 H4.out.2.1 H4.out.2.2.1 (H4.out.1.lt g4 rfl).2 (by rw [e2, ← e1]; simpa using ho5) (by simpa [Value.ownBlock] using hs5) (by rcases hat5 with h | h; left; simpa [Value.ownBlock] using h; exact .inr h)
                rw [hnp] at this
                exact this
              have HST : Hid _ := hst
              clear hst ho5 hs5 hat5
              go_wp2
              go_roundg (gk - 1)
              case measure => omega
              case rel => exact ⟨p + 1, by omega, by go_num, HST.out⟩
        · have hpl2 : p ≤ len1 := by omega
          have hsm : ∀ a ∈ names S p, a ≠ [] ∧ a.length < 65536 ∧ ∀ x ∈ a, x < 256 := by
            intro a ha
            obtain ⟨h1, h2, h3⟩ := HRT.out.small a ha
            exact ⟨by intro e; rw [e] at h1; simp at h1, by omega, h3⟩
          have hkl' : (enc (names S p)).length ≤ 1060000 := by omega
          obtain ⟨wo, rfl⟩ : ∃ wo : World, wo = wr := ⟨_, rfl⟩
          have hbw := HRT.out.same.size
          have HI := HRT.out.inner
          have HA : Hid (Auth wo wo.heap.size w.heap.size (.slice ava p cva) (names S p)) := HRT.out.auth
          have HES : Hid ((∀ x ∈ enc (names S p), x < 256) ∧ pN (enc (names S p)) = some (names S p)) := ⟨enc_small _ (fun a ha => ⟨(hsm a ha).2.2, (hsm a ha).2.1⟩), pN_enc _ (fun a ha => ⟨(hsm a ha).1, (hsm a ha).2.1⟩)⟩
          generalize hI : enc (names S p) = I at *
          have HIo : Hid (wo.ownsRow w.heap.size 5 1 (.slice avi I.length cvi) I.length (I.map fun n : Nat => Value.int .u8 (n : Int))) := HI
          clear HI hI hel hrl hsm
          by_cases hbig : 65535 < I.length
          · go_wp2
            go_ret
            exact ⟨rfl, HRT.out.same.below (by simp) (Nat.le_refl _)⟩
          · have hT := HT.out.same HRT.out.same (by simp)
            have HTo : Hid (Seg wo w.heap.size a0 len0 cap0 T) := hT
            have hTl := HT.out.len_eq
            have HTl : Hid (T.length = len0) := hTl
            clear hTl hT
            have hq : (wo.alloc (.cells #[.int .u8 (len0 : Int)] 5)).ownsRow wo.heap.size 5 1 (.slice (some ⟨wo.heap.size, 0, none⟩) 1 1) 1 [.int .u8 (len0 : Int)] := by
              have := World.ownsRow_lit (base := wo.heap.size) (e := 5) (size := 1) wo #[.int .u8 (len0 : Int)] 1 (Nat.le_refl _) (by unfold maxLen; omega) rfl
              simpa using this
            have HQ : Hid _ := hq
            have hTm : (T.map fun n : Nat => Value.int .u8 (n : Int)).length = len0 := by rw [List.length_map]; exact HTl.out
            have HTm : Hid _ := hTm
            have HTq : Hid (Seg (wo.alloc (.cells #[.int .u8 (len0 : Int)] 5)) w.heap.size a0 len0 cap0 T) := HTo.out.same ((Same.refl [] wo).alloc _) (by simp)
            have hIm : (I.map fun n : Nat => Value.int .u8 (n : Int)).length = I.length := List.length_map _
            have HIm : Hid _ := hIm
            clear hq hTm hIm
            go_wp2_with (at_builtin; go_must (refine wpList_append_seg _ rfl (.tmp 72) (.tmp 73) 22 rfl wo.heap.size 5 (.int .u8 0) 1 Yba.underlying22 info5 rfl HQ.out rfl a0 len0 cap0 (T.map fun n : Nat => Value.int .u8 (n : Int)) rfl HTm.out (seg_news HTq.out) (u8_one _) (by omega) (by unfold maxLen; omega) (by omega) (by simp) ?_))
            intro g1 c1 w1 ho1 hs1' hat1
            have hs1 : Same [] wo w1 := ((Same.refl [] wo).alloc _).comp hs1' (by intro b hb; simp [Value.ownBlock] at hb; right; omega)
            have hg1 := (ho1.lt g1 rfl).1
            have hb1 := hs1.size
            have H1 : Hid _ := And.intro ho1 hs1
            clear ho1 hs1' hat1 hs1 HQ HTq
            go_wp2_with (at_builtin; go_must (refine wpList_append_seg _ rfl (.tmp 75) (.tmp 83) 22 rfl wo.heap.size 5 (.int .u8 0) 1 Yba.underlying22 info5 rfl (H1.out.1.alloc _) rfl (some ⟨w1.heap.size, 0, none⟩) 2 2 [.int .u8 ((I.length : Int) / 256), .int .u8 ((I.length : Int) % 256)] rfl rfl (fun _ => ⟨_, rfl, two_new _ _ _ _⟩) (by simp; exact ⟨rfl, rfl⟩) (by omega) (by unfold maxLen; omega) (by omega) (by simp; omega) ?_))
            intro g2 c2 w2 ho2 hs2' hat2
            have hs2 : Same [] wo w2 := ((H1.out.2.alloc _).comp hs2' (by intro b hb; simp [Value.ownBlock] at hb; right; omega))
            have hg2 := (ho2.lt g2 rfl).1
            have hb2 := hs2.size
            obtain ⟨ax, cx, hvx, hsegI⟩ := owns_seg (B := w2.heap.size) (hs2.owns HIo.out (by simp)) HES.out.1 (Nat.le_refl _)
            simp only [Value.slice.injEq] at hvx
            obtain ⟨rfl, _, rfl⟩ := hvx
            have H2 : Hid _ := And.intro ho2 (And.intro hs2 hsegI)
            clear ho2 hs2' hat2 hs2 hsegI H1
            go_wp2_with (at_builtin; go_must (refine wpList_append_seg w2 rfl (.tmp 85) (.tmp 86) 22 rfl wo.heap.size 5 (.int .u8 0) 1 Yba.underlying22 info5 rfl H2.out.1 rfl avi I.length cvi (I.map fun n : Nat => Value.int .u8 (n : Int)) rfl HIm.out (seg_news H2.out.2.2) (u8_one _) (by omega) (by unfold maxLen; omega) (by omega) hb2 ?_))
            intro g3 c3 w3 ho3 hs3' hat3
            have hs3 : Same [] wo w3 := H2.out.2.1.comp hs3' (by intro b hb; simp [Value.ownBlock] at hb; right; omega)
            have hbc : w3.ownsRow wo.heap.size 5 1 (.slice (some ⟨g3, 0, none⟩) (1 + len0 + 2 + I.length) c3) (1 + len0 + 2 + I.length) ((body T I).map fun n : Nat => Value.int .u8 (n : Int)) := by
              rw [← body_cells T I len0 I.length HTl.out rfl]
              simpa using ho3
            obtain ⟨ay, cy, hvy, hsegB⟩ := owns_seg (B := w3.heap.size) hbc (body_small T I (by rw [HTl.out]; omega) HTo.out.small HES.out.1 (by omega)) (Nat.le_refl _)
            simp only [Value.slice.injEq] at hvy
            obtain ⟨hy1, _, hy2⟩ := hvy
            subst hy1
            subst hy2
            have hPar := parse_gen w3.heap.size (1 + len0 + 2 + I.length) _ _ (body T I) (some T) (some (I.length / 256 :: I.length % 256 :: I)) (some I) (some []) w3 hsegB (Nat.le_refl _) (by omega) (pV8_body T I) (pV16_body I (by omega)) (by simp)
            have HW3 : Hid (Same [] wo w3) := hs3
            clear ho3 hs3' hat3 hs3 hbc hsegB H2
            go_wp2_with fail
            refine hPar.mono ?_
            rintro e w4 ⟨hs4, hpp⟩
            rw [show pN ((some I).getD []) = some (names S p) from HES.out.2] at hpp
            obtain ⟨Mb, vt, vau, rfl, hM, hvt, hau⟩ := hpp
            have hsW : Same [] wo w4 := HW3.out.comp hs4 (by simp)
            have hcmp : Cmp w4 w3.heap.size wo.heap.size w3.heap.size w.heap.size Mb vt vau (.slice a0 len0 cap0) (.slice ava p cva) (some T) (some T) (names S p) :=
              ⟨hM, hvt, hau, ⟨a0, cap0, by rw [HTl.out], by rw [HTl.out]; exact (HTo.out.same hsW (by simp)) |> fun h => ⟨h.len_eq, h.le, h.cap_le, h.small, fun h0 => by obtain ⟨b, off, e1, e2, e3⟩ := h.cells h0; exact ⟨b, off, e1, by omega, e3⟩⟩⟩, HA.out.same hsW (by simp) (by simp)⟩
            have HSm := same_any w3.heap.size wo.heap.size w3.heap.size w.heap.size Mb vt vau (.slice a0 len0 cap0) (.slice ava p cva) (some T) (some T) (names S p) w4 hcmp rfl (by simp [names]; omega)
            have HW4 : Hid (Same [] w w4) := HRT.out.same.comp hsW (by simp)
            have hTT : decide (0 < ((some T).getD []).length) = decide ((0 : Int) < (len0 : Int)) := by
              show decide (0 < T.length) = _
              rw [HTl.out]
              simp
            rw [hTT]
            clear hTT hcmp hsW hau hvt hM hs4 hPar
            clear hpq
            by_cases h0 : 0 < len0
            · have h0' : decide ((0 : Int) < (len0 : Int)) = true := by simp; omega
              rw [h0']
              simp only [Bool.true_and, decide_true]
              go_wp2_with fail
              refine HSm.mono ?_
              rintro e w5 ⟨rfl, hs5⟩
              have HW5 : Hid (Same [] w w5) := HW4.out.comp hs5 (by simp)
              clear hs5
              go_wp2
              go_ret
              exact ⟨rfl, HW5.out.below (by simp) (Nat.le_refl _)⟩
            · have h0' : decide ((0 : Int) < (len0 : Int)) = false := by simp; omega
              rw [h0']
              simp only [Bool.false_and]
              go_wp2_with fail
              refine HSm.mono ?_
              rintro e w5 ⟨rfl, hs5⟩
              have HW5 : Hid (Same [] w w5) := HW4.out.comp hs5 (by simp)
              clear hs5
              go_wp2
              go_ret
              exact ⟨rfl, HW5.out.below (by simp) (Nat.le_refl _)⟩
theorem own : ownKnob Yba.prog.godebug = none := by kernel_rfl
theorem laidOut : laidOutB Yba.prog = true := by kernel_rfl

/-- WHAT THE WALK IS TOLD OF A SLICE OF INTEGERS THAT CAME IN: it is nil; or it leads to a row of 'cap' cells, the numbers 'zs' (the first 'len' are its elements, the rest its spare room), each fitting its kind. -/
def IsRow (k : IntKind) (w : World) (a : Option Addr) (len cap : Nat) (zs : List Int) : Prop :=
  (a = none ∧ len = 0 ∧ cap = 0 ∧ zs = []) ∨
  ∃ x, a = some x ∧ len ≤ cap ∧ cap ≤ maxLen ∧ zs.length = cap ∧ (∀ i, i < zs.length → w.cell? (x.add i) = some (.int k (zs.getD i 0))) ∧ ∀ n ∈ zs, (Lit.int k n).wf = true


/-- What the walk is told of a slice of strings that came in. -/
def IsStrs (w : World) (a : Option Addr) (len cap : Nat) (ss : List ByteArray) : Prop :=
  (a = none ∧ len = 0 ∧ cap = 0 ∧ ss = []) ∨
  ∃ x, a = some x ∧ len ≤ cap ∧ cap ≤ maxLen ∧ ss.length = cap ∧ (∀ i, i < ss.length → w.cell? (x.add i) = some (.string (ss.getD i ByteArray.empty))) ∧ ∀ s ∈ ss, s.size ≤ maxLen

set_option maxRecDepth 20000 in
set_option maxHeartbeats 400000 in
theorem walk_long (a0 a1 : Option Addr) (len0 cap0 len1 cap1 : Nat) (w : World) (h : 255 < len0 ∨ (len0 ≤ 255 ∧ 1024 < len1)) (h0 : len0 ≤ 9223372036854775807) (h1 : len1 ≤ 9223372036854775807) :
    Calls Yba.prog 4 #[.slice a0 len0 cap0, .slice a1 len1 cap1] w fun e w' => e = .returned (.bool true) ∧ Below w.heap.size w w' := by
  rcases h with h | ⟨h, h'⟩
  · go_enter Yba.func4, Yba.ntmps4
    go_wp2
    go_ret
    exact ⟨rfl, Below.refl _ _⟩
  · go_enter Yba.func4, Yba.ntmps4
    go_wp2
    go_ret
    exact ⟨rfl, Below.refl _ _⟩

theorem strs_of {w : World} {a : Option Addr} {len cap : Nat} {ss : List ByteArray} (h : IsStrs w a len cap ss) : Strs w a len (fun k => ss.getD k ByteArray.empty) ∧ len ≤ 9223372036854775807 := by
  rcases h with ⟨_, rfl, _⟩ | ⟨⟨b, off, spot⟩, rfl, h1, h2, h3, h4, h5⟩
  · exact ⟨fun k hk => by omega, by omega⟩
  · simp only [maxLen] at h2
    refine ⟨fun k hk => ?_, by omega⟩
    have hspot : spot = none := by
      have := h4 0 (by omega)
      simpa [Addr.add] using World.cell?_spot this
    subst hspot
    have hc := h4 k (by omega)
    rw [Addr.add_lit] at hc
    refine ⟨b, off, rfl, World.block_lt_of_cell? w _ hc, hc, ?_⟩
    have hm : ss.getD k ByteArray.empty ∈ ss := by
      simp only [List.getD, List.getElem?_eq_getElem (show k < ss.length by omega), Option.getD_some]
      exact List.getElem_mem _
    have := h5 _ hm
    simpa [maxLen] using this

theorem seg_of {w : World} {a : Option Addr} {len cap : Nat} {zs : List Int} (h : IsRow .u8 w a len cap zs) : Seg w w.heap.size a len cap ((zs.take len).map Int.toNat) ∧ len ≤ 9223372036854775807 := by
  rcases h with ⟨rfl, rfl, rfl, rfl⟩ | ⟨x, rfl, h1, h2, h3, h4, h5⟩
  · exact ⟨Seg.nil _ _, by omega⟩
  · simp only [maxLen] at h2
    refine ⟨⟨by simp; omega, h1, h2, ?_, fun h0 => ?_⟩, by omega⟩
    · intro y hy
      simp only [List.mem_map] at hy
      obtain ⟨z, hz, rfl⟩ := hy
      have := bounds_u8 (h5 z (List.mem_of_mem_take hz))
      omega
    · obtain ⟨b, off, rfl, hc⟩ := ints_at h4 (by omega)
      refine ⟨b, off, rfl, World.block_lt_of_cell? w _ (hc 0 (by omega)), World.block_lt_of_cell? w _ (hc 0 (by omega)), fun i hi => ?_⟩
      rw [hc i (by omega)]
      have hr : 0 ≤ zs.getD i 0 ∧ zs.getD i 0 ≤ 255 := by simpa [List.getD] using range_u8 h5 i
      have e : (List.map Int.toNat (zs.take len)).getD i 0 = (zs.getD i 0).toNat := by
        simp [List.getD, hi, show i < zs.length by omega]
      rw [e]
      congr 2
      omega

theorem walk (a0 : Option Addr) (len0 cap0 : Nat) (z0 : List Int) (a1 : Option Addr) (len1 cap1 : Nat) (z1 : List ByteArray) (w : World) (w0 : IsRow .u8 w a0 len0 cap0 z0) (w1 : IsStrs w a1 len1 cap1 z1) :
    Calls Yba.prog 4 #[.slice a0 len0 cap0, .slice a1 len1 cap1] w fun e w' => e = .returned (.bool true) ∧ Below w.heap.size w w' := by
  by_cases hl : 255 < len0 ∨ (len0 ≤ 255 ∧ 1024 < len1)
  · exact walk_long a0 a1 len0 cap0 len1 cap1 w hl (seg_of w0).2 (strs_of w1).2
  · exact walk_short a0 a1 len0 cap0 len1 cap1 _ _ w (by omega) (by omega) (seg_of w0).1 (strs_of w1).1

set_option maxRecDepth 100000 in
theorem lifted (os : Os) (started : os.Started) (H : Type) (enc : TypeId × Value → H) :
    ReturnsInHanded {} Yba.checked os 4 .any (Rows.lawS3079BRoundTripSpec.pre6 enc Yba.prog Yba.f4 Rows.lawS3079BRoundTripRow.domain false) (Rows.lawS3079BRoundTripSpec.post enc Yba.prog Yba.f4 false true false false) := by
  refine returnsInHanded_of_change (C := Yba.checked) own started (by kernel_rfl) Yba.func4
    (ChangeSpec.witness6 (enc := enc) (C := Yba.checked) false ⟨#[], #[.slice none 0 0, .slice none 0 0], []⟩ 8 (by kernel_rfl) (by kernel_rfl) (by kernel_rfl) (by kernel_rfl)) ?_
  intro W base args ds gs before hval0 hW hcnd _
  have hval : ∀ (j : Nat) t v, Yba.f4.params[j]? = some t → args[j]? = some v → Value.okWide Yba.prog W .any base t v := hval0
  have hW' := hW
  obtain ⟨p, q, hA0, hV, rfl, hfz, hnd⟩ := hW
  have hA : DataW.TrodAll enc Yba.prog W 0 (fun _ => true) true Yba.f4.params.toList args.toList ds p := hA0
  rw [Yba.params4] at hA hval
  obtain ⟨v0, vs0, d0, ds0, p0, q0, hargs, rfl, rfl, h0, r0⟩ := trodAll_cons hA
  obtain ⟨v1, vs1, d1, ds1, p1, q1, rfl, rfl, rfl, h1, r1⟩ := trodAll_cons r0
  obtain ⟨rfl, rfl, rfl⟩ := trodAll_nil r1
  obtain rfl : args = #[v0, v1] := by cases args; simp_all
  obtain ⟨rfl, rfl⟩ := trodVars_none hV
  obtain ⟨a0, len0, cap0, rfl⟩ := okWide_slice Yba.underlying22 (hval 0 22 v0 rfl rfl)
  have k0 := h0
  have lt0 : ∀ x ∈ p0, x.block < W.heap.size := by obtain ⟨m, hm⟩ := k0; exact DataW.trod_lt m _ _ _ hm
  obtain ⟨z0, w0⟩ : ∃ zs, IsRow .u8 W a0 len0 cap0 zs := by
    obtain ⟨fuel, hf⟩ := h0
    rcases open_ints Yba.underlying22 Yba.underlying5 (by kernel_rfl) hf with ⟨hcs, _⟩ | ⟨x, l, c, zs, hcs, _, hl, hm, hz, _, hcell, hwz⟩
    · simp [Value.cells] at hcs
      obtain ⟨rfl, rfl, rfl⟩ := hcs
      exact ⟨[], .inl ⟨rfl, rfl, rfl, rfl⟩⟩
    · simp [Value.cells] at hcs
      obtain ⟨rfl, rfl, rfl⟩ := hcs
      exact ⟨zs, .inr ⟨_, rfl, hl, hm, by simpa using hz, hcell, hwz⟩⟩
  obtain ⟨a1, len1, cap1, rfl⟩ := okWide_slice Yba.underlying33 (hval 1 33 v1 rfl rfl)
  have k1 := h1
  have lt1 : ∀ x ∈ p1, x.block < W.heap.size := by obtain ⟨m, hm⟩ := k1; exact DataW.trod_lt m _ _ _ hm
  obtain ⟨z1, w1⟩ : ∃ ss, IsStrs W a1 len1 cap1 ss := by
    obtain ⟨fuel, hf⟩ := h1
    rcases open_strings Yba.underlying33 Yba.underlying9 (by kernel_rfl) hf with ⟨hcs, _⟩ | ⟨x, l, c, ss, hcs, _, hl, hm, hz, _, hcell, hws⟩
    · simp [Value.cells] at hcs
      obtain ⟨rfl, rfl, rfl⟩ := hcs
      exact ⟨[], .inl ⟨rfl, rfl, rfl, rfl⟩⟩
    · simp [Value.cells] at hcs
      obtain ⟨rfl, rfl, rfl⟩ := hcs
      exact ⟨ss, .inr ⟨_, rfl, hl, hm, by simpa using hz, hcell, hws⟩⟩
  clear hA0 hval0
  refine (walk a0 len0 cap0 z0 a1 len1 cap1 z1 W w0 w1).mono fun e W' ⟨he, bel⟩ => ?_
  subst he
  exact ⟨_, rfl, _, _, _, [], _, [], hW', trodAll_mk1 (shut_bool Yba.underlying4 _), (trodAll_cons_mk (Below.trod laidOut (by kernel_rfl) (of_decide_eq_true (by kernel_rfl)) k0 bel lt0) (trodAll_cons_mk (Below.trod laidOut (by kernel_rfl) (of_decide_eq_true (by kernel_rfl)) k1 bel lt1) trodAll_mk0)), rfl, bel.frame _, fun h => by cases h⟩

theorem over : Rows.lawS3079BRoundTripRow.holds Yba.pinned (OpenSpec.ofChange Rows.lawS3079BRoundTripSpec) :=
  OpenClaim.holds_of_wide 4 Yba.f4 rfl rfl rfl rfl rfl rfl rfl ⟨rfl, rfl, rfl, rfl, rfl⟩ rfl rfl rfl rfl rfl (by kernel_rfl) Yba.func4 (by kernel_rfl)
    (of_decide_eq_true (by kernel_rfl)) (by unfold Func.isWrapper; first | (rw [if_pos (by decide +kernel)]; kernel_rfl) | (rw [if_neg (by decide +kernel)]; exact ⟨rfl, rfl⟩))
    (fun os started H enc _ => lifted os started H enc)

/-- ████ THE STATEMENT ████ -/
theorem proved : Rows.LawS3079BRoundTripSaid := over
end Go.Proofs.Ybulkbksy.BRoundTrip
