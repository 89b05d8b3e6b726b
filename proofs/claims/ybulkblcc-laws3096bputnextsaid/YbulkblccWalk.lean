/-
  The law's own walk.
-/
import Derived.Test.YbulkblccRows
import Derived.Test.YbulkblccTwo
import Derived.WalkKit
import Derived.WalkLawsBesides
import Derived.WalkSpells
import Derived.BigQuiet
import Derived.Deep.LoopGhost
import Derived.Deep.QuietTactic
import Derived.Deep.Cut
import Derived.Deep.CutRange
import Derived.Deep.DeepCutAuto
import Derived.Deep.DeepMust
namespace Go.Proofs.Ybulkblcc
open Go.RowKit
set_option linter.unusedVariables false



set_option maxRecDepth 100000 in
set_option maxHeartbeats 4000000 in
theorem walk (a0 a1 a2 : Nat) (a3 : Bool) (a4 : Int) (h0 : a0 ≤ 65535) (h1 : a1 ≤ 255) (h2 : a2 ≤ 255) (w : World) :
    Calls Yba.prog 3 #[.int .u16 a0, .int .u8 a1, .int .u8 a2, .bool a3, .int .i64 a4] w fun e w' => e = .returned (.bool true) ∧ Below w.heap.size w w' := by
  go_enter Yba.func3, Yba.ntmps3
  go_upto_region 1 with fail
  go_cut [11] from 27 to 29 (fun v wc => ∃ Sb f, v = .pointer (some ⟨Sb, 0, none⟩) ∧ w.heap.size ≤ Sb ∧ Blk wc Sb 47 38 f ∧ f 5 = .int .i64 a4 ∧ f 14 = .slice none 0 0 ∧ f 15 = .int .i64 0 ∧ Below w.heap.size w wc)
  case first =>
    go_wp2_with fail
    go_meet
    exact ⟨w.heap.size, _, rfl, Nat.le_refl _, Blk.ofAt (At.new _ _ _), rfl, rfl, rfl, ((Same.refl [] w).alloc _).below (by simp) (Nat.le_refl _)⟩
  case rest =>
  obtain ⟨Sb, f, rfl, hSb, hB, h5, h14, h15, hbel⟩ := hcut
  obtain ⟨w1, rfl⟩ : ∃ w1 : World, w1 = wc := ⟨_, rfl⟩
  have H : Hid (w.heap.size ≤ Sb ∧ Blk w1 Sb 47 38 f ∧ f 5 = .int .i64 a4 ∧ f 14 = .slice none 0 0 ∧ f 15 = .int .i64 0 ∧ Below w.heap.size w w1) := ⟨hSb, hB, h5, h14, h15, hbel⟩
  clear hSb hB h5 h14 h15 hbel
  go_upto_region 2 with fail
  go_cut [12] from 30 to 31 (fun v wc => ∃ Pb, v = .pointer (some ⟨Pb, 0, none⟩) ∧ St w.heap.size Sb Pb a4 0 [] [] (.slice none 0 0) (.pointer none) (.int .i64 0) wc ∧ Below w.heap.size w wc)
  case first =>
    have hz := zero54
    have hzn := pZero_ne
    go_wp2_with fail
    go_meet
    obtain ⟨hSb, hB, h5, h14, h15, hbel⟩ := H.out
    exact ⟨w1.heap.size, rfl, st_start hB h5 h14 h15 rfl hSb, hbel.alloc hbel.size _⟩
  case rest =>
  obtain ⟨Pb, rfl, hst, hbel⟩ := hcut
  obtain ⟨w2, rfl⟩ : ∃ w2 : World, w2 = wc := ⟨_, rfl⟩
  have H2 : Hid (St w.heap.size Sb Pb a4 0 [] [] (.slice none 0 0) (.pointer none) (.int .i64 0) w2 ∧ Below w.heap.size w w2) := ⟨hst, hbel⟩
  clear hst hbel H
  go_upto_if 37 with fail
  go_cut [13] from 32 to 37 (fun v wc => ∃ n : Nat, n ≤ 256 ∧ v = .int .i64 n ∧ wc = w2)
  case first =>
    go_wp2_with fail
    · go_meet
      exact ⟨256, by omega, rfl, rfl⟩
    · go_meet
      exact ⟨a0 % 257, by omega, by go_num, rfl⟩
  case rest =>
  obtain ⟨n, hn, rfl, rfl⟩ := hcut
  have hcH : wc.cell? ⟨Pb, 260, none⟩ = some (.int .i64 0) := by
    obtain ⟨fp, hP, hR, _⟩ := H2.out.1.p
    rw [hP.cell (by omega), hR.fh]
    rfl
  have hfH := H2.out.1.fP 260
  have hm : (a1 : Int) % 256 = (a1 : Int) := by omega
  go_wp2_with fail
  go_loopg [14] n (fun q i wr => ∃ (k : Nat), k + q = n ∧ i = .int .i64 k ∧ Lw w Sb Pb a4 (up k) [] (.pointer none) (.int .i64 0) wr)
  case atStart =>
    obtain ⟨hs, hf⟩ := H2.out.1.setHead (hd := a1) (by omega)
    exact ⟨0, by omega, rfl, ⟨_, _, _, _, hs, GIds.nil _, GIds.nil _⟩, H2.out.2.trans hf.below⟩
  case round =>
  obtain ⟨k, hkq, rfl, hlw⟩ := hrel
  obtain ⟨w3, rfl⟩ : ∃ w3 : World, w3 = wr := ⟨_, rfl⟩
  clear H2 hcH hfH hm
  have HL : Hid (Lw w Sb Pb a4 (up k) [] (.pointer none) (.int .i64 0) w3) := hlw
  clear hlw
  by_cases hk : k < n
  · go_wp2_with (go_at_call 4; go_must (refine (Lw.push (id := (k : Int) + 1) (HL.out.alloc _) (GId.new _ _ _ rfl) (by rw [up_len]; omega)).mono ?_); rintro e w4 ⟨rfl, hl4, hf4⟩; have H4 : Hid _ := hl4; clear hl4 hf4)
    go_roundg (gk - 1)
    case measure => omega
    case rel => exact ⟨k + 1, by omega, by go_num, by rw [up_succ]; exact H4.out⟩
  · obtain rfl : k = n := by omega
    have hm8 : (a2 : Int) % 8 = ((a2 % 8 : Nat) : Int) := by omega
    have hq8 : a2 % 8 < 8 := Nat.mod_lt _ (by decide)
    generalize a2 % 8 = gq at hm8 hq8
    have hm8a : (a2 : Int) % 8 ≤ (gq : Int) := by omega
    have hm8b : (gq : Int) ≤ (a2 : Int) % 8 := by omega
    clear hm8
    go_wp2_with fail
    go_loopg [16, 17] gq (fun q o i wr => ∃ (j : Nat), j + q = gq ∧ i = .int .i64 j ∧ Lw w Sb Pb a4 (up k) (gup j) (.pointer none) (.int .i64 0) wr ∧ wr.ownsRow w.heap.size 3 1 o (gup j).length ((gup j).map iv))
    case atStart => exact ⟨0, by omega, rfl, HL.out.alloc _, own_new w3 _ HL.out.below.size⟩
    case round =>
    obtain ⟨j, hjq, rfl, hlw, hrow⟩ := hrel
    obtain ⟨w5, rfl⟩ : ∃ w5 : World, w5 = wr := ⟨_, rfl⟩
    clear HL
    have H5 : Hid (Lw w Sb Pb a4 (up k) (gup j) (.pointer none) (.int .i64 0) w5 ∧ w5.ownsRow w.heap.size 3 1 u16 (gup j).length ((gup j).map iv)) := ⟨hlw, hrow⟩
    have hgl : (gup j).length < 1000 := by rw [gup_len]; omega
    clear hlw hrow
    by_cases hj : j < gq
    · go_wp2_with (first
        | (go_at_call 5; go_must (refine (Lw.qpush (id := 500 + (j : Int)) (H5.out.1.alloc _) (GId.new _ _ _ rfl) hgl).mono ?_); rintro e w6 ⟨rfl, hl6, hf6⟩; have H6 : Hid (Lw w Sb Pb a4 (up k) (gup j ++ [500 + (j : Int)]) (.pointer none) (.int .i64 0) w6 ∧ w6.ownsRow w.heap.size 3 1 u16 (gup j).length ((gup j).map iv)) := ⟨hl6, hf6.owns (H5.out.2.alloc _) (by decide)⟩; have hb6 := hl6.below.size; clear hl6 hf6)
        | (at_builtin; go_must (refine wpList_append_one w6 rfl (.tmp 75) (.tmp 78) 37 rfl w.heap.size 3 (.int .i64 0) 8 Yba.underlying37 info3 rfl H6.out.2 rfl _ rfl rfl (by unfold maxLen; omega) (by omega) hb6 ?_)))
      intro g1 c1 w7 ho7 hs7 hat7
      have H7 : Hid _ := And.intro (H6.out.1.row H6.out.2 hs7) ho7
      clear ho7 hs7 hat7
      go_wp2_with fail
      go_roundg (gk - 1)
      case measure => omega
      case rel =>
        refine ⟨j + 1, by omega, by go_num, by rw [gup_succ]; exact H7.out.1, ?_⟩
        have := H7.out.2
        rw [gup_succ]
        simpa [iv] using this
    · obtain rfl : j = gq := by omega
      go_upto_if 80 with fail
      clear hj hm8a hm8b
      go_cut [] from 58 to 88 (fun wc => ∃ nx nxAt, Lw w Sb Pb a4 (up k) (gup j) nx nxAt wc ∧ wc.ownsRow w.heap.size 3 1 u16 (gup j).length ((gup j).map iv) ∧ (a3 = false → nx = .pointer none) ∧ (a3 = true → ∃ x, nx = .pointer (some x) ∧ GId wc (.pointer (some x)) 1000))
      case first =>
        cases a3
        · go_wp2_with fail
          go_meet
          exact ⟨_, _, H5.out.1, H5.out.2, fun _ => rfl, fun h => (by cases h)⟩
        · have hl' := H5.out.1.alloc (Obj.cells #[.int .i64 1000, .pointer none, .int .i64 0, .slice none 0 0, .int .i64 0, .pointer none] 58)
          obtain ⟨_, d2, d3, _, _, _, _, e2, e3⟩ := hl'.cells
          have HL' : Hid _ := hl'
          clear hl'
          go_wp2_with fail
          go_meet
          have hs := HL'.out.slot (.pointer (some ⟨w5.heap.size, 0, none⟩)) (.int .i64 7)
          exact ⟨_, _, hs.1, hs.2.owns (H5.out.2.alloc _) (by decide), fun h => (by cases h), fun _ => ⟨_, rfl, (GId.new w5 _ 1000 rfl).fr hs.2 (by decide)⟩⟩
      case rest =>
      obtain ⟨nx, nxAt, hlw, hrow, hnx0, hnx1⟩ := hcut
      obtain ⟨w6, rfl⟩ : ∃ w6 : World, w6 = wc := ⟨_, rfl⟩
      have H6 : Hid (Lw w Sb Pb a4 (up k) (gup j) nx nxAt w6 ∧ w6.ownsRow w.heap.size 3 1 u16 (gup j).length ((gup j).map iv)) := ⟨hlw, hrow⟩
      have H6x : Hid ((a3 = false → nx = .pointer none) ∧ (a3 = true → ∃ x, nx = .pointer (some x) ∧ GId w6 (.pointer (some x)) 1000)) := ⟨hnx0, hnx1⟩
      clear hlw hrow hnx0 hnx1 H5
      go_upto_region 22 with fail
      go_cut [] from 89 to 94 (fun wc => Lw w Sb Pb a4 (rA a3 k) (gA a3 k j) (.pointer (some ⟨w6.heap.size, 0, none⟩)) (.int .i64 a4) wc ∧ wc.ownsRow w.heap.size 3 1 u16 (gup j).length ((gup j).map iv))
      case first =>
        cases a3
        · obtain rfl := H6x.out.1 rfl
          go_wp2_with (go_at_call 6; go_must (refine (Lw.putNone (H6.out.1.alloc _)).mono ?_); rintro e w7 ⟨rfl, hl7, hf7⟩; have H7 : Hid _ := And.intro hl7 hf7; clear hl7 hf7)
          go_meet
          exact ⟨H7.out.1, H7.out.2.owns (H6.out.2.alloc _) (by decide)⟩
        · obtain ⟨x, rfl, hx⟩ := H6x.out.2 rfl
          have HX : Hid (GId w6 (.pointer (some x)) 1000) := hx
          clear hx
          go_wp2_with (go_at_call 6; go_must (refine (Lw.putSome (id := 1000) (H6.out.1.alloc _) (HX.out.fr (Fr.alloc 0 w6 (Nat.zero_le _) _) (by decide)) hgl).mono ?_); rintro e w7 ⟨rfl, hl7, hf7⟩; have H7 : Hid _ := And.intro hl7 hf7; clear hl7 hf7)
          go_meet
          exact ⟨H7.out.1, H7.out.2.owns (H6.out.2.alloc _) (by decide)⟩
      case rest =>
      obtain ⟨hlw, hrow⟩ := hcut
      obtain ⟨w7, rfl⟩ : ∃ w7 : World, w7 = wc := ⟨_, rfl⟩
      have H7 : Hid (Lw w Sb Pb a4 (rA a3 k) (gA a3 k j) (.pointer (some ⟨w6.heap.size, 0, none⟩)) (.int .i64 a4) w7 ∧ w7.ownsRow w.heap.size 3 1 u16 (gup j).length ((gup j).map iv)) := ⟨hlw, hrow⟩
      obtain ⟨c1, c2, c3, c4, c5, c6, c7, _, _⟩ := hlw.cells
      clear hlw hrow H6 H6x
      have hpp := ptr_neq ⟨w6.heap.size, 0, none⟩ w7
      go_upto_region 27 with fail
      clear hpp c1 c2 c3 c4 c5 c6 c7
      go_upto_region 28 with fail
      go_cut [149] from 95 to 149 (fun v wc => ∃ b : Bool, v = .bool b ∧ b = (!a3 || decide (k < 256)) ∧ wc = w7.alloc (.cells #[] 3))
      case first =>
        cases a3
        · go_wp2_with fail
          go_meet
          exact ⟨_, rfl, rfl, rfl⟩
        · by_cases hk : k < 256
          · go_wp2_with fail
            go_meet
            exact ⟨_, rfl, by simp [hk]; omega, rfl⟩
          · go_wp2_with fail
            go_meet
            exact ⟨_, rfl, by simp [hk]; omega, rfl⟩
      case rest =>
      obtain ⟨b, rfl, hbb, rfl⟩ := hcut
      have HBB : Hid (b = (!a3 || decide (k < 256))) := hbb
      clear hbb hkq hk hjq
      go_upto_if 149 with fail
      go_cut [16, 19, 20, 21, 22] from 150 to 184 (fun vg vr _ _ _ wc => Two w.heap.size vg vr (gA a3 k j) (rA a3 k) wc ∧ Lw w Sb Pb a4 (rA a3 k) (gA a3 k j) (.pointer (some ⟨w6.heap.size, 0, none⟩)) (.int .i64 a4) wc)
      case first =>
        cases a3
        · obtain rfl : b = true := HBB.out
          go_wp2_with fail
          go_loopg [19, 20] k (fun q o c wr => ∃ (i : Nat), i + q = k ∧ c = .int .i64 i ∧ Two w.heap.size u16 o (gup j) (up i) wr ∧ Lw w Sb Pb a4 (rA false k) (gA false k j) (.pointer (some ⟨w6.heap.size, 0, none⟩)) (.int .i64 a4) wr)
          case atStart => exact ⟨0, by omega, rfl, Two.start H7.out.2 H7.out.1.below.size, H7.out.1.alloc _⟩
          case round =>
          obtain ⟨i, hiq, rfl, htwo, hlw⟩ := hrel
          obtain ⟨w8, rfl⟩ : ∃ w8 : World, w8 = wr := ⟨_, rfl⟩
          have H8 : Hid (Two w.heap.size u16 u19 (gup j) (up i) w8 ∧ Lw w Sb Pb a4 (rA false k) (gA false k j) (.pointer (some ⟨w6.heap.size, 0, none⟩)) (.int .i64 a4) w8) := ⟨htwo, hlw⟩
          have hb8 := hlw.below.size
          have hil : (up i).length < 1000 := by rw [up_len]; omega
          clear htwo hlw
          by_cases hi : i < k
          · go_wp2_with (at_builtin; go_must (refine wpList_append_one w8 rfl (.tmp 155) (.tmp 158) 37 rfl w.heap.size 3 (.int .i64 0) 8 Yba.underlying37 info3 rfl H8.out.1.r rfl _ rfl rfl (by unfold maxLen; omega) (by omega) hb8 ?_))
            intro g1 c1 w9 ho9 hs9 hat9
            have H9 : Hid _ := And.intro (H8.out.1.addR ho9 hs9 hat9) (H8.out.2.row H8.out.1.r hs9)
            clear ho9 hs9 hat9
            go_wp2_with fail
            go_roundg (gk - 1)
            case measure => omega
            case rel => exact ⟨i + 1, by omega, by go_num, by rw [up_succ]; exact H9.out.1, H9.out.2⟩
          · obtain rfl : i = k := by omega
            go_wp2_with fail
            go_meet
            exact ⟨H8.out.1, H8.out.2⟩
        · by_cases hk : k < 256
          · obtain rfl : b = true := by have := HBB.out; simpa [hk] using this
            go_wp2_with fail
            go_loopg [19, 20] k (fun q o c wr => ∃ (i : Nat), i + q = k ∧ c = .int .i64 i ∧ Two w.heap.size u16 o (gup j) (up i) wr ∧ Lw w Sb Pb a4 (rA true k) (gA true k j) (.pointer (some ⟨w6.heap.size, 0, none⟩)) (.int .i64 a4) wr)
            case atStart => exact ⟨0, by omega, rfl, Two.start H7.out.2 H7.out.1.below.size, H7.out.1.alloc _⟩
            case round =>
            obtain ⟨i, hiq, rfl, htwo, hlw⟩ := hrel
            obtain ⟨w8, rfl⟩ : ∃ w8 : World, w8 = wr := ⟨_, rfl⟩
            have H8 : Hid (Two w.heap.size u16 u19 (gup j) (up i) w8 ∧ Lw w Sb Pb a4 (rA true k) (gA true k j) (.pointer (some ⟨w6.heap.size, 0, none⟩)) (.int .i64 a4) w8) := ⟨htwo, hlw⟩
            have hb8 := hlw.below.size
            have hil : (up i).length < 1000 := by rw [up_len]; omega
            clear htwo hlw
            by_cases hi : i < k
            · go_wp2_with (at_builtin; go_must (refine wpList_append_one w8 rfl (.tmp 155) (.tmp 158) 37 rfl w.heap.size 3 (.int .i64 0) 8 Yba.underlying37 info3 rfl H8.out.1.r rfl _ rfl rfl (by unfold maxLen; omega) (by omega) hb8 ?_))
              intro g1 c1 w9 ho9 hs9 hat9
              have H9 : Hid _ := And.intro (H8.out.1.addR ho9 hs9 hat9) (H8.out.2.row H8.out.1.r hs9)
              clear ho9 hs9 hat9
              go_wp2_with fail
              go_roundg (gk - 1)
              case measure => omega
              case rel => exact ⟨i + 1, by omega, by go_num, by rw [up_succ]; exact H9.out.1, H9.out.2⟩
            · obtain rfl : i = k := by omega
              go_wp2_with (at_builtin; go_must (refine wpList_append_one w8 rfl (.tmp 161) (.tmp 162) 37 rfl w.heap.size 3 (.int .i64 0) 8 Yba.underlying37 info3 rfl H8.out.1.r rfl _ rfl rfl (by unfold maxLen; omega) (by omega) hb8 ?_))
              intro g1 c1 w9 ho9 hs9 hat9
              have H9 : Hid _ := And.intro (H8.out.1.addR ho9 hs9 hat9) (H8.out.2.row H8.out.1.r hs9)
              clear ho9 hs9 hat9
              go_wp2_with fail
              go_meet
              exact ⟨by rw [rA_room hk rfl, gA_room hk]; exact H9.out.1, H9.out.2⟩
          · obtain rfl : b = false := by have := HBB.out; simpa [hk] using this
            obtain rfl : k = 256 := by omega
            go_wp2_with fail
            go_loopg [16, 21] 128 (fun q o c wr => ∃ (i : Nat), i + q = 128 ∧ c = .int .i64 i ∧ Two w.heap.size o (.slice (some ⟨w7.heap.size, 0, none⟩) 0 0) (gup j ++ up i) [] wr ∧ Lw w Sb Pb a4 (rA true 256) (gA true 256 j) (.pointer (some ⟨w6.heap.size, 0, none⟩)) (.int .i64 a4) wr)
            case atStart => exact ⟨0, by omega, rfl, by simpa [up] using Two.start H7.out.2 H7.out.1.below.size, H7.out.1.alloc _⟩
            case round =>
            obtain ⟨i, hiq, rfl, htwo, hlw⟩ := hrel
            obtain ⟨w8, rfl⟩ : ∃ w8 : World, w8 = wr := ⟨_, rfl⟩
            have H8 : Hid (Two w.heap.size u16 (.slice (some ⟨w7.heap.size, 0, none⟩) 0 0) (gup j ++ up i) [] w8 ∧ Lw w Sb Pb a4 (rA true 256) (gA true 256 j) (.pointer (some ⟨w6.heap.size, 0, none⟩)) (.int .i64 a4) w8) := ⟨htwo, hlw⟩
            have hb8 := hlw.below.size
            have hil : (gup j ++ up i).length < 1000 := by rw [List.length_append, up_len, gup_len]; omega
            clear htwo hlw
            generalize hga : gup j ++ up i = ga at *
            have HGA : Hid (gup j ++ up i = ga) := hga
            clear hga
            by_cases hi : i < 128
            · go_wp2_with (at_builtin; go_must (refine wpList_append_one w8 rfl (.tmp 168) (.tmp 171) 37 rfl w.heap.size 3 (.int .i64 0) 8 Yba.underlying37 info3 rfl H8.out.1.g rfl _ rfl rfl (by unfold maxLen; omega) (by omega) hb8 ?_))
              intro g1 c1 w9 ho9 hs9 hat9
              have H9 : Hid _ := And.intro (H8.out.1.addG ho9 hs9 hat9) (H8.out.2.row H8.out.1.g hs9)
              clear ho9 hs9 hat9
              go_wp2_with fail
              go_roundg (gk - 1)
              case measure => omega
              case rel => exact ⟨i + 1, by omega, by go_num, by rw [up_succ, ← List.append_assoc, HGA.out]; exact H9.out.1, H9.out.2⟩
            · obtain rfl : i = 128 := by omega
              go_wp2_with (at_builtin; go_must (refine wpList_append_one w8 rfl (.tmp 173) (.tmp 174) 37 rfl w.heap.size 3 (.int .i64 0) 8 Yba.underlying37 info3 rfl H8.out.1.g rfl _ rfl rfl (by unfold maxLen; omega) (by omega) hb8 ?_))
              intro g1 c1 w9 ho9 hs9 hat9
              have H9 : Hid _ := And.intro (H8.out.1.addG ho9 hs9 hat9) (H8.out.2.row H8.out.1.g hs9)
              clear ho9 hs9 hat9
              go_wp2_with fail
              go_loopg [19, 22] 128 (fun q o c wr => ∃ (i : Nat), i + q = 256 ∧ 128 ≤ i ∧ c = .int .i64 i ∧ Two w.heap.size (.slice (some ⟨g1, 0, none⟩) (ga.length + 1) c1) o (ga ++ [1000]) ((up i).drop 128) wr ∧ Lw w Sb Pb a4 (rA true 256) (gA true 256 j) (.pointer (some ⟨w6.heap.size, 0, none⟩)) (.int .i64 a4) wr)
              case atStart => exact ⟨128, by omega, Nat.le_refl _, rfl, by rw [drop_zero]; exact H9.out.1, H9.out.2⟩
              case round =>
              obtain ⟨i, hiq2, hi128, rfl, htwo, hlw⟩ := hrel
              obtain ⟨w10, rfl⟩ : ∃ w10 : World, w10 = wr := ⟨_, rfl⟩
              have H10 : Hid (Two w.heap.size (.slice (some ⟨g1, 0, none⟩) (ga.length + 1) c1) u19 (ga ++ [1000]) ((up i).drop 128) w10 ∧ Lw w Sb Pb a4 (rA true 256) (gA true 256 j) (.pointer (some ⟨w6.heap.size, 0, none⟩)) (.int .i64 a4) w10) := ⟨htwo, hlw⟩
              have hb10 := hlw.below.size
              have hil2 : ((up i).drop 128).length < 1000 := by rw [List.length_drop, up_len]; omega
              clear htwo hlw
              generalize hra : (up i).drop 128 = ra at *
              have HRA : Hid ((up i).drop 128 = ra) := hra
              clear hra
              by_cases hi2 : i < 256
              · go_wp2_with (at_builtin; go_must (refine wpList_append_one w10 rfl (.tmp 180) (.tmp 183) 37 rfl w.heap.size 3 (.int .i64 0) 8 Yba.underlying37 info3 rfl H10.out.1.r rfl _ rfl rfl (by unfold maxLen; omega) (by omega) hb10 ?_))
                intro g2 c2 w11 ho11 hs11 hat11
                have H11 : Hid _ := And.intro (H10.out.1.addR ho11 hs11 hat11) (H10.out.2.row H10.out.1.r hs11)
                clear ho11 hs11 hat11
                go_wp2_with fail
                go_roundg (gk - 1)
                case measure => omega
                case rel => exact ⟨i + 1, by omega, by omega, by go_num, by rw [drop_step (by omega), HRA.out]; exact H11.out.1, H11.out.2⟩
              · obtain rfl : i = 256 := by omega
                go_wp2_with fail
                go_meet
                exact ⟨by rw [rA_full, gA_full, HRA.out, HGA.out]; exact H10.out.1, H10.out.2⟩
      case rest =>
      obtain ⟨htwo, hlw⟩ := hcut
      obtain ⟨w8, rfl⟩ : ∃ w8 : World, w8 = wc := ⟨_, rfl⟩
      have H8 : Hid (Two w.heap.size u16 u19 (gA a3 k j) (rA a3 k) w8 ∧ Lw w Sb Pb a4 (rA a3 k) (gA a3 k j) (.pointer (some ⟨w6.heap.size, 0, none⟩)) (.int .i64 a4) w8) := ⟨htwo, hlw⟩
      have hgl2 : (gA a3 k j).length < 1000 := gA_len a3 k hq8
      have hrl2 : (rA a3 k).length < 100000 := by have := hlw.len; omega
      clear htwo hlw H7
      go_wp2_with (first
        | (go_at_call 7; go_must (refine (Lw.ring H8.out.2).mono ?_); rintro e w9 ⟨v9, rfl, ho9, hb9⟩; have H9 : Hid (w9.ownsRow w8.heap.size 3 1 v9 (rA a3 k).length ((rA a3 k).map iv) ∧ Fr [] w.heap.size w8 w9) := ⟨ho9, Fr.ofBelow hb9 H8.out.2.below.size⟩; clear ho9 hb9)
        | (go_at_call_of 8 v9; go_must (refine (eq_any w8.heap.size w.heap.size _ v9 u19 (rA a3 k) w9 hrl2 H9.out.1 (H9.out.2.owns H8.out.1.r (by decide))).mono ?_); rintro e w10 ⟨rfl, hs10⟩; have H10 : Hid (Fr [] w.heap.size w9 w10) := Fr.ofSame hs10 (Nat.le_trans H8.out.2.below.size H9.out.2.below.size) (by simp); clear hs10)
        | (go_at_call 9; go_must (refine (Lw.queue ((H8.out.2.fr H9.out.2 (by decide) (by decide) (by decide) (by decide)).fr H10.out (by decide) (by decide) (by decide) (by decide)) hgl2).mono ?_); rintro e w11 ⟨v11, rfl, ho11, hb11⟩; have H11 : Hid (w11.ownsRow w10.heap.size 3 1 v11 (gA a3 k j).length ((gA a3 k j).map iv) ∧ Fr [] w.heap.size w10 w11) := ⟨ho11, Fr.ofBelow hb11 (Nat.le_trans (Nat.le_trans H8.out.2.below.size H9.out.2.below.size) H10.out.below.size)⟩; clear ho11 hb11)
        | (go_at_call_of 8 v11; go_must (refine (eq_any w10.heap.size w.heap.size _ v11 u16 (gA a3 k j) w11 (Nat.lt_of_lt_of_le hgl2 (by decide)) H11.out.1 (H11.out.2.owns (H10.out.owns (H9.out.2.owns H8.out.1.g (by decide)) (by decide)) (by decide))).mono ?_); rintro e w12 ⟨rfl, hs12⟩; have H12 : Hid (Fr [] w.heap.size w11 w12) := Fr.ofSame hs12 (Nat.le_trans (Nat.le_trans (Nat.le_trans H8.out.2.below.size H9.out.2.below.size) H10.out.below.size) H11.out.2.below.size) (by simp); clear hs12))
      go_ret
      exact ⟨rfl, (((H8.out.2.below.trans H9.out.2.below).trans H10.out.below).trans H11.out.2.below).trans H12.out.below⟩
end Go.Proofs.Ybulkblcc
