/-
  The law's own decoder and bytes.Clone.
-/
import Derived.Test.YbulkbksyEqual
import Derived.Test.YbulkbksyApp
namespace Go.Proofs.Ybulkbksy
open Go.RowKit
set_option linter.unusedVariables false

theorem or_i64 (x y : Nat) (hx : x < 256) (hy : y < 256) : bits .or .i64 ((x : Int) * 256) (y : Int) = ((x * 256 + y : Nat) : Int) := by
  have e : (x : Int) * 256 = ((x * 256 : Nat) : Int) := by omega
  have hj := nat_join 8 (x * 256) y (by omega) (by simpa using hy)
  rw [e]
  show IntKind.i64.wrap ((BitVec.ofInt 64 ((x * 256 : Nat) : Int) ||| BitVec.ofInt 64 (y : Int)).toNat : Int) = _
  rw [BitVec.toNat_or, ofInt_u64 (x * 256) (by omega), ofInt_u64 y (by omega), hj, IntKind.wrap_i64]
  omega

/-- What the law's own decoder hands back. -/
def MP (w : World) (B : Nat) (t s2 : Option (List Nat)) (R : Option (List (List Nat))) (e : Ending) (w' : World) : Prop :=
  Same [] w w' ∧ match R with
  | none => e = .returned (.tuple #[.bool true, .slice none 0 0, .slice none 0 0, .bool false])
  | some As => ∃ vt va, e = .returned (.tuple #[.bool false, vt, va, .bool (decide (0 < (t.getD []).length) && decide (s2 = some []))]) ∧ RV w' B vt t ∧ Auth w' B w.heap.size va As

theorem results4 {fn : Func} {t u v x : Tmp} (h : fn.results = #[.tmp t, .tmp u, .tmp v, .tmp x]) (tmps : Array Value) (P : Program) (w : World) :
    (results fn tmps).run P w = .ok (.tuple #[tmps.getD t undef, tmps.getD u undef, tmps.getD v undef, tmps.getD x undef]) w := by
  simp [results, h]

theorem Auth.nil (w : World) (B base : Nat) : Auth w B base (.slice none 0 0) [] := ⟨[], World.ownsRow_nil _ _ _ _, by simp⟩

set_option maxRecDepth 10000 in
set_option maxHeartbeats 400000 in
theorem model_nil (cap : Nat) (ao : Option Addr) (B : Nat) (w : World) :
    Calls Yba.prog 6 #[.slice ao 0 cap] w fun e w' => MP w B none none (some []) e w' := by
  go_enter Yba.func6, Yba.ntmps6
  go_wp2
  refine bodyPost_ret (results4 rfl _ _ _) rfl ?_
  exact ⟨Same.refl _ _, _, _, rfl, rfl, Auth.nil _ _ _⟩

set_option maxRecDepth 10000 in
set_option maxHeartbeats 400000 in
theorem model_short (b off len cap n : Nat) (B : Nat) (w : World) (h0 : w.cell? ⟨b, off, none⟩ = some (.int .u8 n)) (hn : n < 256) (hlen : 0 < len) (hlen2 : len ≤ 4096) (hl : len < n + 1) :
    Calls Yba.prog 6 #[.slice (some ⟨b, off, none⟩) len cap] w fun e w' => MP w B none none (some []) e w' := by
  go_enter Yba.func6, Yba.ntmps6
  go_wp2
  refine bodyPost_ret (results4 rfl _ _ _) rfl ?_
  exact ⟨Same.refl _ _, _, _, rfl, rfl, Auth.nil _ _ _⟩

/-- 'x[lo:hi]' of a slice over bytes, as the walk spells its value. -/
theorem Seg.cut {w : World} {B b off lo n len cap : Nat} {ao' : Option Addr} {xs : List Nat} (h : Seg w B (some ⟨b, off, none⟩) len cap xs) (hn : lo + n ≤ len) (hao : 0 < n → ao' = some ⟨b, off + lo, none⟩) : Seg w B ao' n (cap - lo) ((xs.drop lo).take n) := by
  have hl := h.len_eq
  have hle := h.le
  refine ⟨by simp; omega, by omega, by have := h.cap_le; omega, fun x hx => h.small x (List.mem_of_mem_drop (List.mem_of_mem_take hx)), fun h0 => ?_⟩
  obtain ⟨b', off', e, h2, h3, h4⟩ := h.cells (by omega)
  simp only [Option.some.injEq, Addr.mk.injEq, and_true] at e
  obtain ⟨rfl, rfl⟩ := e
  refine ⟨b, off + lo, hao h0, h2, h3, fun i hi => ?_⟩
  rw [getD_take _ _ _ hi, getD_drop, Nat.add_assoc]
  exact h4 (lo + i) (by omega)

theorem pV16_short (rs : List Nat) (h : rs.length < 2) : pV16 (some rs) = (none, none) := by
  have e : pBytes 2 (some rs) = (none, none) := by simp [pBytes]; omega
  unfold pV16 pU16
  rw [e]
  rfl

theorem pV16_cons (x y : Nat) (rs : List Nat) : pV16 (some (x :: y :: rs)) = if x * 256 + y ≤ rs.length then (some (rs.take (x * 256 + y)), some (rs.drop (x * 256 + y))) else (none, none) := by
  have e : pBytes 2 (some (x :: y :: rs)) = (some [x, y], some rs) := by simp [pBytes]
  unfold pV16 pU16
  rw [e]
  simp only [Option.getD_some, List.getD_cons_zero, List.getD_cons_succ]
  rfl

theorem drop_two (l : List Nat) (j : Nat) (h : j + 2 ≤ l.length) : l.drop j = l.getD j 0 :: l.getD (j + 1) 0 :: l.drop (j + 2) := by
  rw [List.drop_eq_getElem_cons (by omega), List.drop_eq_getElem_cons (by omega)]
  simp [List.getD, show j < l.length by omega, show j + 1 < l.length by omega]

theorem two_of (l : List Nat) (h : 2 ≤ l.length) : ∃ x y l', l = x :: y :: l' := by
  match l, h with
  | x :: y :: l', _ => exact ⟨x, y, l', rfl⟩

/-- What the decoder's loop keeps. -/
structure ML (w : World) (B : Nat) (N : List Nat) (j : Nat) (va : Value) (acc : List (List Nat)) (R : Option (List (List Nat))) (wr : World) : Prop where
  same : Same [] w wr
  auth : Auth wr B w.heap.size va acc
  res : (pN (N.drop j)).map (fun As => acc ++ As) = R

theorem ML.noRes {w : World} {B : Nat} {N : List Nat} {j : Nat} {va : Value} {acc : List (List Nat)} {R : Option (List (List Nat))} {wr : World} (h : ML w B N j va acc R wr) (hc : N.drop j ≠ []) (hn : ∀ y ys rest, pV16 (some (N.drop j)) ≠ (some (y :: ys), some rest)) : R = none := by
  rw [← h.res, pN_none hc hn]
  rfl

theorem ML.step {w : World} {B g cap : Nat} {N : List Nat} {j k : Nat} {va v : Value} {acc : List (List Nat)} {R : Option (List (List Nat))} {wr w1 : World} (h : ML w B N j va acc R wr) (hB : B ≤ w.heap.size) (hj : j + 2 + k ≤ N.length) (hk : 0 < k) (hke : N.getD j 0 * 256 + N.getD (j + 1) 0 = k)
    (hv : RV wr B v (some ((N.drop (j + 2)).take k))) {vs : List Value} (hvs : wr.ownsRow w.heap.size 22 1 va acc.length vs) (hvr : ∀ (i : Nat) (v : Value) (a : List Nat), vs[i]? = some v → acc[i]? = some a → RV wr B v (some a))
    (hown : w1.ownsRow w.heap.size 22 1 (.slice (some ⟨g, 0, none⟩) (acc.length + 1) cap) (acc.length + 1) (vs ++ [v])) (hs : Same va.ownBlock.toList wr w1) :
    ML w B N (j + (2 + k)) (.slice (some ⟨g, 0, none⟩) (acc.length + 1) cap) (acc ++ [(N.drop (j + 2)).take k]) R w1 := by
  have ho : ∀ b ∈ va.ownBlock.toList, w.heap.size ≤ b := by
    intro b hb
    simp at hb
    exact (hvs.lt b hb).1
  have hvl : vs.length = acc.length := by simpa using hvs.1
  refine ⟨h.same.comp hs (fun b hb => .inr (ho b hb)), ⟨vs ++ [v], by simpa using hown, ?_⟩, ?_⟩
  · intro i u a hu ha
    have hk : ∀ u' a', RV wr B u' (some a') → RV w1 B u' (some a') := fun u' a' hr => hr.same hs (fun b hb => by have := ho b hb; omega)
    by_cases hi : i < acc.length
    · rw [List.getElem?_append_left (by omega)] at hu
      rw [List.getElem?_append_left hi] at ha
      exact hk _ _ (hvr i u a hu ha)
    · have hi' : i = acc.length := by
        have := (List.getElem?_eq_some_iff.1 ha).1
        simp at this
        omega
      subst hi'
      have e1 : (vs ++ [v])[acc.length]? = some v := by rw [← hvl]; simp
      rw [e1] at hu
      simp at ha
      obtain rfl := Option.some.inj hu
      rw [← ha]
      exact hk _ _ hv
  · have hd := drop_two N j (by omega)
    have hp : pV16 (some (N.drop j)) = (some ((N.drop (j + 2)).take k), some ((N.drop (j + 2)).drop k)) := by
      rw [hd, pV16_cons, hke, if_pos (by simp; omega)]
    have hnn : ∃ y ys, (N.drop (j + 2)).take k = y :: ys := by
      cases hc : (N.drop (j + 2)).take k with
      | nil => have := congrArg List.length hc; simp at this; omega
      | cons y ys => exact ⟨y, ys, rfl⟩
    obtain ⟨y, ys, hy⟩ := hnn
    rw [hy] at hp ⊢
    have hne : N.drop j ≠ [] := by rw [hd]; simp
    rw [← h.res, pN_cons hne hp]
    simp only [Option.map_map]
    rw [show (N.drop (j + 2)).drop k = N.drop (j + (2 + k)) by rw [List.drop_drop, Nat.add_assoc]]
    congr 1
    funext As
    simp

set_option maxRecDepth 10000 in
set_option maxHeartbeats 1000000 in
theorem model_long (b off len cap n : Nat) (r : List Nat) (t nm s2 : Option (List Nat)) (B : Nat) (w : World) (hseg : Seg w B (some ⟨b, off, none⟩) len cap (n :: r)) (hB : B ≤ w.heap.size) (hlen2 : len ≤ 4096) (hnr : n ≤ r.length)
    (h16 : pV16 (some (r.drop n)) = (nm, s2)) :
    Calls Yba.prog 6 #[.slice (some ⟨b, off, none⟩) len cap] w fun e w' => MP w B (some (r.take n)) s2 (pN (nm.getD [])) e w' := by
  have hl := hseg.len_eq
  simp at hl
  have hle := hseg.le
  have hcap := hseg.cap_le
  have hn : n < 256 := hseg.small n (by simp)
  obtain ⟨b', off', e1, hb1, hb2, hc⟩ := hseg.cells (by omega)
  simp only [Option.some.injEq, Addr.mk.injEq, and_true] at e1
  obtain ⟨rfl, rfl⟩ := e1
  have h0 := hc 0 (by omega)
  simp at h0
  have HSeg : Hid (Seg w B (some ⟨b, off, none⟩) len cap (n :: r)) := hseg
  have hnl : n + 1 ≤ len := by omega
  have H16 : Hid (r.length + 1 = len) := hl
  have HPV := h16
  obtain ⟨R, hR⟩ : ∃ R, pN (nm.getD []) = R := ⟨_, rfl⟩
  have HR : Hid (pN (nm.getD []) = R) := hR
  rw [hR]
  clear hc hseg h16 hl hR hnr
  go_enter Yba.func6, Yba.ntmps6
  go_upto_region 6 with fail
  go_cut [7] (fun v wc => w = wc ∧ ∃ at_ ct, v = .slice at_ n ct ∧ Seg w B at_ n ct (r.take n))
  case first =>
    have HC : Hid (∀ ao', (0 < n → ao' = some ⟨b, off + 1, none⟩) → Seg w B ao' n (cap - 1) (r.take n)) := fun ao' h => by simpa using HSeg.out.cut (lo := 1) (n := n) (by omega) h
    rcases Nat.lt_or_ge 1 cap with hc1 | hc1
    · go_wp2
      go_meet
      case rel => exact ⟨rfl, some ⟨b, off + 1, none⟩, cap - 1, by rw [Nat.add_sub_cancel_left], HC.out _ (fun _ => rfl)⟩
    · have hn0 : n ≤ 0 := by omega
      go_wp2
      go_meet
      case rel => exact ⟨rfl, some ⟨b, off, none⟩, 0, by rw [Nat.add_sub_cancel_left], by simpa [show cap - 1 = 0 by omega] using HC.out (some ⟨b, off, none⟩) (fun h => by omega)⟩
  case rest =>
    obtain ⟨rfl, at_, ct, rfl, hsegt⟩ := hcut
    have HSt : Hid (Seg w B at_ n ct (r.take n)) := hsegt
    clear hsegt
    go_upto_region 7 with fail
    go_cut [8] (fun v wc => w = wc ∧ ∃ ar cr, v = .slice ar (len - (1 + n)) cr ∧ Seg w B ar (len - (1 + n)) cr (r.drop n))
    case first =>
      have HC : Hid (∀ ao', (n + 1 < len → ao' = some ⟨b, off + (n + 1), none⟩) → Seg w B ao' (len - (n + 1)) (cap - (n + 1)) (r.drop n)) := fun ao' h => by simpa using HSeg.out.drop (n := n + 1) (by omega) h
      rcases Nat.lt_or_ge (n + 1) cap with hc1 | hc1
      · go_wp2
        go_meet
        case rel => exact ⟨rfl, some ⟨b, off + (1 + n), none⟩, cap - (1 + n), rfl, by rw [Nat.add_comm 1 n]; exact HC.out _ (fun _ => rfl)⟩
      · obtain rfl : cap = 1 + n := by omega
        go_wp2
        go_meet
        case rel => exact ⟨rfl, some ⟨b, off, none⟩, 0, by first | rfl | go_num | simp, by simpa [Nat.add_comm 1 n] using HC.out (some ⟨b, off, none⟩) (fun h => by omega)⟩
    case rest =>
      obtain ⟨rfl, ar, cr, rfl, hsegr⟩ := hcut
      have hlr := hsegr.len_eq
      have hler := hsegr.le
      have hcapr := hsegr.cap_le
      have HSr : Hid (Seg w B ar (len - (1 + n)) cr (r.drop n)) := hsegr
      clear hsegr hnl
      generalize hlg : len - (1 + n) = lr at *
      generalize hrg : r.drop n = rs at *
      have hlr2 : lr ≤ 4096 := by omega
      have HTn : Hid ((r.take n).length = n) := by have := H16.out; have := HSt.out.len_eq; exact this
      clear hlg hrg H16 HSeg
      have hfin : ∀ (w' : World), Same [] w w' → RV w' B (.slice at_ n ct) (some (r.take n)) := fun w' hs => ⟨at_, ct, by rw [HTn.out], by rw [HTn.out]; exact HSt.out.same hs (by simp)⟩
      have HF : Hid _ := hfin
      clear hfin
      by_cases hl2 : lr < 2
      · rw [pV16_short rs (by omega)] at HPV
        simp only [Prod.mk.injEq] at HPV
        obtain ⟨rfl, rfl⟩ := HPV
        have hR0 : R = some [] := by rw [← HR.out]; rfl
        subst hR0
        go_wp2
        refine bodyPost_ret (results4 rfl _ _ _) rfl ?_
        exact ⟨Same.refl _ _, _, _, by simp, HF.out _ (Same.refl _ _), Auth.nil _ _ _⟩
      · obtain ⟨x, y, rs, rfl⟩ := two_of rs (by omega)
        simp at hlr
        have hx := HSr.out.small x (by simp)
        have hy := HSr.out.small y (by simp)
        obtain ⟨b2, off2, rfl, hb21, hb22, hc2⟩ := HSr.out.cells (by omega)
        have hcx := hc2 0 (by omega)
        have hcy := hc2 1 (by omega)
        simp at hcx hcy
        have hor := or_i64 x y hx hy
        rw [pV16_cons] at HPV
        have HNl : Hid (lr = rs.length + 2) := by show lr = _; omega
        have hlb : x * 256 + y ≤ 65535 := by omega
        generalize hlg : x * 256 + y = l at *
        clear hlg hc2 hlr
        go_upto_region 10 with fail
        go_quiet (fail)
        by_cases hlong : lr < l + 2
        · have hlong' : (lr : Int) < 2 + (l : Int) := by omega
          rw [if_neg (by have := HNl.out; omega)] at HPV
          simp only [Prod.mk.injEq] at HPV
          obtain ⟨rfl, rfl⟩ := HPV
          have hR0 : R = some [] := by rw [← HR.out]; rfl
          subst hR0
          go_wp2
          refine bodyPost_ret (results4 rfl _ _ _) rfl ?_
          exact ⟨((Same.refl _ _).drewN _), _, _, by simp, HF.out _ ((Same.refl _ _).drewN _), Auth.nil _ _ _⟩
        · have hlong' : 2 + (l : Int) ≤ (lr : Int) := by omega
          rw [if_pos (by have := HNl.out; omega)] at HPV
          simp only [Prod.mk.injEq] at HPV
          obtain ⟨rfl, rfl⟩ := HPV
          simp only [Option.getD_some] at HR
          have hsd : Same [] w (w.drewN nq) := (Same.refl [] w).drewN nq
          go_upto_region 13 with fail
          generalize w.drewN nq = wd at *
          have HSd : Hid (Same [] w wd) := hsd
          clear hsd
          go_cut [10] (fun v wc => wd = wc ∧ ∃ an cn, v = .slice an l cn ∧ Seg w B an l cn (rs.take l))
          case first =>
            have HC : Hid (∀ ao', (0 < l → ao' = some ⟨b2, off2 + 2, none⟩) → Seg w B ao' l (cr - 2) (rs.take l)) := fun ao' h => by simpa using HSr.out.cut (lo := 2) (n := l) (by omega) h
            rcases Nat.lt_or_ge 2 cr with hc1 | hc1
            · go_wp2
              go_meet
              case rel => exact ⟨rfl, some ⟨b2, off2 + 2, none⟩, cr - 2, by rw [Nat.add_sub_cancel_left], HC.out _ (fun _ => rfl)⟩
            · have hn0 : l ≤ 0 := by omega
              obtain rfl : cr = 2 := by omega
              go_wp2
              go_meet
              case rel => exact ⟨rfl, some ⟨b2, off2, none⟩, 0, by rw [Nat.add_sub_cancel_left], by simpa using HC.out (some ⟨b2, off2, none⟩) (fun h => by omega)⟩
          case rest =>
            obtain ⟨rfl, an, cn, rfl, hsegn⟩ := hcut
            have HSn : Hid (Seg w B an l cn (rs.take l)) := hsegn
            have hlen := hsegn.le
            have hcn := hsegn.cap_le
            clear hsegn
            go_upto_region 14 with fail
            go_cut [11] (fun v wc => wd = wc ∧ ∃ ax cx, v = .slice ax (lr - (2 + l)) cx)
            case first =>
              rcases Nat.lt_or_ge (2 + l) cr with hc1 | hc1
              · go_wp2
                go_meet
                case rel => exact ⟨rfl, _, _, rfl⟩
              · obtain rfl : cr = 2 + l := by omega
                go_wp2
                go_meet
                case rel => exact ⟨rfl, _, _, rfl⟩
            case rest =>
              obtain ⟨rfl, ax, cx, rfl⟩ := hcut
              have hNl : (rs.take l).length = l := by have := HNl.out; simp; omega
              have HNl2 : Hid ((rs.take l).length = l) := hNl
              have HTail : Hid (decide (some (rs.drop l) = some ([] : List Nat)) = decide (lr - (2 + l) = 0)) := by
                show decide _ = decide _
                have := HNl.out
                by_cases hz : lr - (2 + l) = 0
                · rw [decide_eq_true hz]
                  have : rs.drop l = [] := List.drop_eq_nil_of_le (by omega)
                  simp [this]
                · rw [decide_eq_false hz]
                  have : rs.drop l ≠ [] := by intro h; have := congrArg List.length h; simp at this; omega
                  simpa using this
              clear hNl hor hcx hcy HSr
              generalize rs.take l = N at *
              generalize hlt : lr - (2 + l) = lt at *
              have hltb : lt ≤ 4096 := by omega
              clear hlt
              go_wp2_with fail
              go_loopg [12, 13] l (fun q va j wr => ∃ (jn : Nat) (acc : List (List Nat)), jn + q = l ∧ j = .int .i64 jn ∧ acc.length ≤ jn ∧ ML w B N jn va acc R wr)
              case atStart =>
                refine ⟨0, [], by omega, rfl, Nat.le_refl _, HSd.out, Auth.nil _ _ _, ?_⟩
                rw [List.drop_zero, HR.out]
                cases R <;> simp
              case round =>
                obtain ⟨jn, acc, hjq, rfl, haj, hml⟩ := hrel
                obtain ⟨ava, cva, hva⟩ := hml.auth.form
                subst hva
                have HM : Hid (ML w B N jn (.slice ava acc.length cva) acc R wr) := hml
                clear hml
                have hNr := HSn.out.same HM.out.same (by simp)
                have hsm := hNr.small
                by_cases hjl : jn < l
                · obtain ⟨bn, offn, rfl, _, _, hcN⟩ := hNr.cells (by omega)
                  have hne : N.drop jn ≠ [] := by intro h; have := congrArg List.length h; have := HNl2.out; simp at *; omega
                  by_cases hj2 : l < jn + 2
                  · have hR0 : R = none := HM.out.noRes hne (by
                      intro y ys rest h
                      rw [pV16_short (N.drop jn) (by have := HNl2.out; simp; omega)] at h
                      simp at h)
                    subst hR0
                    have hj2' : (l : Int) - (jn : Int) < 2 := by omega
                    clear hcN hNr hsm hne
                    go_wp2
                    refine bodyPost_ret (results4 rfl _ _ _) rfl ?_
                    exact ⟨HM.out.same, rfl⟩
                  · have hd := drop_two N jn (by have := HNl2.out; omega)
                    have hc1 := hcN jn (by omega)
                    have hc2 := hcN (jn + 1) (by omega)
                    have hc2' := hc2
                    rw [← Nat.add_assoc] at hc2'
                    have hjI : (jn : Int) + 1 < (l : Int) := by omega
                    have hlow : ∀ i, i < l → N.getD i 0 < 256 := by
                      intro i hi
                      have hil : i < N.length := by have := HNl2.out; omega
                      have e : N.getD i 0 = N[i] := by simp [List.getD, hil]
                      rw [e]
                      exact hsm _ (List.getElem_mem _)
                    have hx1 := hlow jn (by omega)
                    have hy1 := hlow (jn + 1) (by omega)
                    have hor := or_i64 _ _ hx1 hy1
                    have HD : Hid (pV16 (some (N.drop jn)) = if N.getD jn 0 * 256 + N.getD (jn + 1) 0 ≤ (N.drop (jn + 2)).length then (some ((N.drop (jn + 2)).take (N.getD jn 0 * 256 + N.getD (jn + 1) 0)), some ((N.drop (jn + 2)).drop (N.getD jn 0 * 256 + N.getD (jn + 1) 0))) else (none, none)) := by
                      show _ = _
                      rw [hd, pV16_cons]
                    have hkb : N.getD jn 0 * 256 + N.getD (jn + 1) 0 ≤ 65535 := by omega
                    have HKE : Hid (N.getD jn 0 * 256 + N.getD (jn + 1) 0 = N.getD jn 0 * 256 + N.getD (jn + 1) 0) := rfl
                    generalize hkg : N.getD jn 0 * 256 + N.getD (jn + 1) 0 = k at *
                    have HKG : Hid (N[jn]?.getD 0 * 256 + N[jn + 1]?.getD 0 = k) := hkg
                    have HNR : Hid (Seg wr B (some ⟨bn, offn, none⟩) l cn N) := hNr
                    generalize N.getD jn 0 = x1 at *
                    generalize N.getD (jn + 1) 0 = y1 at *
                    clear hkg HKE hcN hsm hlow hd hNr
                    have hj3 : 2 ≤ (l : Int) - (jn : Int) := by omega
                    have hdl : (N.drop (jn + 2)).length = l - (jn + 2) := by have := HNl2.out; simp; omega
                    have HDL : Hid ((N.drop (jn + 2)).length = l - (jn + 2)) := hdl
                    clear hdl
                    by_cases hk0 : k = 0
                    · have hR0 : R = none := HM.out.noRes hne (by
                        intro y ys rest h
                        rw [HD.out, hk0] at h
                        simp at h)
                      subst hR0
                      subst hk0
                      clear hne
                      go_wp2_with fail
                      go_quiet (fail)
                      go_wp2
                      refine bodyPost_ret (results4 rfl _ _ _) rfl ?_
                      exact ⟨HM.out.same.drewN _, rfl⟩
                    · by_cases hkl : l < jn + 2 + k
                      · have hR0 : R = none := HM.out.noRes hne (by
                          intro y ys rest h
                          rw [HD.out, if_neg (by rw [HDL.out]; omega)] at h
                          simp at h)
                        subst hR0
                        have hk0' : ((k : Int) == 0) = false := beq_eq_false_iff_ne.2 (by omega)
                        have hkl' : (l : Int) - (jn : Int) - 2 < (k : Int) := by omega
                        clear hne
                        go_wp2_with fail
                        go_quiet (fail)
                        go_wp2
                        refine bodyPost_ret (results4 rfl _ _ _) rfl ?_
                        exact ⟨HM.out.same.drewN _, rfl⟩
                      · have hk0' : ((k : Int) == 0) = false := beq_eq_false_iff_ne.2 (by omega)
                        have hkl' : (k : Int) ≤ (l : Int) - (jn : Int) - 2 := by omega
                        have hcn2 : jn + 2 < cn := by omega
                        clear hne
                        go_wp2_with fail
                        go_quiet (fail)
                        obtain ⟨vs, hvs, hvr⟩ := (HM.out.auth)
                        have HV : Hid _ := And.intro hvs hvr
                        clear hvs hvr
                        have hbr := HM.out.same.size
                        go_wp2_with (at_builtin; go_must (refine wpList_append_one_at (wr.drewN nq) rfl (.tmp 96) (.tmp 105) 24 rfl w.heap.size 22 (.slice none 0 0) 24 Yba.underlying24 info22 rfl (owns_drewN HV.out.1 nq) rfl _ wr.heap.size rfl rfl rfl (by unfold maxLen; omega) (by omega) (by exact hbr) ?_))
                        intro g1 c1 w1 ho1 hs1 hat1
                        have hsg : Seg wr B (some ⟨bn, offn + (jn + 2), none⟩) k (cn - (jn + 2)) ((N.drop (jn + 2)).take k) := HNR.out.cut (lo := jn + 2) (n := k) (by omega) (fun _ => rfl)
                        have hrv : RV wr B (.slice (some ⟨bn, offn + (jn + 2), none⟩) k (cn - (jn + 2))) (some ((N.drop (jn + 2)).take k)) := ⟨_, _, by rw [hsg.len_eq], by rw [hsg.len_eq]; exact hsg⟩
                        have hst := HM.out.step hB (by have := HNl2.out; omega) (by omega) HKG.out hrv HV.out.1 HV.out.2 ho1 (((Same.refl _ wr).drewN nq).comp hs1 (fun b hb => .inl hb))
                        have HST : Hid _ := hst
                        have HL1 : Hid ((acc ++ [(N.drop (jn + 2)).take k]).length ≤ jn + (2 + k)) := by show _ ≤ _; simp; omega
                        clear hst hrv hsg ho1 hs1 hat1
                        go_wp2
                        go_roundg (l - (jn + (2 + k)))
                        case measure => omega
                        case rel => exact ⟨jn + (2 + k), acc ++ [(N.drop (jn + 2)).take k], by omega, by go_num, HL1.out, HST.out⟩
                · have hjl2 : jn = l := by omega
                  have hR0 : some acc = R := by
                    have := HM.out.res
                    rw [List.drop_eq_nil_of_le (by have := HNl2.out; omega)] at this
                    simpa [pN_nil] using this
                  have HR0 : Hid (some acc = R) := hR0
                  clear hR0 hjl2 hsm hNr
                  by_cases hn0 : 0 < n
                  · have HN0 : Hid (decide (0 < ((some (r.take n)).getD []).length) = true) := by
                      show decide (0 < (r.take n).length) = true
                      rw [HTn.out]
                      simpa using hn0
                    have hn0' : (0 : Int) < (n : Int) := by omega
                    by_cases ht0 : lt = 0
                    · subst ht0
                      go_wp2
                      refine bodyPost_ret (results4 rfl _ _ _) rfl ?_
                      refine ⟨HM.out.same, ?_⟩
                      rw [← HR0.out]
                      exact ⟨_, _, by rw [HN0.out, HTail.out]; rfl, HF.out _ HM.out.same, HM.out.auth⟩
                    · have ht0' : ((lt : Int) == 0) = false := beq_eq_false_iff_ne.2 (by omega)
                      have HT0 : Hid (decide (lt = 0) = false) := by show decide _ = false; simpa using ht0
                      go_wp2
                      refine bodyPost_ret (results4 rfl _ _ _) rfl ?_
                      refine ⟨HM.out.same, ?_⟩
                      rw [← HR0.out]
                      exact ⟨_, _, by rw [HN0.out, HTail.out, HT0.out]; rfl, HF.out _ HM.out.same, HM.out.auth⟩
                  · have HN0 : Hid (decide (0 < ((some (r.take n)).getD []).length) = false) := by
                      show decide (0 < (r.take n).length) = false
                      rw [HTn.out]
                      simpa using hn0
                    have hn0' : decide ((0 : Int) < (n : Int)) = false := by simp; omega
                    go_wp2
                    refine bodyPost_ret (results4 rfl _ _ _) rfl ?_
                    refine ⟨HM.out.same, ?_⟩
                    rw [← HR0.out]
                    exact ⟨_, _, by rw [HN0.out]; rfl, HF.out _ HM.out.same, HM.out.auth⟩
end Go.Proofs.Ybulkbksy
