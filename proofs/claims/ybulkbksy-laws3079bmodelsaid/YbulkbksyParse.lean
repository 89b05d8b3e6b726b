import Derived.Test.YbulkbksyParser2
namespace Go.Proofs.Ybulkbksy
open Go.RowKit
set_option linter.unusedVariables false

/-! ### The list of names, read one after another -/
def pNames : Nat → List Nat → Option (List (List Nat))
  | 0, _ => some []
  | f + 1, xs => if xs = [] then some [] else match pV16 (some xs) with
    | (some (y :: ys), some rest) => (pNames f rest).map fun As => (y :: ys) :: As
    | _ => none

def pN (xs : List Nat) : Option (List (List Nat)) := pNames xs.length xs

theorem pV16_rest {xs ys rest : List Nat} (h : pV16 (some xs) = (some ys, some rest)) : rest.length + 2 ≤ xs.length ∧ rest.length + ys.length + 2 = xs.length := by
  unfold pV16 pU16 at h
  rcases pBytes_form 2 (some xs) with e | ⟨xs', he, hl, e⟩
  · rw [e] at h
    simp [pBytes] at h
  · simp only [Option.some.injEq] at he
    subst he
    rw [e] at h
    simp only [Option.getD_some] at h
    generalize ((xs.take 2).getD 0 0 * 256 + (xs.take 2).getD 1 0) = n at h
    unfold pBytes at h
    simp only at h
    split at h
    · simp only [Prod.mk.injEq, Option.some.injEq] at h
      obtain ⟨rfl, rfl⟩ := h
      simp at *
      omega
    · simp at h

theorem pNames_fuel : ∀ (f g : Nat) (xs : List Nat), xs.length ≤ f → xs.length ≤ g → pNames f xs = pNames g xs := by
  intro f
  induction f with
  | zero =>
    intro g xs hf hg
    have hx : xs = [] := List.eq_nil_of_length_eq_zero (by omega)
    subst hx
    cases g <;> simp [pNames]
  | succ f ih =>
    intro g xs hf hg
    cases g with
    | zero =>
      have hx : xs = [] := List.eq_nil_of_length_eq_zero (by omega)
      subst hx
      simp [pNames]
    | succ g =>
      unfold pNames
      by_cases hx : xs = []
      · rw [if_pos hx, if_pos hx]
      · rw [if_neg hx, if_neg hx]
        split
        · rename_i y ys rest he
          have := (pV16_rest he).1
          rw [ih g rest (by omega) (by omega)]
        · rfl

theorem pNames_succ (f : Nat) (xs : List Nat) : pNames (f + 1) xs = if xs = [] then some [] else match pV16 (some xs) with
    | (some (y :: ys), some rest) => (pNames f rest).map fun As => (y :: ys) :: As
    | _ => none := rfl

theorem pN_nil : pN [] = some [] := rfl

theorem pN_cons {xs ys rest : List Nat} {y : Nat} (hx : xs ≠ []) (h : pV16 (some xs) = (some (y :: ys), some rest)) : pN xs = (pN rest).map fun As => (y :: ys) :: As := by
  unfold pN
  have hr := (pV16_rest h).1
  have hl : 0 < xs.length := List.length_pos_iff.2 hx
  obtain ⟨n, hn⟩ : ∃ n, xs.length = n + 1 := ⟨xs.length - 1, by omega⟩
  rw [hn, pNames_succ, if_neg hx, h]
  simp only
  rw [pNames_fuel n rest.length rest (by omega) (Nat.le_refl _)]

theorem pN_none {xs : List Nat} (hx : xs ≠ []) (h : ∀ y ys rest, pV16 (some xs) ≠ (some (y :: ys), some rest)) : pN xs = none := by
  unfold pN
  have hl : 0 < xs.length := List.length_pos_iff.2 hx
  obtain ⟨n, hn⟩ : ∃ n, xs.length = n + 1 := ⟨xs.length - 1, by omega⟩
  rw [hn, pNames_succ, if_neg hx]
  split
  · rename_i y ys rest he
    exact absurd he (h y ys rest)
  · rfl

/-- A slice of slices of bytes, of the call's own. -/
def Auth (w : World) (B base : Nat) (va : Value) (As : List (List Nat)) : Prop :=
  ∃ vs : List Value, w.ownsRow base 22 1 va As.length vs ∧ ∀ (i : Nat) (v : Value) (a : List Nat), vs[i]? = some v → As[i]? = some a → RV w B v (some a)

theorem Auth.same {w w' : World} {B base : Nat} {va : Value} {As : List (List Nat)} {S : List Nat} (h : Auth w B base va As) (hs : Same S w w') (hS : ∀ b ∈ S, B ≤ b) (hn : ∀ g, va.ownBlock = some g → g ∉ S) : Auth w' B base va As := by
  obtain ⟨vs, h1, h2⟩ := h
  exact ⟨vs, hs.owns h1 hn, fun i v a hv ha => (h2 i v a hv ha).same hs hS⟩

/-- What the parse hands back: 't' the types, 's2' the parser's state at the end, 'R' the names. -/
def PP (w : World) (B : Nat) (t s2 : Option (List Nat)) (R : Option (List (List Nat))) (e : Ending) (w' : World) : Prop :=
  Same [] w w' ∧ match R with
  | none => e = .returned (.tuple #[.pointer none, .bool false])
  | some As => ∃ Mb vt va, e = .returned (.tuple #[.pointer (some ⟨Mb, 0, none⟩), .bool (decide (0 < (t.getD []).length) && decide (s2 = some []))]) ∧ At w' Mb #[vt, va] 40 ∧ RV w' B vt t ∧ Auth w' B w.heap.size va As

theorem info22 : (Yba.prog.info? 22).map (fun i => (i.zero, i.size, i.bytes)) = some (some (.slice none 0 0), 1, 24) := by kernel_rfl
theorem info5 : (Yba.prog.info? 5).map (fun i => (i.zero, i.size, i.bytes)) = some (some (.int .u8 0), 1, 1) := by kernel_rfl

theorem RV.getD {w : World} {B : Nat} {v : Value} {r : Option (List Nat)} (h : RV w B v r) : ∃ ao cap, v = .slice ao (r.getD []).length cap ∧ Seg w B ao (r.getD []).length cap (r.getD []) := by
  cases r with
  | none => exact ⟨none, 0, h, Seg.nil _ _⟩
  | some ys => exact h

theorem pV16_form (st : Option (List Nat)) : pV16 st = (none, none) ∨ ∃ ys rest, pV16 st = (some ys, some rest) := by
  unfold pV16
  rcases pBytes_form (pU16 st).1 (pU16 st).2 with e | ⟨xs, _, _, e⟩
  · exact .inl e
  · exact .inr ⟨_, _, e⟩

/-- What holds at the head of each round of the names' loop. -/
structure NL (w : World) (B P1 Mb P2 : Nat) (vt va : Value) (t s2 : Option (List Nat)) (cur : List Nat) (acc : List (List Nat)) (R : Option (List (List Nat))) (wr : World) : Prop where
  same : Same [] w wr
  rt : RV wr B vt t
  p1 : PSt wr P1 B s2
  p2 : PSt wr P2 B (some cur)
  hM : At wr Mb #[vt, va] 40
  auth : Auth wr B w.heap.size va acc
  res : (pN cur).map (fun As => acc ++ As) = R
  lo1 : w.heap.size ≤ P1
  lo2 : P1 < Mb
  lo3 : Mb < P2
  hB : B ≤ w.heap.size

theorem NL.noRes {w : World} {B P1 Mb P2 : Nat} {vt va : Value} {t s2 : Option (List Nat)} {cur : List Nat} {acc : List (List Nat)} {R : Option (List (List Nat))} {wr : World} (h : NL w B P1 Mb P2 vt va t s2 cur acc R wr) (hc : cur ≠ [])
    (hn : ∀ y ys rest, pV16 (some cur) ≠ (some (y :: ys), some rest)) : R = none := by
  rw [← h.res, pN_none hc hn]
  rfl

theorem NL.step {w : World} {B P1 Mb P2 g cap y : Nat} {vt va v : Value} {t s2 : Option (List Nat)} {cur ys rest : List Nat} {acc : List (List Nat)} {R : Option (List (List Nat))} {wr w4 w5 : World} (h : NL w B P1 Mb P2 vt va t s2 cur acc R wr) (hc : cur ≠ [])
    (hp : pV16 (some cur) = (some (y :: ys), some rest)) (hv : RV w4 B v (some (y :: ys))) (hst : PSt w4 P2 B (some rest)) (hs4 : Same [P2] wr w4) {vs : List Value} (hvs : w4.ownsRow w.heap.size 22 1 va acc.length vs) (hvr : ∀ (i : Nat) (v : Value) (a : List Nat), vs[i]? = some v → acc[i]? = some a → RV w4 B v (some a))
    (hown : w5.ownsRow w.heap.size 22 1 (.slice (some ⟨g, 0, none⟩) (acc.length + 1) cap) (acc.length + 1) (vs ++ [v])) (hs5 : Same va.ownBlock.toList w4 w5) (hM4 : At w4 Mb #[vt, va] 40) :
    At w5 Mb #[vt, va] 40 ∧ NL w B P1 Mb P2 vt (.slice (some ⟨g, 0, none⟩) (acc.length + 1) cap) t s2 rest (acc ++ [y :: ys]) R (w5.setCell ⟨Mb, 1, none⟩ (.slice (some ⟨g, 0, none⟩) (acc.length + 1) cap)) := by
  have h1 := h.lo1
  have h2 := h.lo2
  have h3 := h.lo3
  have hB := h.hB
  have ho : ∀ b ∈ va.ownBlock.toList, w.heap.size ≤ b := by
    intro b hb
    simp at hb
    exact (hvs.lt b hb).1
  have hM5 : At w5 Mb #[vt, va] 40 := hs5.at_ hM4 (by intro hm; simp at hm; exact owns_ne hvs hM4 (by decide) hm)
  have hset : Same [Mb] w5 (w5.setCell ⟨Mb, 1, none⟩ (.slice (some ⟨g, 0, none⟩) (acc.length + 1) cap)) := (Same.refl _ _).setCell (.inl (by simp)) _
  have hvl : vs.length = acc.length := by simpa using hvs.1
  have hpn : ∀ {wx : World} {Px : Nat} {st : Option (List Nat)}, PSt w4 Px B st → Px ∉ va.ownBlock.toList := by
    intro wx Px st hx hm
    simp at hm
    cases st with
    | none =>
      obtain ⟨v, hx⟩ := hx
      exact owns_ne hvs hx (by decide) hm
    | some zs =>
      obtain ⟨_, _, _, hx, _⟩ := hx
      exact owns_ne hvs hx (by decide) hm
  have hp14 : PSt w4 P1 B s2 := h.p1.same hs4 (by intro b hb; simp at hb; omega) (by simp; omega)
  refine ⟨hM5, ⟨?_, ?_, ?_, ?_, by simpa using hM5.set 1 (.slice (some ⟨g, 0, none⟩) (acc.length + 1) cap), ?_, ?_, h1, h2, h3, hB⟩⟩
  · exact ((h.same.comp hs4 (by intro b hb; simp at hb; right; omega)).comp hs5 (by intro b hb; right; exact ho b hb)).setCell (.inr (by simp only; omega)) _
  · exact ((h.rt.same hs4 (by intro b hb; simp at hb; omega)).same hs5 (by intro b hb; have := ho b hb; omega)).same hset (by intro b hb; simp at hb; omega)
  · exact (hp14.same hs5 (by intro b hb; have := ho b hb; omega) (hpn (wx := w) hp14)).same hset (by intro b hb; simp at hb; omega) (by simp; omega)
  · exact (hst.same hs5 (by intro b hb; have := ho b hb; omega) (hpn (wx := w) hst)).same hset (by intro b hb; simp at hb; omega) (by simp; omega)
  · refine ⟨vs ++ [v], ?_, ?_⟩
    · have := ownsRow_setCell_other hown (a := ⟨Mb, 1, none⟩) (owns_ne hown hM5 (by decide)) (.slice (some ⟨g, 0, none⟩) (acc.length + 1) cap)
      simpa using this
    · intro i u a hu ha
      have hk : ∀ u' a', RV w4 B u' (some a') → RV (w5.setCell ⟨Mb, 1, none⟩ (.slice (some ⟨g, 0, none⟩) (acc.length + 1) cap)) B u' (some a') := by
        intro u' a' hr
        exact (hr.same hs5 (by intro b hb; have := ho b hb; omega)).same hset (by intro b hb; simp at hb; omega)
      by_cases hi : i < acc.length
      · rw [List.getElem?_append_left (by omega)] at hu
        rw [List.getElem?_append_left hi] at ha
        exact hk _ _ (hvr i u a hu ha)
      · have hi' : i = acc.length := by
          have := (List.getElem?_eq_some_iff.1 ha).1
          simp at this
          omega
        subst hi'
        have e1 : (vs ++ [v])[acc.length]? = some v := by rw [← hvl]; simp
        rw [e1] at hu
        simp at ha
        obtain rfl := Option.some.inj hu
        rw [← ha]
        exact hk _ _ hv
  · rw [← h.res, pN_cons hc hp]
    simp only [Option.map_map]
    congr 1
    funext As
    simp

set_option maxHeartbeats 1000000 in
theorem parse_gen (B len cap : Nat) (ao : Option Addr) (xs : List Nat) (t s1 nm s2 : Option (List Nat)) (w : World) (hseg : Seg w B ao len cap xs) (hB : B ≤ w.heap.size) (hlen : len ≤ 10000000)
    (h8 : pV8 (some xs) = (t, s1)) (h16 : pV16 s1 = (nm, s2)) (hnl : (nm.getD []).length ≤ len) :
    Calls Yba.prog 7 #[.slice ao len cap] w fun e w' => PP w B t s2 (pN (nm.getD [])) e w' := by
  have HSeg : Hid (Seg w B ao len cap xs) := hseg
  have H8 : Hid (pV8 (some xs) = (t, s1) ∧ pV16 s1 = (nm, s2)) := ⟨h8, h16⟩
  clear hseg h8 h16
  obtain ⟨R, hR⟩ : ∃ R, pN (nm.getD []) = R := ⟨_, rfl⟩
  have HR : Hid (pN (nm.getD []) = R) := hR
  rw [hR]
  clear hR
  go_enter Yba.func7, Yba.ntmps7
  go_wp2_with fail
  have hP1 : PSt (w.alloc (.cells #[.slice ao len cap, .bool false] 37)) w.heap.size B (some xs) := ⟨ao, len, cap, At.new _ _ _, HSeg.out.same ((Same.refl [] w).alloc _) (by simp)⟩
  refine (vec8_any w.heap.size B (some xs) _ hP1 hB).mono ?_
  rintro e w1 ⟨vt, rfl, hrv1, hst1, hs1⟩
  rw [H8.out.1] at hrv1 hst1
  simp only at hrv1 hst1
  have H1 : Hid (RV w1 B vt t ∧ PSt w1 w.heap.size B s1 ∧ Same [] w w1) := ⟨hrv1, hst1, ((Same.refl [] w).alloc _).comp hs1 (by simp)⟩
  have hsz1 : w.heap.size < w1.heap.size := by
    have := hs1.size
    simp at this
    omega
  obtain ⟨at_, ct, hvt, _⟩ := hrv1.getD
  subst hvt
  clear hrv1 hst1 hs1 hP1
  go_wp2_with fail
  have hst1' : PSt (w1.alloc (.cells #[.slice at_ (t.getD []).length ct, .slice none 0 0] 40)) w.heap.size B s1 := H1.out.2.1.same ((Same.refl [] w1).alloc _) (by simp) (by simp)
  refine (vec16_any w.heap.size B s1 _ hst1' hB).mono ?_
  rintro e w2 ⟨vn, rfl, hrv2, hst2, hs2⟩
  rw [H8.out.2] at hrv2 hst2
  simp only at hrv2 hst2
  obtain ⟨an, cn, hvn, hsegn⟩ := hrv2.getD
  subst hvn
  have hsz2 : w1.heap.size < w2.heap.size := by
    have := hs2.size
    simp at this
    omega
  have hM2 : At w2 w1.heap.size #[.slice at_ (t.getD []).length ct, .slice none 0 0] 40 := hs2.at_ (At.new _ _ _) (by simp; omega)
  have H2 : Hid (RV w2 B (.slice at_ (t.getD []).length ct) t ∧ PSt w2 w.heap.size B s2 ∧ Same [] w w2 ∧ At w2 w1.heap.size #[.slice at_ (t.getD []).length ct, .slice none 0 0] 40 ∧ Seg w2 B an (nm.getD []).length cn (nm.getD [])) :=
    ⟨(H1.out.1.same ((Same.refl [] w1).alloc _) (by simp)).same hs2 (by simpa using hB), hst2, (H1.out.2.2.alloc _).comp hs2 (by simp), hM2, hsegn⟩
  clear hrv2 hst2 hs2 hst1' hM2 hsegn H1 HSeg H8
  go_wp2_with fail
  go_loopg [] (nm.getD []).length (fun q wr => ∃ cur acc va, cur.length = q ∧ acc.length + cur.length ≤ len ∧ NL w B w.heap.size w1.heap.size w2.heap.size (.slice at_ (t.getD []).length ct) va t s2 cur acc R wr)
  case atStart =>
    refine ⟨nm.getD [], [], .slice none 0 0, rfl, by simpa using hnl, ?_⟩
    have hsa : Same [] w2 (w2.alloc (.cells #[.slice an (nm.getD []).length cn, .bool false] 37)) := (Same.refl [] w2).alloc _
    obtain ⟨a1, a2, a3, a4, a5⟩ := H2.out
    refine ⟨a3.alloc _, a1.same hsa (by simp), a2.same hsa (by simp) (by simp), ⟨an, _, cn, At.new _ _ _, a5.same hsa (by simp)⟩, a4.alloc _, ⟨[], World.ownsRow_nil _ _ _ _, by simp⟩, ?_, Nat.le_refl _, hsz1, hsz2, hB⟩
    rw [HR.out]
    cases R <;> simp
  case round =>
    obtain ⟨cur, acc, va, hq, hal, hnl'⟩ := hrel
    have HN : Hid (NL w B w.heap.size w1.heap.size w2.heap.size (.slice at_ (t.getD []).length ct) va t s2 cur acc R wr) := hnl'
    obtain ⟨ao2, len2, cap2, hP2, hseg2⟩ := hnl'.p2
    have hc20 := hP2.cell 0
    have hc21 := hP2.cell 1
    simp at hc20 hc21
    have hl2 := hseg2.len_eq
    have hle2 := hseg2.le
    have hcap2 := hseg2.cap_le
    have hM0 := hnl'.hM.cell 0
    have hM1 := hnl'.hM.cell 1
    simp at hM0 hM1
    clear hnl' hP2 hseg2
    cases cur with
    | nil =>
      simp at hl2
      subst hl2
      have hR0 : some acc = R := by have := HN.out.res; simpa [pN_nil] using this
      have HR0 : Hid (some acc = R) := hR0
      clear hR0
      have HD := done_any w.heap.size B s2 wr HN.out.p1
      by_cases ht : 0 < (t.getD []).length
      · go_wp2_with fail
        refine HD.mono ?_
        rintro e w' ⟨rfl, rfl⟩
        have HT : Hid (decide (0 < (t.getD []).length) = true) := by show decide _ = true; simpa using ht
        generalize hbd : decide (s2 = some []) = bd
        have HBD : Hid (decide (s2 = some []) = bd) := hbd
        clear hbd HD
        go_wp2
        go_ret2
        refine ⟨HN.out.same, ?_⟩
        rw [← HR0.out]
        exact ⟨w1.heap.size, _, va, by rw [HT.out, HBD.out]; rfl, HN.out.hM, HN.out.rt, HN.out.auth⟩
      · have HT : Hid (decide (0 < (t.getD []).length) = false) := by show decide _ = false; simpa using ht
        clear HD
        go_wp2
        go_ret2
        refine ⟨HN.out.same, ?_⟩
        rw [← HR0.out]
        exact ⟨w1.heap.size, _, va, by rw [HT.out]; rfl, HN.out.hM, HN.out.rt, HN.out.auth⟩
    | cons c cs =>
      have hpos : 0 < len2 := by rw [← hl2]; simp
      clear hl2
      go_wp2_with fail
      refine (vec16_any w2.heap.size B (some (c :: cs)) wr HN.out.p2 (by have := HN.out.lo3; omega)).mono ?_
      rintro e w4 ⟨v, rfl, hrv, hst, hs4⟩
      rcases pV16_form (some (c :: cs)) with hp | ⟨ys, rest, hp⟩
      · have hR0 : R = none := HN.out.noRes (by simp) (by intro y ys rest hq2; rw [hp] at hq2; simp at hq2)
        have HR0 : Hid (R = none) := hR0
        clear hR0
        rw [hp] at hrv
        simp only at hrv
        obtain rfl : v = .slice none 0 0 := hrv
        have HS : Hid (Same [] w w4) := HN.out.same.comp hs4 (by intro b hb; simp at hb; have := HN.out.lo1; have := HN.out.lo2; have := HN.out.lo3; right; omega)
        clear hst hs4
        go_wp2
        go_ret2
        refine ⟨HS.out, ?_⟩
        rw [HR0.out]
        rfl
      · rw [hp] at hrv hst
        simp only at hrv hst
        cases ys with
        | nil =>
          have hR0 : R = none := HN.out.noRes (by simp) (by intro y ys rest hq2; rw [hp] at hq2; simp at hq2)
          have HR0 : Hid (R = none) := hR0
          clear hR0
          obtain ⟨av, cv, rfl, _⟩ := hrv
          have HS : Hid (Same [] w w4) := HN.out.same.comp hs4 (by intro b hb; simp at hb; have := HN.out.lo1; have := HN.out.lo2; have := HN.out.lo3; right; omega)
          clear hst hs4
          simp only [List.length_nil]
          go_wp2
          go_ret2
          refine ⟨HS.out, ?_⟩
          rw [HR0.out]
          rfl
        | cons y ys =>
          have hrl := pV16_rest hp
          obtain ⟨vs, hvs, hvr⟩ := HN.out.auth
          have hva4 : w4.ownsRow w.heap.size 22 1 va acc.length vs := hs4.owns hvs (by
            intro g hg hm
            simp at hm
            subst hm
            obtain ⟨_, _, _, hPx, _⟩ := HN.out.p2
            exact owns_ne hvs hPx (by decide) hg)
          have hvr4 : ∀ (i : Nat) (v : Value) (a : List Nat), vs[i]? = some v → acc[i]? = some a → RV w4 B v (some a) := fun i v a h1 h2 => (hvr i v a h1 h2).same hs4 (by intro b hb; simp at hb; have := HN.out.lo1; have := HN.out.lo2; have := HN.out.lo3; omega)
          have hM4 : At w4 w1.heap.size #[.slice at_ (t.getD []).length ct, va] 40 := hs4.at_ HN.out.hM (by have := HN.out.lo3; simp; omega)
          obtain ⟨av, cv, rfl, hsegv⟩ := hrv
          have hrv' : RV w4 B (.slice av (y :: ys).length cv) (some (y :: ys)) := ⟨av, cv, rfl, hsegv⟩
          have hcv : (y :: ys).length ≤ cv ∧ cv ≤ 9223372036854775807 := ⟨hsegv.le, hsegv.cap_le⟩
          have hl1 : 0 < (y :: ys).length := by simp
          have hl3 : (y :: ys).length ≤ len := by simp at hrl hal ⊢; omega
          obtain ⟨ava, cva, hvaf⟩ := owns_form hva4
          subst hvaf
          have hM41 := hM4.cell 1
          simp at hM41
          have H4 : Hid _ := And.intro hrv' (And.intro hst (And.intro hs4 (And.intro hva4 (And.intro hvr4 hM4))))
          have hb4 : w.heap.size ≤ w4.heap.size := Nat.le_trans HN.out.same.size hs4.size
          have hal2 : acc.length ≤ 10000000 := by omega
          clear hrv' hst hs4 hva4 hvr4 hM4 hsegv hvs hvr
          generalize hly : (y :: ys).length = ly at *
          have HLY : Hid ((y :: ys).length = ly) := hly
          clear hly
          go_wp2_with (at_builtin; go_must (refine wpList_append_one w4 rfl (.tmp 32) (.tmp 34) 24 rfl w.heap.size 22 (.slice none 0 0) 24 Yba.underlying24 info22 rfl H4.out.2.2.2.1 rfl _ rfl rfl (by unfold maxLen; omega) (by omega) hb4 ?_))
          intro g capn w5 hown5 hs5 hat5
          obtain ⟨b1, b2, b3, b4, b5, b6⟩ := H4.out
          have hst5 := HN.out.step (by simp) hp b1 b2 b3 b4 b5 hown5 hs5 b6
          have hM51 := hst5.1.cell 1
          have hM5f := hst5.1.free 1
          simp at hM51
          have H5 : Hid _ := hst5.2
          clear hst5 hown5 hs5 hat5 b1 b2 b3 b4 b5 b6
          go_wp2
          go_roundg rest.length
          case measure => simp at hrl hq; omega
          case rel => exact ⟨rest, acc ++ [y :: ys], _, rfl, by simp at hrl hal ⊢; omega, H5.out⟩
end Go.Proofs.Ybulkbksy
