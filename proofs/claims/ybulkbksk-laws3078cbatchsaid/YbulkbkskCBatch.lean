import Derived.Test.YbulkbkskBatchInv
import Derived.ProofKit
import Derived.OpenShut
import Derived.ShutString
import Derived.ChangeOld
namespace Go.Proofs.Ybulkbksk.CBatch
open Go.ChangeShapes Go.WideShapes Go.ChangeAt Go.RowKit
open Go.Proofs.Ybulkbksk
set_option linter.unusedVariables false

set_option maxHeartbeats 400000 in
theorem atoms_batch (R Bt base m nx : Nat) (r0 r1 r2 r3 r4 r5 r6 r8 c0 c1 c2 c5 c6 vb : Value) (Bs : List (Nat × Nat × Nat)) (w : World)
    (hR : At w R #[r0, r1, r2, r3, r4, r5, r6, .pointer (some ⟨Bt, 0, none⟩), r8] 91)
    (hBt : At w Bt #[c0, c1, c2, vb, .int .i64 nx, c5, c6] 102) (hvb : w.ownsRow base 86 1 vb Bs.length (Bs.map RowV))
    (hnx : nx ≤ Bs.length) (hn : Bs.length ≤ 256) (hm : m ≤ 300) (hlc : ∀ t ∈ Bs, t.2.1 ≤ t.2.2 ∧ t.2.2 ≤ 1024) (hbs : base ≤ w.heap.size) :
    Calls Yba.prog 17 #[.pointer (some ⟨R, 0, none⟩), .int .i64 m] w fun e w' => TakePost Bt base m nx c0 c1 c2 c5 c6 vb Bs w e w' := by
  have hc7 := hR.cell 7
  simp at hc7
  have H := take_any Bt base m nx c0 c1 c2 c5 c6 vb Bs w hBt hvb hnx hn hm hlc hbs
  clear hR hBt hvb hnx hn hlc hbs
  go_enter Yba.func17, Yba.ntmps17
  go_wp2_with fail
  refine H.mono ?_
  intro e w' hp
  have hex : ∃ v, e = .returned v := by
    obtain ⟨j, _, _, hp⟩ := hp
    rcases hp with ⟨_, _, _, _, _, _, _, he, _⟩ | ⟨_, _, _, he, _⟩
    · exact ⟨_, he⟩
    · exact ⟨_, he⟩
  obtain ⟨v, rfl⟩ := hex
  have HP : Hid (TakePost Bt base m nx c0 c1 c2 c5 c6 vb Bs w (.returned v) w') := hp
  clear hp
  go_wp2
  go_ret
  exact HP.out

set_option maxRecDepth 20000 in
set_option maxHeartbeats 400000 in
theorem walk_long (a0 : Option Addr) (len0 cap0 : Nat) (w : World) (h : 256 < len0) (hm : len0 ≤ 9223372036854775807) :
    Calls Yba.prog 7 #[.slice a0 len0 cap0] w fun e w' => e = .returned (.bool true) ∧ Below w.heap.size w w' := by
  go_enter Yba.func7, Yba.ntmps7
  go_wp2
  go_ret
  exact ⟨rfl, Below.refl _ _⟩

/-- What holds at the head of each round: the counter, the model's 'next', the rows. -/
def Head (w : World) (len : Nat) (q : Nat) (vg vc vl nxv kv : Value) (wr : World) : Prop :=
  ∃ (K nx : Nat) (vb : Value) (Bs : List (Nat × Nat × Nat)) (cs ls : List Nat) (gots : List Value), K + q = len ∧ kv = .int .i64 K ∧ nxv = .int .i64 nx ∧ gots.length = K ∧ Bs.length ≤ K ∧ cs = (Bs.map fun t => t.2.2) ∧ ls = (Bs.map fun t => t.2.1) ∧
     St w (w.heap.size + 1) w.heap.size nx vb vg vc vl Bs cs ls K gots wr

theorem mk_eq (K : Nat) : Value.int .u8 ((K : Int) % 251 + 1) = mkOf K := by
  unfold mkOf
  congr 1

theorem head_found {w w3 : World} {len gq K k g l c p nd gl cl : Nat} {vb vg vc : Value} {Bs Bs' : List (Nat × Nat × Nat)} {cs ls : List Nat} {gots : List Value} (x : Int)
    (h : St w (w.heap.size + 1) w.heap.size k vb vg vc (.slice (some ⟨gl, 0, none⟩) ls.length cl) Bs' cs ls (K + 1) gots w3) (hx : x = ((l + p : Nat) : Int))
    (hb : Bs[k]? = some (g, l, c)) (hB' : Bs' = Bs.set k (g, l + p, c)) (hcs : cs = Bs.map fun t => t.2.2) (hls : ls = Bs.map fun t => t.2.1) (hq : K + gq = len) (hlt : K < len) (hg : gots.length = K + 1) (hBK : Bs.length ≤ K) :
    Head w len (gq - 1) vg vc (.slice (some ⟨gl, 0, none⟩) ls.length cl) (.int .i64 k) (.int .i64 ((K : Int) + 1)) ((w3.drewN nd).setCell ⟨gl, k, none⟩ (.int .i64 x)) := by
  subst hx
  have hk : k < Bs.length := (List.getElem?_eq_some_iff.1 hb).1
  have hk' : Bs[k] = (g, l, c) := by rw [List.getElem?_eq_getElem hk] at hb; exact Option.some.inj hb
  refine ⟨K + 1, k, vb, Bs', cs, ls.set k (l + p), gots, by omega, by simp, rfl, hg, by rw [hB']; simp; omega, ?_, ?_, h.storeL rfl (by rw [hls]; simpa using hk)⟩
  · rw [hB', hcs, List.map_set]
    apply List.ext_getElem?
    intro i
    by_cases hi : k = i
    · subst hi
      rw [List.getElem?_set_self (by simpa using hk)]
      simp [hb]
    · rw [List.getElem?_set_ne hi]
  · rw [hB', hls, List.map_set]

theorem szOf_last {Bs : List (Nat × Nat × Nat)} {cs : List Nat} (hcs : cs = Bs.map fun t => t.2.2) (h : Bs ≠ []) : szOf Bs = min (2 * cs.getD (cs.length - 1) 0) 1024 := by
  have h1 : 0 < Bs.length := List.length_pos_iff.2 h
  obtain ⟨t, ht⟩ : ∃ t, Bs[Bs.length - 1]? = some t := ⟨Bs[Bs.length - 1], by simp⟩
  unfold szOf
  rw [List.getLast?_eq_getElem?, ht]
  simp only
  rw [hcs, List.length_map, getD_map _ _ ht]

theorem head_new {w w3 w4 w5 : World} {len gq K k g p nd gc gl cc cl S M : Nat} {vb vg vc vl : Value} {Bs Bs' : List (Nat × Nat × Nat)} {cs ls : List Nat} {gots : List Value}
    (h : St w (w.heap.size + 1) w.heap.size k vb vg vc vl Bs' cs ls (K + 1) gots w3) (hS : szOf Bs = S) (hM : M = max p S) (hk : k = Bs.length)
    (hc : w4.ownsRow w.heap.size 3 1 (.slice (some ⟨gc, 0, none⟩) (cs.length + 1) cc) (cs.length + 1) ((cs.map fun c : Nat => Value.int .i64 (c : Int)) ++ [.int .i64 (M : Int)])) (hs : Same vc.ownBlock.toList (w3.drewN nd) w4) (hat : vc.ownBlock = some gc ∨ w3.heap.size ≤ gc)
    (hl : w5.ownsRow w.heap.size 3 1 (.slice (some ⟨gl, 0, none⟩) (ls.length + 1) cl) (ls.length + 1) ((ls.map fun c : Nat => Value.int .i64 (c : Int)) ++ [.int .i64 (p : Int)])) (hs2 : Same vl.ownBlock.toList w4 w5) (hat2 : vl.ownBlock = some gl ∨ w4.heap.size ≤ gl)
    (hB' : Bs' = Bs ++ [(g, p, max p S)]) (hcs : cs = Bs.map fun t => t.2.2) (hls : ls = Bs.map fun t => t.2.1) (hq : K + gq = len) (hlt : K < len) (hg : gots.length = K + 1) (hBK : Bs.length ≤ K) :
    Head w len (gq - 1) vg (.slice (some ⟨gc, 0, none⟩) (cs.length + 1) cc) (.slice (some ⟨gl, 0, none⟩) (ls.length + 1) cl) (.int .i64 k) (.int .i64 ((K : Int) + 1)) w5 := by
  subst hS
  subst hM
  have h' := h.draw (n := nd)
  refine ⟨K + 1, k, vb, Bs', cs ++ [max p (szOf Bs)], ls ++ [p], gots, by omega, by simp, rfl, hg, by rw [hB']; simp; omega, ?_, ?_, h'.appendCL hc hs hat hl hs2 hat2⟩
  · rw [hB', hcs]
    simp
  · rw [hB', hls]
    simp

set_option maxRecDepth 20000 in
set_option maxHeartbeats 2000000 in
theorem walk_short (a0 : Option Addr) (len cap : Nat) (Z : Nat → Nat) (w : World) (hlen : len ≤ 256)
    (hcell : ∀ k, k < len → ∃ b off, a0 = some ⟨b, off, none⟩ ∧ b < w.heap.size ∧ w.cell? ⟨b, off + k, none⟩ = some (.int .u16 (Z k)) ∧ Z k ≤ 65535) :
    Calls Yba.prog 7 #[.slice a0 len cap] w fun e w' => e = .returned (.bool true) ∧ Below w.heap.size w w' := by
  go_enter Yba.func7, Yba.ntmps7
  go_wp2
  go_loopg [4, 5, 6, 7, 34] len (fun q vg vc vl nxv kv wr => Head w len q vg vc vl nxv kv wr)
  case atStart =>
    refine ⟨0, 0, .slice none 0 0, [], [], [], [], by omega, rfl, rfl, rfl, Nat.le_refl _, rfl, rfl, ?_⟩
    refine ⟨((Below.refl _ w).alloc (Nat.le_refl _) _).alloc (by simp) _, by omega, Nat.le_refl _, ?_, ?_, World.ownsRow_nil _ _ _ _, World.ownsRow_nil _ _ _ _, World.ownsRow_nil _ _ _ _, World.ownsRow_nil _ _ _ _,
      by simp [Value.ownBlock], by simp [Value.ownBlock], Nat.le_refl _, by simp, by simp, by simp, by omega⟩
    · have h := At.new (w.alloc (.cells #[.slice none 0 0, .slice none 0 0, .int .i64 0, .slice none 0 0, .int .i64 0, .slice none 0 0, .slice none 0 0] 102)) #[.slice none 0 0, .int .i64 0, .bool false, .int .i64 0, .int .i64 0, .int .i64 0, .slice none 0 0, .pointer (some ⟨w.heap.size, 0, none⟩), .pointer none] 91
      simpa using h
    · exact (At.new w _ 102).alloc _
  case round =>
    obtain ⟨gq, rfl⟩ : ∃ gq : Nat, gq = gk := ⟨_, rfl⟩
    obtain ⟨wh, rfl⟩ : ∃ wh : World, wh = wr := ⟨_, rfl⟩
    obtain ⟨K, nx, vb, Bs, cs, ls, gots, hKq, rfl, rfl, hgl, hBK, hcs, hls, hst⟩ := hrel
    have hcl : cs.length = Bs.length := by rw [hcs]; simp
    have hll : ls.length = Bs.length := by rw [hls]; simp
    obtain ⟨ac, cc, hvc⟩ := owns_form hst.hvc
    obtain ⟨al, cl, hvl⟩ := owns_form hst.hvl
    subst hvc
    subst hvl
    by_cases hlt : K < len
    · obtain ⟨b, off, rfl, hb, hc, hz⟩ := hcell K hlt
      have hcK : wh.cell? ⟨b, off + K, none⟩ = some (.int .u16 (Z K)) := (hst.below.cell (by exact hb)).trans hc
      generalize Z K = z at *
      clear hc hcell
      have HS : Hid (St w (w.heap.size + 1) w.heap.size nx vb u4 (.slice ac cs.length cc) (.slice al ls.length cl) Bs cs ls K gots wh ∧ cs = (Bs.map fun t => t.2.2) ∧ ls = (Bs.map fun t => t.2.1) ∧ cs.length = Bs.length ∧ ls.length = Bs.length) := ⟨hst, hcs, hls, hcl, hll⟩
      clear hst hcs hls hcl hll
      go_wp2_with fail
      have hzn : (z : Int) % 301 = ((z % 301 : Nat) : Int) := by omega
      rw [hzn]
      have hn : z % 301 ≤ 300 := by omega
      clear hzn
      generalize z % 301 = n at *
      obtain ⟨hst, HL⟩ := HS.out
      refine (atoms_batch _ _ _ n nx _ _ _ _ _ _ _ _ _ _ _ _ _ vb Bs wh hst.hR hst.hBt hst.hvb hst.hnx (by omega) hn hst.hlc hst.below.size).mono ?_
      intro e w1 hp
      obtain ⟨j, vb', Bs', ab, of, rfl, hstep, hst1, hpend⟩ := hst.take hn hp
      have hz0 : ∀ q, q < n → w1.cell? ⟨ab, of + q, none⟩ = some (.int .u8 0) := by
        intro q hq
        obtain ⟨t, _, hb', _, _, h4, _⟩ := hpend (by omega)
        simp only at hb' h4
        rw [hb']
        exact h4 q hq
      have H0 : Hid (Step Bs nx n j Bs' ∧ (∀ t ∈ Bs, t.2.1 ≤ t.2.2 ∧ t.2.2 ≤ 1024) ∧ cs = (Bs.map fun t => t.2.2) ∧ ls = (Bs.map fun t => t.2.1) ∧ cs.length = Bs.length ∧ ls.length = Bs.length) := ⟨hstep, hst.hlc, HL⟩
      have H1 : Hid (St w (w.heap.size + 1) w.heap.size j vb' u4 (.slice ac cs.length cc) (.slice al ls.length cl) Bs' cs ls K gots w1 ∧ Pend w1 Bs' ⟨ab, of, none⟩ n K gots) := ⟨hst1, hpend⟩
      have HZ : Hid (∀ q, q < n → w1.cell? ⟨ab, of + q, none⟩ = some (.int .u8 0)) := hz0
      clear hst HS hp hstep hst1 hpend hz0 hcK HL
      go_wp2_with fail
      go_loop [57] (fun i => ∃ k : Nat, k ≤ n ∧ i = .int .i64 k) (fun i => n - (intOf i).toNat)
      case atStart => exact ⟨0, Nat.zero_le _, rfl⟩
      case round =>
        obtain ⟨k, hk, rfl⟩ := hrel
        by_cases hkn : k < n
        · have hck := HZ.out k hkn
          go_wp2
          go_round
          case rel => exact ⟨k + 1, by omega, by go_num⟩
          case measure => simp [intOf]; omega
        · clear HZ
          go_wp2_with fail
          go_loopg [70] n (fun q i wp => ∃ k : Nat, k + q = n ∧ i = .int .i64 k ∧ Painted w1 wp ⟨ab, of, none⟩ k (.int .u8 (↑K % 251 + 1)) ∧ (k = 0 → wp = w1))
          case atStart => exact ⟨0, by omega, rfl, Painted.zero _ _ _, fun _ => rfl⟩
          case round =>
            obtain ⟨p, hpn, rfl, hpt, hpt0⟩ := hrel
            by_cases hpl : p < n
            · obtain ⟨⟨u, hcu⟩, hfr, hpt'⟩ := H1.out.1.paintStep H1.out.2 hpl hpt
              clear hpt hpt0
              have HP : Hid _ := hpt'
              clear hpt'
              go_wp2
              go_roundg (gk - 1)
              case measure => omega
              case rel => exact ⟨p + 1, by omega, by go_num, HP.out, fun h => by omega⟩
            · obtain rfl : p = n := by omega
              obtain ⟨w2, rfl⟩ : ∃ w2 : World, w2 = wr := ⟨_, rfl⟩
              rw [mk_eq] at hpt
              obtain ⟨hst2, hgot2⟩ := H1.out.1.painted H1.out.2 hpt hpt0
              have H2 : Hid (St w (w.heap.size + 1) w.heap.size j vb' u4 (.slice ac cs.length cc) (.slice al ls.length cl) Bs' cs ls K gots w2 ∧ GotOk w2 Bs' ⟨ab, of, none⟩ p K) := ⟨hst2, hgot2⟩
              clear hst2 hgot2 hpt hpt0 H1
              go_wp2_with (at_builtin; go_must (refine wpList_append_one w2 rfl (.tmp 78) (.tmp 80) 98 rfl w.heap.size 86 (.slice none 0 0) 24 Yba.underlying98 info86 rfl H2.out.1.hvg rfl _ rfl rfl (by unfold maxLen; omega) (by omega) H2.out.1.below.size ?_))
              intro g3 cap3 w3 hown3 hs3 hat3
              have H3 : Hid _ := H2.out.1.gotAppend H2.out.2 hgl hown3 hs3 hat3
              clear H2 hown3 hs3 hat3
              go_wp2_with fail
              obtain ⟨hstep, hlcB, hcs, hls, hcl, hll⟩ := H0.out
              obtain ⟨hjB, hrooms⟩ := hstep.rooms hcs hls hlcB
              have hcaps := caps_le hcs hls hlcB
              have hnj := hstep.1
              have HR : Hid (∀ k, nx ≤ k → k < j → ((cs.getD k 0 : Nat) : Int) - ((ls.getD k 0 : Nat) : Int) < (p : Int)) := hrooms
              have HC : Hid (∀ k, cs.getD k 0 ≤ 1024 ∧ ls.getD k 0 ≤ 1024) := hcaps
              have hcl1 : Bs.length ≤ cs.length := by omega
              have hcl2 : cs.length ≤ Bs.length := by omega
              have hll1 : Bs.length ≤ ls.length := by omega
              have hll2 : ls.length ≤ Bs.length := by omega
              have hcase := hstep.2.2
              clear hrooms hcaps hcs hls hcl hll hlcB hstep
              rcases hcase with ⟨g, l, c, ht, hroom, hBs'⟩ | ⟨hjl, g, hBs'⟩
              · have HB : Hid (Bs[j]? = some (g, l, c) ∧ p ≤ c - l ∧ Bs' = Bs.set j (g, l + p, c)) := ⟨ht, hroom, hBs'⟩
                have hjB' : j < Bs.length := (List.getElem?_eq_some_iff.1 ht).1
                clear ht hroom hBs'
                go_loopg [7, 16] (j - nx) (fun q i pl wf => ∃ k : Nat, k + q = j ∧ nx ≤ k ∧ i = .int .i64 k ∧ pl = .bool false ∧ ∃ nd, wf = w3.drewN nd)
                case atStart => exact ⟨nx, by omega, Nat.le_refl _, rfl, rfl, 0, rfl⟩
                case round =>
                  obtain ⟨k, hkj, hnk, rfl, rfl, nd, rfl⟩ := hrel
                  obtain ⟨gc, gl, rfl, rfl, hc1, hc2, hfz, _, _, _, _⟩ := H3.out.cellCL (k := k) (by omega) (by omega)
                  obtain ⟨hb1, hb2⟩ := HC.out k
                  by_cases hkj' : k < j
                  · have hr := HR.out k hnk hkj'
                    generalize cs.getD k 0 = ck at *
                    generalize ls.getD k 0 = lk at *
                    go_wp2_with fail
                    go_quiet (fail)
                    go_wp2_with fail
                    go_roundg (gk - 1)
                    case measure => omega
                    case rel => exact ⟨k + 1, by omega, by omega, by go_num, rfl, _, rfl⟩
                  · obtain rfl : k = j := by omega
                    obtain ⟨hcs, hls⟩ := (show cs = _ ∧ ls = _ from ⟨H0.out.2.2.1, H0.out.2.2.2.1⟩)
                    have e1 : cs.getD k 0 = c := by rw [hcs, getD_map _ _ HB.out.1]
                    have e2 : ls.getD k 0 = l := by rw [hls, getD_map _ _ HB.out.1]
                    rw [e1] at hc1 hb1
                    rw [e2] at hc2 hb2
                    have hr : (p : Int) ≤ (c : Int) - (l : Int) := by have := HB.out.2.1; have := (H0.out.2.1 _ (List.mem_of_getElem? HB.out.1)).1; simp only at this; omega
                    clear e1 e2 hcs hls
                    go_wp2_with fail
                    go_quiet (fail)
                    go_wp2_with fail
                    go_roundg (gq - 1)
                    case measure => omega
                    case rel => exact head_found _ H3.out (by omega) HB.out.1 HB.out.2.2 H0.out.2.2.1 H0.out.2.2.2.1 hKq hlt (by simp [hgl]) hBK
              · have HB : Hid (j = Bs.length ∧ Bs' = Bs ++ [(g, p, max p (szOf Bs))]) := ⟨hjl, hBs'⟩
                have hjl1 : Bs.length ≤ j := by omega
                clear hjl hBs'
                go_loopg [7, 16] (j - nx) (fun q i pl wf => ∃ k : Nat, k + q = j ∧ nx ≤ k ∧ i = .int .i64 k ∧ pl = .bool false ∧ ∃ nd, wf = w3.drewN nd)
                case atStart => exact ⟨nx, by omega, Nat.le_refl _, rfl, rfl, 0, rfl⟩
                case round =>
                  obtain ⟨k, hkj, hnk, rfl, rfl, nd, rfl⟩ := hrel
                  by_cases hkj' : k < j
                  · obtain ⟨gc, gl, rfl, rfl, hc1, hc2, hfz, _, _, _, _⟩ := H3.out.cellCL (k := k) (by omega) (by omega)
                    obtain ⟨hb1, hb2⟩ := HC.out k
                    have hr := HR.out k hnk hkj'
                    generalize cs.getD k 0 = ck at *
                    generalize ls.getD k 0 = lk at *
                    go_wp2_with fail
                    go_quiet (fail)
                    go_wp2_with fail
                    go_roundg (gk - 1)
                    case measure => omega
                    case rel => exact ⟨k + 1, by omega, by omega, by go_num, rfl, _, rfl⟩
                  · obtain rfl : k = j := by omega
                    go_upto_if 110 with fail
                    go_cut [17] (fun s wc => s = .int .i64 (szOf Bs) ∧ ∃ nd', wc = w3.drewN nd')
                    case first =>
                      by_cases hB0 : Bs = []
                      · have hc0 : ¬ 0 < cs.length := by have : Bs.length = 0 := by rw [hB0]; rfl
                                                         omega
                        have HB0 : Hid (szOf Bs = 32) := by rw [hB0]; rfl
                        clear hB0
                        go_wp2
                        go_meet
                        case rel => exact ⟨by rw [HB0.out]; rfl, _, rfl⟩
                      · have hc0 : 0 < cs.length := by have := List.length_pos_iff.2 hB0; omega
                        have HB0 : Hid (szOf Bs = min (2 * cs.getD (cs.length - 1) 0) 1024) := szOf_last H0.out.2.2.1 hB0
                        obtain ⟨gc, gl, rfl, rfl, hc1, hc2, hfz, _, _, _, _⟩ := H3.out.cellCL (k := cs.length - 1) (by omega) (by omega)
                        obtain ⟨hb1, hb2⟩ := HC.out (cs.length - 1)
                        generalize cs.getD (cs.length - 1) 0 = ck at *
                        clear hB0 hc2 hfz hb2
                        by_cases hck : 1024 < 2 * ck
                        · go_wp2
                          go_meet
                          case rel => exact ⟨by rw [HB0.out]; go_num, _, rfl⟩
                        · go_wp2
                          go_meet
                          case rel => exact ⟨by rw [HB0.out]; go_num, _, rfl⟩
                    case rest =>
                      obtain ⟨rfl, nd', rfl⟩ := hcut
                      have hS1 := szOf_le Bs
                      generalize HS0 : szOf Bs = S at *
                      have HS : Hid (szOf Bs = S) := HS0
                      clear HS0
                      obtain ⟨M, HM, hM1, hM2⟩ : ∃ M, Hid (M = max p S) ∧ p ≤ M ∧ M ≤ 1024 := ⟨max p S, rfl, by omega, by omega⟩
                      have H3' : Hid _ := H3.out.draw (n := nd')
                      rcases (show (S < p ∧ S < p) ∨ (p ≤ S ∧ S ≤ p) ∨ (p < S ∧ p < S) by omega) with ⟨hmS, hmS'⟩ | ⟨hmS, hmS'⟩ | ⟨hmS, hmS'⟩
                      all_goals
                        go_wp2_with (at_builtin; go_must (refine wpList_append_one (w3.drewN nd') rfl (.tmp 119) (.tmp 123) 103 rfl w.heap.size 3 (.int .i64 0) 8 Yba.underlying103 info3 rfl H3'.out.hvc rfl _ rfl rfl (by unfold maxLen; omega) (by omega) H3'.out.below.size ?_))
                        intro g4 cap4 w4 hown4 hs4 hat4
                        have hvl4 := H3'.out.hvl_behind hs4
                        have hsz4 : w.heap.size ≤ w4.heap.size := Nat.le_trans H3'.out.below.size hs4.size
                        go_wp2_with (at_builtin; go_must (refine wpList_append_one w4 rfl (.tmp 125) (.tmp 127) 103 rfl w.heap.size 3 (.int .i64 0) 8 Yba.underlying103 info3 rfl hvl4 rfl _ rfl rfl (by unfold maxLen; omega) (by omega) hsz4 ?_))
                        intro g5 cap5 w5 hown5 hs5 hat5
                        go_wp2
                        go_roundg (gq - 1)
                        case measure => omega
                        case rel => exact head_new H3.out HS.out (by omega) HB.out.1 hown4 hs4 hat4 hown5 hs5 hat5 HB.out.2 H0.out.2.2.1 H0.out.2.2.2.1 hKq hlt (by simp [hgl]) hBK
    · have HS : Hid (St w (w.heap.size + 1) w.heap.size nx vb u4 (.slice ac cs.length cc) (.slice al ls.length cl) Bs cs ls K gots wh ∧ cs = (Bs.map fun t => t.2.2) ∧ ls = (Bs.map fun t => t.2.1)) := ⟨hst, hcs, hls⟩
      have hR7 := hst.hR.cell 7
      have hB1 := hst.hBt.cell 1
      have hB3 := hst.hBt.cell 3
      have hB4 := hst.hBt.cell 4
      simp at hR7 hB1 hB3 hB4
      obtain ⟨ab, cb, hvb⟩ := owns_form hst.hvb
      obtain ⟨ag, cg, hvg⟩ := owns_form hst.hvg
      subst hvb
      subst hvg
      have hcl1 : Bs.length ≤ cs.length := by omega
      have hcl2 : cs.length ≤ Bs.length := by omega
      have hll1 : Bs.length ≤ ls.length := by omega
      have hll2 : ls.length ≤ Bs.length := by omega
      clear hst hcs hls hcell hcl hll
      go_wp2
      go_loopg [19] cs.length (fun q i wf => ∃ k : Nat, k + q = cs.length ∧ i = .int .i64 k ∧ ∃ nd, wf = wh.drewN nd)
      case atStart => exact ⟨0, by omega, rfl, 0, rfl⟩
      case round =>
        obtain ⟨k, hkq, rfl, nd, rfl⟩ := hrel
        by_cases hkl : k < cs.length
        · obtain ⟨gb, gc, gl, g, l, c, rfl, rfl, rfl, hc1, hc2, hc3, hk1, hk2, hk3, hnb, hl1, hl2⟩ := HS.out.1.cell3 HS.out.2.1 HS.out.2.2 hkl
          go_wp2_with fail
          go_quiet (fail)
          go_wp2_with fail
          go_roundg (gk - 1)
          case measure => omega
          case rel => exact ⟨k + 1, by omega, by go_num, _, rfl⟩
        · go_wp2_with fail
          go_loopg [205] K (fun q i wf => ∃ k : Nat, k + q = K ∧ i = .int .i64 k ∧ wf = wh.drewN nd)
          case atStart => exact ⟨0, by omega, rfl, rfl⟩
          case round =>
            obtain ⟨gp, rfl⟩ : ∃ gp : Nat, gp = gk := ⟨_, rfl⟩
            obtain ⟨p, hp, rfl, rfl⟩ := hrel
            by_cases hpK : p < K
            · obtain ⟨gg, ao, n, rfl, hcg, hgot⟩ := HS.out.1.gotAt hpK
              have hn1 := HS.out.1.gotLen hgot
              have HG : Hid (GotOk wh Bs ao n p) := hgot
              clear hgot
              go_wp2_with fail
              go_loop [216] (fun i => ∃ k : Nat, k ≤ n ∧ i = .int .i64 k) (fun i => n - (intOf i).toNat)
              case atStart => exact ⟨0, Nat.zero_le _, rfl⟩
              case round =>
                obtain ⟨q, hq, rfl⟩ := hrel
                by_cases hqn : q < n
                · obtain ⟨t, ht, h1, h2, h3, h4⟩ := HG.out (by omega)
                  obtain ⟨ab', of', sp⟩ := ao
                  simp only at h1 h2 h3 h4
                  subst h1
                  subst h2
                  have hcq := h4 q hqn
                  rw [← mk_eq] at hcq
                  clear h4 h3 ht
                  go_wp2
                  go_round
                  case rel => exact ⟨q + 1, by omega, by go_num⟩
                  case measure => simp [intOf]; omega
                · go_wp2
                  go_roundg (gp - 1)
                  case measure => omega
                  case rel => exact ⟨p + 1, by omega, by go_num, rfl⟩
            · go_wp2
              go_ret
              exact ⟨rfl, (HS.out.1.draw (n := nd)).below⟩
theorem own : ownKnob Yba.prog.godebug = none := by kernel_rfl
theorem laidOut : laidOutB Yba.prog = true := by kernel_rfl

/-- WHAT THE WALK IS TOLD OF A SLICE OF INTEGERS THAT CAME IN: it is nil; or it leads to a row of 'cap' cells, the numbers 'zs' (the first 'len' are its elements, the rest its spare room), each fitting its kind. -/
def IsRow (k : IntKind) (w : World) (a : Option Addr) (len cap : Nat) (zs : List Int) : Prop :=
  (a = none ∧ len = 0 ∧ cap = 0 ∧ zs = []) ∨
  ∃ x, a = some x ∧ len ≤ cap ∧ cap ≤ maxLen ∧ zs.length = cap ∧ (∀ i, i < zs.length → w.cell? (x.add i) = some (.int k (zs.getD i 0))) ∧ ∀ n ∈ zs, (Lit.int k n).wf = true


theorem walk (a0 : Option Addr) (len0 cap0 : Nat) (z0 : List Int) (w : World) (w0 : IsRow .u16 w a0 len0 cap0 z0) :
    Calls Yba.prog 7 #[.slice a0 len0 cap0] w fun e w' => e = .returned (.bool true) ∧ Below w.heap.size w w' := by
  by_cases hl : 256 < len0
  · refine walk_long a0 len0 cap0 w hl ?_
    rcases w0 with ⟨_, rfl, _⟩ | ⟨x, _, h1, h2, _⟩
    · omega
    · simp only [maxLen] at h2
      omega
  · refine walk_short a0 len0 cap0 (fun k => (z0.getD k 0).toNat) w (by omega) ?_
    intro k hk
    rcases w0 with ⟨_, rfl, _⟩ | ⟨x, rfl, h1, h2, h3, h4, h5⟩
    · omega
    · obtain ⟨b, off, rfl, hc⟩ := ints_at h4 (by omega)
      have hcell := hc k (by omega)
      have hwf : 0 ≤ z0.getD k 0 ∧ z0.getD k 0 ≤ 65535 := by simpa [List.getD] using range_u16 h5 k
      refine ⟨b, off, rfl, World.block_lt_of_cell? w _ hcell, ?_, by omega⟩
      rw [hcell]
      congr 2
      omega

set_option maxRecDepth 100000 in
theorem lifted (os : Os) (started : os.Started) (H : Type) (enc : TypeId × Value → H) :
    ReturnsInHanded {} Yba.checked os 7 .any (Rows.lawS3078CBatchSpec.pre6 enc Yba.prog Yba.f7 Rows.lawS3078CBatchRow.domain false) (Rows.lawS3078CBatchSpec.post enc Yba.prog Yba.f7 false true false false) := by
  refine returnsInHanded_of_change (C := Yba.checked) own started (by kernel_rfl) Yba.func7
    (ChangeSpec.witness6 (enc := enc) (C := Yba.checked) false ⟨#[], #[.slice none 0 0], []⟩ 8 (by kernel_rfl) (by kernel_rfl) (by kernel_rfl) (by kernel_rfl)) ?_
  intro W base args ds gs before hval0 hW hcnd _
  have hval : ∀ (j : Nat) t v, Yba.f7.params[j]? = some t → args[j]? = some v → Value.okWide Yba.prog W .any base t v := hval0
  have hW' := hW
  obtain ⟨p, q, hA0, hV, rfl, hfz, hnd⟩ := hW
  have hA : DataW.TrodAll enc Yba.prog W 0 (fun _ => true) true Yba.f7.params.toList args.toList ds p := hA0
  rw [Yba.params7] at hA hval
  obtain ⟨v0, vs0, d0, ds0, p0, q0, hargs, rfl, rfl, h0, r0⟩ := trodAll_cons hA
  obtain ⟨rfl, rfl, rfl⟩ := trodAll_nil r0
  obtain rfl : args = #[v0] := by cases args; simp_all
  obtain ⟨rfl, rfl⟩ := trodVars_none hV
  obtain ⟨a0, len0, cap0, rfl⟩ := okWide_slice Yba.underlying74 (hval 0 74 v0 rfl rfl)
  have k0 := h0
  have lt0 : ∀ x ∈ p0, x.block < W.heap.size := by obtain ⟨m, hm⟩ := k0; exact DataW.trod_lt m _ _ _ hm
  obtain ⟨z0, w0⟩ : ∃ zs, IsRow .u16 W a0 len0 cap0 zs := by
    obtain ⟨fuel, hf⟩ := h0
    rcases open_ints Yba.underlying74 Yba.underlying80 (by kernel_rfl) hf with ⟨hcs, _⟩ | ⟨x, l, c, zs, hcs, _, hl, hm, hz, _, hcell, hwz⟩
    · simp [Value.cells] at hcs
      obtain ⟨rfl, rfl, rfl⟩ := hcs
      exact ⟨[], .inl ⟨rfl, rfl, rfl, rfl⟩⟩
    · simp [Value.cells] at hcs
      obtain ⟨rfl, rfl, rfl⟩ := hcs
      exact ⟨zs, .inr ⟨_, rfl, hl, hm, by simpa using hz, hcell, hwz⟩⟩
  clear hA0 hval0
  refine (walk a0 len0 cap0 z0 W w0).mono fun e W' ⟨he, bel⟩ => ?_
  subst he
  exact ⟨_, rfl, _, _, _, [], _, [], hW', trodAll_mk1 (shut_bool Yba.underlying4 _), (trodAll_cons_mk (Below.trod laidOut (by kernel_rfl) (of_decide_eq_true (by kernel_rfl)) k0 bel lt0) trodAll_mk0), rfl, bel.frame _, fun h => by cases h⟩

theorem over : Rows.lawS3078CBatchRow.holds Yba.pinned (OpenSpec.ofChange Rows.lawS3078CBatchSpec) :=
  OpenClaim.holds_of_wide 7 Yba.f7 rfl rfl rfl rfl rfl rfl rfl ⟨rfl, rfl, rfl, rfl, rfl⟩ rfl rfl rfl rfl rfl (by kernel_rfl) Yba.func7 (by kernel_rfl)
    (of_decide_eq_true (by kernel_rfl)) (by unfold Func.isWrapper; first | (rw [if_pos (by decide +kernel)]; kernel_rfl) | (rw [if_neg (by decide +kernel)]; exact ⟨rfl, rfl⟩))
    (fun os started H enc _ => lifted os started H enc)

/-- ████ THE STATEMENT ████ -/
theorem proved : Rows.LawS3078CBatchSaid := over
end Go.Proofs.Ybulkbksk.CBatch
