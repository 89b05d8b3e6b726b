/-
  sync.Once.Do, first time, the lock free: the parts (the two calls that doSlow defers, the lock), doSlow, Do. Turned from the kit's worked example Lazy (LazyParts, LazySlow, LazyWalks) to this program; the function that Do calls is taken by its contract.
-/
import Derived.Test.YbulkbkskRows
import Derived.Tactics
import Derived.Tactics2
import Derived.Defers
import Derived.Laws.Pointers
import Derived.Laws.LoneSync
import Derived.RegionTactic
import Derived.RegionCalls
import Derived.ChangeAlike
namespace Go.Proofs.Ybulkbksk
set_option linter.unusedVariables false

theorem disable (w : World) : (callFunc 58 #[]).run Yba.prog w = .ok (.value (.tuple #[])) w := run_call_mark0 Yba.func58 (by kernel_rfl) (by kernel_rfl) (by kernel_rfl) .disable (by kernel_rfl) w
theorem enable (w : World) : (callFunc 60 #[]).run Yba.prog w = .ok (.value (.tuple #[])) w := run_call_mark0 Yba.func60 (by kernel_rfl) (by kernel_rfl) (by kernel_rfl) .enable (by kernel_rfl) w
theorem acquire (a : Addr) (w : World) : (callFunc 61 #[.pointer (some a)]).run Yba.prog w = .ok (.value (.tuple #[])) w := run_call_marked Yba.func61 (by kernel_rfl) (by kernel_rfl) (by kernel_rfl) .acquire (by kernel_rfl) a w
theorem releaseMerge (a : Addr) (w : World) : (callFunc 63 #[.pointer (some a)]).run Yba.prog w = .ok (.value (.tuple #[])) w := run_call_marked Yba.func63 (by kernel_rfl) (by kernel_rfl) (by kernel_rfl) .releaseMerge (by kernel_rfl) a w

theorem store_deferred (a : Addr) (x : Value) (u : FrameMode) (w : World) (hc : w.cell? a = some x) (hz : w.frozen? a = false) :
    CallsD Yba.prog 46 #[.pointer (some a), .bool true] u w fun e u' w' => u' = u ∧ (e = .returned (.tuple #[]) ∧ w' = w.drew.setCell a (.int .u32 1)) := by
  have hc' : w.drew.cell? a = some x := by go_simp
  have hz' : w.drew.frozen? a = false := by go_simp
  have hst := run_call_store (P := Yba.prog) Yba.func55 (by kernel_rfl) (by kernel_rfl) (by kernel_rfl) (by kernel_rfl) (k := .u32) (y := 1) hc' hz'
  go_enter_d Yba.func46, Yba.ntmps46
  go_wp2
  go_region_calls
  all_goals (go_end0; exact ⟨rfl, rfl⟩)

set_option maxRecDepth 100000 in
set_option maxHeartbeats 1600000 in
theorem unlock_deferred (a : Addr) (u : FrameMode) (w : World) (hc : w.cell? a = some (.int .i32 1)) (hz : w.frozen? a = false) :
    CallsD Yba.prog 45 #[.pointer (some a)] u w fun e u' w' => u' = u ∧ (e = .returned (.tuple #[]) ∧ w' = w.setCell a (.int .i32 0)) := by
  have hd := disable
  have he := enable
  have hr := releaseMerge
  have hadd := run_call_add (P := Yba.prog) Yba.func64 (by kernel_rfl) (by kernel_rfl) (by kernel_rfl) .i32 (by kernel_rfl) (y := -1) (s := 0) hc hz (by simp [go_sem]; rfl)
  have hcv := run_convert_to_unsafe (P := Yba.prog) (src := 151) (dst := 155) Yba.underlying151 Yba.underlying155 (by kernel_rfl) hc
  go_enter_d Yba.func45, Yba.ntmps45
  go_wp2
  go_end0
  go_wp2
  go_end0
  exact ⟨rfl, rfl⟩

set_option maxRecDepth 100000 in
set_option maxHeartbeats 1600000 in
theorem lock_free (a : Addr) (w : World) (hc : w.cell? a = some (.int .i32 0)) (hz : w.frozen? a = false) :
    Calls Yba.prog 44 #[.pointer (some a)] w fun e w' => e = .returned (.tuple #[]) ∧ w' = w.setCell a (.int .i32 1) := by
  have hd := disable
  have he := enable
  have ha := acquire
  have hcas := run_call_cas_hit (P := Yba.prog) Yba.func59 (by kernel_rfl) (by kernel_rfl) (by kernel_rfl) .i32 (by kernel_rfl) (y := 1) hc hz
  have hc' : (w.setCell a (.int .i32 1)).cell? a = some (.int .i32 1) := World.cell?_setCell_same w a _ hc
  have hcv := run_convert_to_unsafe (P := Yba.prog) (src := 151) (dst := 155) Yba.underlying151 Yba.underlying155 (by kernel_rfl) hc'
  go_enter Yba.func44, Yba.ntmps44
  go_wp2
  first | go_end0 | (simp only [Exit.inBlock, Exit.then]; refine bodyPost_ret (results_none rfl _ _ _) rfl ?_) | refine bodyPost_ret (results_none rfl _ _ _) rfl ?_
  go_wp2
  go_end0
  exact ⟨rfl, rfl⟩

/-- '(*sync/atomic.Bool).Load', the word 0. -/
theorem load_zero (a : Addr) (w : World) (hc : w.cell? a = some (.int .u32 0)) :
    Calls Yba.prog 30 #[.pointer (some a)] w fun e w' => e = .returned (.bool false) ∧ w' = w := by
  have hl := run_call_load (P := Yba.prog) Yba.func43 (by kernel_rfl) (by kernel_rfl) (by kernel_rfl) .u32 (by kernel_rfl) (w := w) (a := a) (x := 0) hc
  go_enter Yba.func30, Yba.ntmps30
  go_wp2
  go_ret
  exact ⟨rfl, rfl⟩

set_option maxRecDepth 100000 in
set_option maxHeartbeats 1600000 in
theorem slow_any (b off : Nat) (x0 x1 : Value) (Q : World → Prop) (w : World)
    (h0 : w.cell? ⟨b, off, none⟩ = some (.int .u32 0)) (h1 : w.cell? ⟨b, off + 1, none⟩ = some (.int .i32 0)) (f0 : w.frozen? ⟨b, off, none⟩ = false) (f1 : w.frozen? ⟨b, off + 1, none⟩ = false)
    (hf : Calls Yba.prog 25 #[x0, x1] (w.setCell ⟨b, off + 1, none⟩ (.int .i32 1)) fun e w2 => e = .returned (.tuple #[]) ∧ w2.cell? ⟨b, off, none⟩ = some (.int .u32 0) ∧ w2.cell? ⟨b, off + 1, none⟩ = some (.int .i32 1) ∧ w2.frozen? ⟨b, off, none⟩ = false ∧ w2.frozen? ⟨b, off + 1, none⟩ = false ∧ Q w2) :
    Calls Yba.prog 31 #[.pointer (some ⟨b, off, none⟩), .func (.func 25) #[] #[x0, x1]] w fun e w' => e = .returned (.tuple #[]) ∧ ∃ w2, Q w2 ∧ w' = (w2.drew.setCell ⟨b, off, none⟩ (.int .u32 1)).setCell ⟨b, off + 1, none⟩ (.int .i32 0) := by
  have hc0 : (w.setCell ⟨b, off + 1, none⟩ (.int .i32 1)).cell? ⟨b, off, none⟩ = some (.int .u32 0) := (World.cell?_setCell_other _ ⟨b, off + 1, none⟩ ⟨b, off, none⟩ _ (by simp)).trans h0
  have hnot : ∀ (x : Bool) (w : World), (Op.unary .not (.bool x)).run Yba.prog w = .ok (.bool (!x)) w := fun _ _ => rfl
  go_enter_defers Yba.func31, Yba.ntmps31
  go_wp2_with (first | (go_at_call 44; refine (lock_free ⟨b, off + 1, none⟩ _ (by go_simp) (by go_simp)).mono ?_; rintro e w' ⟨rfl, rfl⟩) | (go_at_call 30; refine (load_zero ⟨b, off, none⟩ _ hc0).mono ?_; rintro e w' ⟨rfl, rfl⟩) | (go_at_call 25; refine hf.mono ?_; rintro e w2 ⟨rfl, k0, k1, g0, g1, hQ⟩))
  refine leaves_cons (f := 46) (args := #[.pointer (some ⟨b, off, none⟩), .bool true]) (by simp) (by simp [go_sem]) ?_
  refine (store_deferred ⟨b, off, none⟩ (.int .u32 0) .returning _ k0 g0).mono ?_
  rintro e u' w'' ⟨rfl, rfl, rfl⟩
  refine leaves_cons (f := 45) (args := #[.pointer (some ⟨b, off + 1, none⟩)]) (by simp [settle]) (by simp [go_sem]) ?_
  refine (unlock_deferred ⟨b, off + 1, none⟩ _ _ ?_ (by simp [g1])).mono ?_
  · refine (World.cell?_setCell_other _ ⟨b, off, none⟩ ⟨b, off + 1, none⟩ _ (by simp)).trans ?_
    rw [World.cell?_drew]
    exact k1
  rintro e u' w'' ⟨rfl, rfl, rfl⟩
  simp [Leaves, settle, results, Yba.results31]
  exact ⟨w2, hQ, rfl⟩

end Go.Proofs.Ybulkbksk
