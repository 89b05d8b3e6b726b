/-
  sync.Once.Do, first time.
-/
import Derived.Test.YbulkbkskOnce
namespace Go.Proofs.Ybulkbksk
set_option linter.unusedVariables false

/-- '(*sync.Once).Do', not yet done, the lock free. -/
theorem do_first (b off : Nat) (x0 x1 : Value) (Q : World → Prop) (w : World)
    (h0 : w.cell? ⟨b, off, none⟩ = some (.int .u32 0)) (h1 : w.cell? ⟨b, off + 1, none⟩ = some (.int .i32 0)) (f0 : w.frozen? ⟨b, off, none⟩ = false) (f1 : w.frozen? ⟨b, off + 1, none⟩ = false)
    (hf : Calls Yba.prog 25 #[x0, x1] (w.setCell ⟨b, off + 1, none⟩ (.int .i32 1)) fun e w2 => e = .returned (.tuple #[]) ∧ w2.cell? ⟨b, off, none⟩ = some (.int .u32 0) ∧ w2.cell? ⟨b, off + 1, none⟩ = some (.int .i32 1) ∧ w2.frozen? ⟨b, off, none⟩ = false ∧ w2.frozen? ⟨b, off + 1, none⟩ = false ∧ Q w2) :
    Calls Yba.prog 24 #[.pointer (some ⟨b, off, none⟩), .func (.func 25) #[] #[x0, x1]] w fun e w' => e = .returned (.tuple #[]) ∧ ∃ w2, Q w2 ∧ w' = (w2.drew.setCell ⟨b, off, none⟩ (.int .u32 1)).setCell ⟨b, off + 1, none⟩ (.int .i32 0) := by
  have hs := slow_any b off x0 x1 Q w h0 h1 f0 f1 hf
  clear hf
  have hnot : ∀ (x : Bool) (w : World), (Op.unary .not (.bool x)).run Yba.prog w = .ok (.bool (!x)) w := fun _ _ => rfl
  go_enter Yba.func24, Yba.ntmps24
  go_wp2_with (first | (go_at_call 30; refine (load_zero ⟨b, off, none⟩ _ h0).mono ?_; rintro e w' ⟨rfl, rfl⟩) | (go_at_call 31; refine hs.mono ?_; rintro e w' ⟨rfl, hq⟩))
  go_end0
  exact ⟨rfl, hq⟩
end Go.Proofs.Ybulkbksk
