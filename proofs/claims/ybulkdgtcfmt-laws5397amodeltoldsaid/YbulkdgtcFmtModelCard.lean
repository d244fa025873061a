/-
  THE CARD OF LawS5397AModel, PROVED: told and tied.
-/
import Derived.Test.YbulkdgtcFmtLift
import Derived.Test.YbulkdgtcFmtCards
import Derived.Test.YbulkdgtcFmtTie
import Derived.SevenTiedAt
namespace Go.Proofs.YbulkdgtcFmt
open Go.Extern.Stop Go.Stop Go.Extern

theorem stopsA : Ybaf.pinned.checked.prog.stops = ["fmt.errorf"] := by kernel_rfl
theorem stopKnobsA : Ybaf.pinned.checked.prog.stopKnobs = [] := by kernel_rfl
theorem quietA (os : Os) : Stop.quiet Ybaf.pinned.checked.prog os := by
  intro k hk
  rw [stopKnobsA] at hk
  cases hk

theorem lawS5397AModel_told : Rows.LawS5397AModelToldSaid :=
  Claim7.holds_of_told_tied_any_at .later 3 Ybaf.f3 "fmt.errorf" [] [] _ _ _ _ _ (by kernel_rfl) rfl rfl rfl laidOut (by kernel_rfl) rfl ⟨rfl, rfl, rfl, rfl, rfl, rfl, rfl⟩ rfl rfl (by kernel_rfl) (by kernel_rfl) Ybaf.func3 (by kernel_rfl)
    (of_decide_eq_true (by kernel_rfl)) (of_decide_eq_true (by kernel_rfl)) stopsA.symm rfl stopKnobsA.symm (by kernel_rfl)
    (by kernel_rfl) (by kernel_rfl) (by kernel_rfl) (by kernel_rfl) (by kernel_rfl) (by kernel_rfl) (by kernel_rfl) (by kernel_rfl) (by kernel_rfl) rfl (by kernel_rfl) rfl rfl
    rfl rfl
    rfl (by kernel_rfl) (by kernel_rfl) (by kernel_rfl) (by decide) (by kernel_rfl) lawS5397AModel_row_tie
    (OpenClaim.moreEntering_of (by kernel_rfl) (by kernel_rfl) (by kernel_rfl) (by kernel_rfl) (by kernel_rfl) (by kernel_rfl) (by kernel_rfl) (by kernel_rfl) (by kernel_rfl) (by kernel_rfl))
    ⟨_, WideRow.started_initial, quietA _⟩
    (fun os started _ H enc _ => lawA_lifted os started H enc)
end Go.Proofs.YbulkdgtcFmt
