/- The walks of 'topNesting' and of the two laws over it. -/
import Derived.Test.YbulkvtwRows
import Derived.WalkKit
import Derived.ProofKit
import Derived.OpenShut
import Derived.WalkSpells
import Derived.WalkLawsBesides
import Derived.Outline
import Derived.RegionTactic
import Derived.BigRegion
import Derived.Deep.RegionWith
namespace Go.Proofs.Ybulkvtw
open Go.RowKit
set_option linter.unusedVariables false

theorem top_pos (a : Int) (w : World) (h : 0 < a) :
    Calls Yba.prog 5 #[.int .i64 a] w fun e w' => e = .returned (.agg #[.int .i64 0, .int .i64 a, .int .i64 0, .pointer none]) ∧
      w' = w.alloc (.cells #[.int .i64 0, .int .i64 a, .int .i64 0, .pointer none] 24) := by
  have h1 : ¬ a ≤ 0 := by omega
  go_enter Yba.func5, Yba.ntmps5
  go_wp2
  exact bodyPost_ret (v := .agg #[.int .i64 0, .int .i64 a, .int .i64 0, .pointer none]) (by simp [results, Yba.results5, go_sem]) rfl ⟨rfl, rfl⟩

theorem top_neg (a : Int) (w : World) (h : a ≤ 0) :
    Calls Yba.prog 5 #[.int .i64 a] w fun e w' => e = .returned (.agg #[.int .i64 0, .int .i64 1024, .int .i64 0, .pointer none]) ∧
      w' = w.alloc (.cells #[.int .i64 0, .int .i64 1024, .int .i64 0, .pointer none] 24) := by
  go_enter Yba.func5, Yba.ntmps5
  go_wp2
  exact bodyPost_ret (v := .agg #[.int .i64 0, .int .i64 1024, .int .i64 0, .pointer none]) (by simp [results, Yba.results5, go_sem]) rfl ⟨rfl, rfl⟩

theorem exact_any (a : Int) (w : World) :
    Calls Yba.prog 3 #[.int .i64 a] w fun e w' => e = .returned (.bool true) ∧ Grown w w' := by
  by_cases h : 0 < a
  · have h1 : ¬ a < 1 := by omega
    go_enter Yba.func3, Yba.ntmps3
    go_wp2_with (go_at_call 5; refine (top_pos a _ h).mono ?_; rintro e w' ⟨rfl, rfl⟩)
    go_ret
    exact ⟨rfl, by repeat (first | exact Grown.refl _ | apply Grown.drew | apply Grown.alloc)⟩
  · have h1 : a < 1 := by omega
    go_enter Yba.func3, Yba.ntmps3
    go_wp2_with (go_at_call 5; refine (top_neg a _ (by omega)).mono ?_; rintro e w' ⟨rfl, rfl⟩)
    go_ret
    exact ⟨rfl, by repeat (first | exact Grown.refl _ | apply Grown.drew | apply Grown.alloc)⟩

theorem eql_nil (w : World) : (Op.equalIn 9999 22 (.pointer none) (.pointer none)).run Yba.prog w = .ok true w := by kernel_rfl

theorem positive_any (a : Int) (w : World) :
    Calls Yba.prog 4 #[.int .i64 a] w fun e w' => e = .returned (.bool true) ∧ Grown w w' := by
  by_cases h : 0 < a
  · have h1 : ¬ a < 1 := by omega
    have h2 : ¬ a ≤ 0 := by omega
    go_enter Yba.func4, Yba.ntmps4
    go_wp2_with (go_at_call 5; refine (top_pos a _ h).mono ?_; rintro e w' ⟨rfl, rfl⟩)
    go_ret
    exact ⟨rfl, by repeat (first | exact Grown.refl _ | apply Grown.drew | apply Grown.alloc)⟩
  · have h1 : a ≤ 0 := by omega
    have heq := eql_nil
    go_enter Yba.func4, Yba.ntmps4
    go_wp2_with fail
    refine (top_neg a _ h1).mono ?_
    rintro e w' ⟨rfl, rfl⟩
    go_wp2
    go_region_with (go_at_call 5; refine (top_neg 0 _ (by omega)).mono ?_; rintro e w' ⟨rfl, rfl⟩)
    all_goals go_wp2
    all_goals go_ret
    all_goals exact ⟨rfl, by repeat (first | exact Grown.refl _ | apply Grown.drew | apply Grown.alloc)⟩
end Go.Proofs.Ybulkvtw
