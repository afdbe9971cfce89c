/-
  What net/http.StatusText, impl.StatusText and spec.Status return: the text of the code, for every number.
-/
import Derived.Test.YtgnhgbfdelambaaTable
import Derived.WalkKit
import Derived.ProofKit
import Derived.OpenShut
import Derived.WalkLawsBesides
import Derived.Outline
import Derived.Lib.Hide
namespace Go.Proofs.Ytgnhgbfdelambaa
open Go.RowKit

theorem ret_code {c k : Int} {t : List UInt8} (h : (c == k) = true) (hk : stat k = t) : Ending.returned (.string ⟨t.toArray⟩) = .returned (.string ⟨(stat c).toArray⟩) := by
  have : c = k := by simpa using h
  rw [this, hk]

theorem ret_none {c : Int} (h : c ∉ codes) : Ending.returned (.string ⟨#[]⟩) = .returned (.string ⟨(stat c).toArray⟩) := by rw [stat_none h]

set_option maxRecDepth 100000 in
set_option maxHeartbeats 4000000 in
theorem status_any (c : Int) (w : World) : Calls Try.prog 9 #[.int .i64 c] w fun e w' => e = .returned (.string ⟨(stat c).toArray⟩) ∧ w = w' := by
  go_enter Try.func9, Try.ntmps9
  go_wp2
  all_goals go_ret
  all_goals first
    | (rename_i h; exact ⟨ret_code h (by decide), rfl⟩)
    | exact ⟨ret_none (by simp only [codes, List.mem_cons, List.not_mem_nil, or_false, not_or]; simp_all), rfl⟩

set_option maxRecDepth 100000 in
set_option maxHeartbeats 4000000 in
theorem sstatus_any (c : Int) (w : World) : Calls Try.prog 8 #[.int .i64 c] w fun e w' => e = .returned (.string ⟨(stat c).toArray⟩) ∧ w = w' := by
  go_enter Try.func8, Try.ntmps8
  go_wp2
  all_goals go_ret
  all_goals first
    | (rename_i h; exact ⟨ret_code h (by decide), rfl⟩)
    | exact ⟨ret_none (by simp only [codes, List.mem_cons, List.not_mem_nil, or_false, not_or]; simp_all), rfl⟩

/-- impl.StatusText -/
theorem istatus_any (c : Int) (w : World) : Calls Try.prog 7 #[.int .i64 c] w fun e w' => e = .returned (.string ⟨(stat c).toArray⟩) ∧ w = w' := by
  go_enter Try.func7, Try.ntmps7
  go_wp2_with fail
  refine (status_any c w).mono ?_
  rintro e w' ⟨rfl, rfl⟩
  go_wp2
  go_ret
  exact ⟨rfl, rfl⟩
end Go.Proofs.Ytgnhgbfdelambaa
