import Derived.Test.Qxb6618832aRows
import Derived.WalkKit
import Derived.WalkSpells
namespace Go.Proofs.Qxb6618832a
open Go.RowKit

theorem ret_int {k : IntKind} {a b : Int} (h : a = b) : Ending.returned (.int k a) = .returned (.int k b) := by rw [h]
theorem ret_bool {a b : Bool} (h : a = b) : Ending.returned (.bool a) = .returned (.bool b) := by rw [h]

/-- How many of the characters that stand for themselves lie below x. -/
def below (x : Int) : Int := (if x < 32 then 32 else if 127 < x then 127 else x) - 32 - (if 38 < x then 1 else 0) - (if 47 < x then 1 else 0)
/-- r stands for itself. -/
def Stands (r : Int) : Prop := 32 ≤ r ∧ r ≤ 126 ∧ r ≠ 47 ∧ r ≠ 38

theorem below_yes {c : Int} (h : Stands c) : below (c + 1) = below c + 1 := by
  unfold Stands at h
  unfold below
  repeat' split
  all_goals omega
theorem below_no {c : Int} (h : ¬ Stands c) : below (c + 1) = below c := by
  unfold Stands at h
  unfold below
  repeat' split
  all_goals omega
theorem below_bounds (c : Int) : 0 ≤ below c ∧ below c ≤ 95 := by
  unfold below
  repeat' split
  all_goals omega
theorem below_mono {a b : Int} (h : a ≤ b) : below a ≤ below b := by
  unfold below
  repeat' split
  all_goals omega

set_option maxHeartbeats 1000000 in
theorem below_any (x : Int) (w : World) (h0 : -10000000000 ≤ x) (h1 : x ≤ 10000000000) :
    Calls Try.prog 7 #[.int .i64 x] w fun e w' => e = .returned (.int .i64 (below x)) ∧ w' = w := by
  go_enter Try.func7, Try.ntmps7
  go_wp2
  all_goals
    go_ret
    refine ⟨ret_int ?_, rfl⟩
    unfold below
    repeat' split
    all_goals omega

set_option maxHeartbeats 1000000 in
theorem stands_yes (r : Int) (w : World) (h : Stands r) : Calls Try.prog 6 #[.int .i32 r] w fun e w' => e = .returned (.bool true) ∧ w' = w := by
  obtain ⟨h1, h2, h3, h4⟩ := h
  go_enter Try.func6, Try.ntmps6
  go_wp2
  go_ret
  exact ⟨ret_bool (a := (r != 47 && r != 38)) (by simp [h3, h4]), rfl⟩

set_option maxHeartbeats 1000000 in
theorem stands_no (r : Int) (w : World) (h : ¬ Stands r) : Calls Try.prog 6 #[.int .i32 r] w fun e w' => e = .returned (.bool false) ∧ w' = w := by
  by_cases h1 : 32 ≤ r
  · by_cases h2 : r ≤ 126
    · by_cases h3 : r = 47
      · subst h3
        clear h
        go_enter Try.func6, Try.ntmps6
        go_wp2
        go_ret
        exact ⟨rfl, rfl⟩
      · have h4 : r = 38 := by unfold Stands at h; omega
        subst h4
        clear h
        go_enter Try.func6, Try.ntmps6
        go_wp2
        go_ret
        exact ⟨rfl, rfl⟩
    · clear h
      go_enter Try.func6, Try.ntmps6
      go_wp2
      go_ret
      exact ⟨rfl, rfl⟩
  · clear h
    go_enter Try.func6, Try.ntmps6
    go_wp2
    go_ret
    exact ⟨rfl, rfl⟩
end Go.Proofs.Qxb6618832a
