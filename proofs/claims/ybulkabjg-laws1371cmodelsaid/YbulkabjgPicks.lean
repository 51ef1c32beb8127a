/-
  THE WALKS over the three small choosers (functions 5, 6, 7): each returns some byte | some string and leaves the world as it was. Which one, the law does not ask.
-/
import Derived.Test.YbulkabjgRows
import Derived.WalkKit
namespace Go.Proofs.Ybulkabjg
open Go.RowKit

theorem type_any (n : Int) (w : World) (h0 : 0 ≤ n) (h1 : n ≤ 255) :
    Calls Yba.prog 5 #[.int .u8 n] w fun e w' => ∃ t : Int, e = .returned (.int .u8 t) ∧ w' = w := by
  by_cases c0 : n % 4 = 0
  · go_enter Yba.func5, Yba.ntmps5
    go_wp2
    go_ret
    exact ⟨_, rfl, rfl⟩
  have d0 : (n % 4 == 0) = false := by simpa using c0
  by_cases c1 : n % 4 = 1
  · go_enter Yba.func5, Yba.ntmps5
    go_wp2
    go_ret
    exact ⟨_, rfl, rfl⟩
  have d1 : (n % 4 == 1) = false := by simpa using c1
  by_cases c2 : n % 4 = 2
  · go_enter Yba.func5, Yba.ntmps5
    go_wp2
    go_ret
    exact ⟨_, rfl, rfl⟩
  have d2 : (n % 4 == 2) = false := by simpa using c2
  go_enter Yba.func5, Yba.ntmps5
  go_wp2
  go_ret
  exact ⟨_, rfl, rfl⟩

theorem change_any (n : Int) (s : ByteArray) (w : World) (h0 : 0 ≤ n) (h1 : n ≤ 255) :
    Calls Yba.prog 6 #[.int .u8 n, .string s] w fun e w' => ∃ t : ByteArray, e = .returned (.string t) ∧ w' = w := by
  by_cases c0 : n % 5 = 0
  · go_enter Yba.func6, Yba.ntmps6
    go_wp2
    go_ret
    exact ⟨_, rfl, rfl⟩
  have d0 : (n % 5 == 0) = false := by simpa using c0
  by_cases c1 : n % 5 = 1
  · go_enter Yba.func6, Yba.ntmps6
    go_wp2
    go_ret
    exact ⟨_, rfl, rfl⟩
  have d1 : (n % 5 == 1) = false := by simpa using c1
  by_cases c2 : n % 5 = 2
  · go_enter Yba.func6, Yba.ntmps6
    go_wp2
    go_ret
    exact ⟨_, rfl, rfl⟩
  have d2 : (n % 5 == 2) = false := by simpa using c2
  by_cases c3 : n % 5 = 3
  · go_enter Yba.func6, Yba.ntmps6
    go_wp2
    go_ret
    exact ⟨_, rfl, rfl⟩
  have d3 : (n % 5 == 3) = false := by simpa using c3
  go_enter Yba.func6, Yba.ntmps6
  go_wp2
  go_ret
  exact ⟨_, rfl, rfl⟩

theorem status_any (n : Int) (s : ByteArray) (w : World) (h0 : 0 ≤ n) (h1 : n ≤ 255) :
    Calls Yba.prog 7 #[.int .u8 n, .string s] w fun e w' => ∃ t : ByteArray, e = .returned (.string t) ∧ w' = w := by
  by_cases c0 : n % 4 = 0
  · go_enter Yba.func7, Yba.ntmps7
    go_wp2
    go_ret
    exact ⟨_, rfl, rfl⟩
  have d0 : (n % 4 == 0) = false := by simpa using c0
  by_cases c1 : n % 4 = 1
  · go_enter Yba.func7, Yba.ntmps7
    go_wp2
    go_ret
    exact ⟨_, rfl, rfl⟩
  have d1 : (n % 4 == 1) = false := by simpa using c1
  by_cases c2 : n % 4 = 2
  · go_enter Yba.func7, Yba.ntmps7
    go_wp2
    go_ret
    exact ⟨_, rfl, rfl⟩
  have d2 : (n % 4 == 2) = false := by simpa using c2
  go_enter Yba.func7, Yba.ntmps7
  go_wp2
  go_ret
  exact ⟨_, rfl, rfl⟩

end Go.Proofs.Ybulkabjg
