/-
  THE WALKS OF padding.Len (function 5), at sizes that are not negative and blocks from 1 on: no road to fmt. By an AI agent.
-/
import Derived.Test.Qxb6628719aFmtRows
import Derived.WalkKit
import Derived.WalkSpells
import Derived.WalkLawsBesides
namespace Go.Proofs.Qxb6628719aFmt
open Go.RowKit
set_option linter.unusedVariables false

/-- The unbounded pad. -/
def pad (s b : Int) : Int := if (s + 4) % b = 0 then 0 else b - (s + 4) % b
theorem pad_zero {s b : Int} (h : (s + 4) % b = 0) : pad s b = 0 := by simp [pad, h]
theorem pad_more {s b : Int} (h : (s + 4) % b ≠ 0) : pad s b = b - (s + 4) % b := by simp [pad, h]

theorem len_low (size block limit : Int) (w : World) (hb : 1 ≤ block) (hs : 0 ≤ size) (h : limit < size) :
    Calls Tryf.prog 5 #[.int .i64 size, .int .i64 block, .int .i64 limit] w fun e w' => e = .returned (.tuple #[.int .i64 0, .bool false]) ∧ w' = w := by
  have h1 : decide (limit < size) = true := by simpa using h
  go_enter Tryf.func5, Tryf.ntmps5
  go_wp2
  go_ret2
  exact ⟨rfl, rfl⟩
theorem len_tight (size block limit : Int) (w : World) (hb : 1 ≤ block) (hs : 0 ≤ size) (hl : limit ≤ 9223372036854775807) (h1 : size ≤ limit) (h2 : limit < size + 4) :
    Calls Tryf.prog 5 #[.int .i64 size, .int .i64 block, .int .i64 limit] w fun e w' => e = .returned (.tuple #[.int .i64 0, .bool false]) ∧ w' = w := by
  have h3 : decide (limit < size) = false := by simp; omega
  go_enter Tryf.func5, Tryf.ntmps5
  go_wp2
  go_ret2
  exact ⟨rfl, rfl⟩
theorem ret_two {a b : Int} (h : a = b) : Ending.returned (.tuple #[.int .i64 a, .bool true]) = .returned (.tuple #[.int .i64 b, .bool true]) := by rw [h]
set_option maxHeartbeats 400000 in
theorem len_room (size block limit m : Int) (w : World) (hb : 1 ≤ block) (hb2 : block ≤ 536870912) (hs : 0 ≤ size) (hs2 : size ≤ 1073741824) (hl : limit ≤ 9223372036854775807) (h1 : size + 4 ≤ limit)
    (hm : Hid ((pad size block ≤ limit - size - 4 ∧ m = pad size block) ∨ (limit - size - 4 ≤ pad size block ∧ m = limit - size - 4))) :
    Calls Tryf.prog 5 #[.int .i64 size, .int .i64 block, .int .i64 limit] w fun e w' => e = .returned (.tuple #[.int .i64 m, .bool true]) ∧ w' = w := by
  have h3 : decide (limit < size) = false := by simp; omega
  by_cases hr : (size + 4) % block = 0
  · have hr' : ((size + 4) % block != 0) = false := by simpa using hr
    have HP : Hid (pad size block = 0) := pad_zero hr
    clear hr
    go_enter Tryf.func5, Tryf.ntmps5
    go_wp2
    all_goals
      go_ret2
      exact ⟨ret_two (by have h5 := hm.out; have h6 := HP.out; omega), rfl⟩
  · have hr' : ((size + 4) % block != 0) = true := by simpa using hr
    have HP : Hid (pad size block = block - (size + 4) % block) := pad_more hr
    have hp := Int.emod_nonneg (size + 4) (show block ≠ 0 by omega)
    have hp2 := Int.emod_lt_of_pos (size + 4) (show 0 < block by omega)
    clear hr
    go_enter Tryf.func5, Tryf.ntmps5
    go_wp2
    all_goals
      go_ret2
      exact ⟨ret_two (by have h5 := hm.out; have h6 := HP.out; omega), rfl⟩

/-! ### The plain law of the pad -/
theorem pad_bd {s b : Int} (hb : 1 ≤ b) : 0 ≤ pad s b ∧ pad s b < b := by
  have hp := Int.emod_nonneg (s + 4) (show b ≠ 0 by omega)
  have hp2 := Int.emod_lt_of_pos (s + 4) (show 0 < b by omega)
  unfold pad
  split <;> omega
theorem pad_whole {s b : Int} (hb : 1 ≤ b) : (s + 4 + pad s b) % b = 0 := by
  unfold pad
  split
  · simpa using ‹(s + 4) % b = 0›
  · have e : s + 4 + (b - (s + 4) % b) = b * ((s + 4) / b) + b := by
      have := Int.mul_ediv_add_emod (s + 4) b
      omega
    rw [e]
    simp
theorem pad_shift {s b : Int} : pad (s + b) b = pad s b := by
  unfold pad
  have e : (s + b + 4) % b = (s + 4) % b := by
    rw [show s + b + 4 = s + 4 + b by omega]
    simp
  rw [e]
end Go.Proofs.Qxb6628719aFmt
