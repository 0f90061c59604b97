/-
  THE WALKS OF THE FUNCTIONS THAT ONLY LOOK: zzBytes.. (functions 5 and 9) and zzb1ClassesSize (function 6). By an AI agent.
-/
import Derived.Test.Qxb6629022aRows
import Derived.WalkKit
import Derived.WalkSpells
import Derived.WalkLawsBesides
import Derived.Deep.OwnRows
namespace Go.Proofs.Qxb6629022a
open Go.RowKit
set_option linter.unusedVariables false

/-- A row of l strings behind a slice's address. -/
def Fees (w : World) (f : Option Addr) (l : Nat) : Prop :=
  l = 0 ∨ ∃ b o, f = some ⟨b, o, none⟩ ∧ ∀ j, j < l → ∃ s : ByteArray, w.cell? ⟨b, o + j, none⟩ = some (.string s)

/-- n structs of three cells each: a name, a code, a slice of strings. -/
def Cls (w : World) (b o n : Nat) (Nm : Nat → ByteArray) : Prop :=
  ∀ i, i < n → w.cell? ⟨b, o + i * 3, none⟩ = some (.string (Nm i)) ∧ (∃ s : ByteArray, w.cell? ⟨b, o + i * 3 + 1, none⟩ = some (.string s)) ∧
    ∃ f l c, w.cell? ⟨b, o + i * 3 + 2, none⟩ = some (.slice f l c) ∧ l ≤ 9223372036854775807 ∧ Fees w f l

/-- No struct bears more fees than this. -/
def Short (w : World) (b o n : Nat) : Prop :=
  ∀ i, i < n → ∀ f l c, w.cell? ⟨b, o + i * 3 + 2, none⟩ = some (.slice f l c) → l ≤ 1048576

/-! ### zzb1ClassesSize -/
theorem size_none (a : Option Addr) (cap : Nat) (t : Int) (w : World) :
    Calls Try.prog 6 #[.slice a 0 cap, .int .i64 t] w fun e w' => (∃ t', e = .returned (.int .i64 t')) ∧ w' = w := by
  go_enter Try.func6, Try.ntmps6
  go_wp2
  refine wp_loop_rounds 1 ?_
  rw [rounds_succ]
  go_wp2
  go_ret
  exact ⟨⟨_, rfl⟩, rfl⟩

set_option maxRecDepth 100000 in
set_option maxHeartbeats 1000000 in
theorem size_any (b o n cap : Nat) (t : Int) (Nm : Nat → ByteArray) (w : World) (hcap : n ≤ cap) (hm : cap ≤ maxLen) (H : Hid (Cls w b o n Nm)) :
    Calls Try.prog 6 #[.slice (some ⟨b, o, none⟩) n cap, .int .i64 t] w fun e w' => (∃ t', e = .returned (.int .i64 t')) ∧ w' = w := by
  unfold maxLen at hm
  go_enter Try.func6, Try.ntmps6
  go_wp2
  go_loop [1, 5] (fun t i => ∃ (k : Nat) (s : Int), k ≤ n ∧ i = .int .i64 k ∧ t = .int .i64 s) (fun _ i => n - (intOf i).toNat)
  case atStart => exact ⟨0, _, Nat.zero_le _, rfl, rfl⟩
  case round =>
    obtain ⟨k, s, hk, rfl, rfl⟩ := hrel
    by_cases hlt : k < n
    · obtain ⟨h1, ⟨cd, h2⟩, f, l, c, h3, hll, h4⟩ := H.out k hlt
      rcases h4 with rfl | ⟨fb, fo, rfl, hfs⟩
      · go_wp2
        · go_ret
          exact ⟨⟨_, rfl⟩, rfl⟩
        · go_ret
          exact ⟨⟨_, rfl⟩, rfl⟩
        · refine wp_loop_rounds 1 ?_
          rw [rounds_succ]
          go_wp2
          go_round
          case rel => exact ⟨k + 1, _, by omega, by go_num, rfl⟩
          case measure => simp [intOf]; omega
      · have HF : Hid (∀ j, j < l → ∃ s : ByteArray, w.cell? ⟨fb, fo + j, none⟩ = some (.string s)) := hfs
        clear hfs
        go_wp2
        · go_ret
          exact ⟨⟨_, rfl⟩, rfl⟩
        · go_ret
          exact ⟨⟨_, rfl⟩, rfl⟩
        · go_loop [1, 7] (fun t i => ∃ (j : Nat) (s : Int), j ≤ l ∧ i = .int .i64 j ∧ t = .int .i64 s) (fun _ i => l - (intOf i).toNat)
          case atStart => exact ⟨0, _, Nat.zero_le _, rfl, rfl⟩
          case round =>
            obtain ⟨j, s2, hj, rfl, rfl⟩ := hrel
            by_cases hjl : j < l
            · obtain ⟨fs, hfs⟩ := HF.out j hjl
              go_wp2
              · go_ret
                exact ⟨⟨_, rfl⟩, rfl⟩
              · go_round
                case rel => exact ⟨j + 1, _, by omega, by go_num, rfl⟩
                case measure => simp [intOf]; omega
            · go_wp2
              go_round
              case rel => exact ⟨k + 1, _, by omega, by go_num, rfl⟩
              case measure => simp [intOf]; omega
    · go_wp2
      go_ret
      exact ⟨⟨_, rfl⟩, rfl⟩

/-! ### zzBytes_FnNamesSplitJoinsAndListsEachName -/
/-- What a look at the lengths ends in. -/
def Looked (w : World) (b o n : Nat) (e : Ending) : Prop :=
  e = .returned (.bool false) ∨ (e = .returned (.bool true) ∧ n ≤ 1048576 ∧ Short w b o n)
theorem looked_no {w : World} {b o n : Nat} : Looked w b o n (.returned (.bool false)) := .inl rfl
theorem looked_yes {w : World} {b o n : Nat} (h : n ≤ 1048576) (h2 : Short w b o n) : Looked w b o n (.returned (.bool true)) := .inr ⟨rfl, h, h2⟩
theorem short_next {w : World} {b o k : Nat} {f : Option Addr} {l c : Nat} (h : Short w b o k) (hc : w.cell? ⟨b, o + k * 3 + 2, none⟩ = some (.slice f l c)) (hl : l ≤ 1048576) : Short w b o (k + 1) := by
  intro i hi f' l' c' h'
  by_cases e : i = k
  · subst e
    rw [hc] at h'
    cases h'
    exact hl
  · exact h i (by omega) f' l' c' h'

theorem bytes5_none (a : Option Addr) (cap : Nat) (k : Int) (w : World) :
    Calls Try.prog 5 #[.slice a 0 cap, .int .i64 k] w fun e w' => e = .returned (.bool true) ∧ w' = w := by
  go_enter Try.func5, Try.ntmps5
  go_wp2
  refine wp_loop_rounds 1 ?_
  rw [rounds_succ]
  go_wp2
  go_ret
  exact ⟨rfl, rfl⟩

set_option maxRecDepth 100000 in
set_option maxHeartbeats 1000000 in
theorem bytes5_any (b o n cap : Nat) (at0 : Int) (Nm : Nat → ByteArray) (w : World) (hcap : n ≤ cap) (hm : cap ≤ maxLen) (H : Hid (Cls w b o n Nm)) :
    Calls Try.prog 5 #[.slice (some ⟨b, o, none⟩) n cap, .int .i64 at0] w fun e w' => Looked w b o n e ∧ w' = w := by
  unfold maxLen at hm
  by_cases hn : 1048576 < n
  · go_enter Try.func5, Try.ntmps5
    go_wp2
    go_ret
    exact ⟨looked_no, rfl⟩
  go_enter Try.func5, Try.ntmps5
  go_wp2
  go_loop [5, 6] (fun t i => ∃ (k : Nat) (s : Int), k ≤ n ∧ i = .int .i64 k ∧ t = .int .i64 s ∧ Hid (Short w b o k)) (fun _ i => n - (intOf i).toNat)
  case atStart => exact ⟨0, _, Nat.zero_le _, rfl, rfl, fun i hi => absurd hi (Nat.not_lt_zero i)⟩
  case round =>
    obtain ⟨k, s, hk, rfl, rfl, HS⟩ := hrel
    by_cases hlt : k < n
    · obtain ⟨h1, ⟨cd, h2⟩, f, l, c, h3, hll, h4⟩ := H.out k hlt
      rcases h4 with rfl | ⟨fb, fo, rfl, hfs⟩
      · go_wp2
        any_goals (go_ret; exact ⟨looked_no, rfl⟩)
        refine wp_loop_rounds 1 ?_
        rw [rounds_succ]
        go_wp2
        go_round
        case rel => exact ⟨k + 1, _, by omega, by go_num, rfl, short_next HS.out h3 (by omega)⟩
        case measure => simp [intOf]; omega
      · have HF : Hid (∀ j, j < l → ∃ s : ByteArray, w.cell? ⟨fb, fo + j, none⟩ = some (.string s)) := hfs
        clear hfs
        by_cases hl20 : 1048576 < l
        · go_wp2
          all_goals (go_ret; exact ⟨looked_no, rfl⟩)
        · go_wp2
          any_goals (go_ret; exact ⟨looked_no, rfl⟩)
          go_loop [5, 7] (fun t i => ∃ (j : Nat) (s : Int), j ≤ l ∧ i = .int .i64 j ∧ t = .int .i64 s) (fun _ i => l - (intOf i).toNat)
          case atStart => exact ⟨0, _, Nat.zero_le _, rfl, rfl⟩
          case round =>
            obtain ⟨j, s2, hj, rfl, rfl⟩ := hrel
            by_cases hjl : j < l
            · obtain ⟨fs, hfs⟩ := HF.out j hjl
              go_wp2
              any_goals (go_ret; exact ⟨looked_no, rfl⟩)
              go_round
              case rel => exact ⟨j + 1, _, by omega, by go_num, rfl⟩
              case measure => simp [intOf]; omega
            · go_wp2
              go_round
              case rel => exact ⟨k + 1, _, by omega, by go_num, rfl, short_next HS.out h3 (by omega)⟩
              case measure => simp [intOf]; omega
    · have hkn : k = n := by omega
      subst hkn
      go_wp2
      go_ret
      exact ⟨looked_yes (by omega) HS.out, rfl⟩
end Go.Proofs.Qxb6629022a
