/-
  THE WALK OF zzBytes_FnNamesInsertOneClassAnywhere (function 9). By an AI agent.
-/
import Derived.Test.Qxb6629022aRead
namespace Go.Proofs.Qxb6629022a
open Go.RowKit
set_option linter.unusedVariables false

/-! ### zzBytes_FnNamesInsertOneClassAnywhere -/
theorem cell_lt {w : World} {a : Addr} {v : Value} (h : w.cell? a = some v) : a.block < w.heap.size := by
  rcases Nat.lt_or_ge a.block w.heap.size with h1 | h1
  · exact h1
  · simp [World.cell?, Array.getElem?_eq_none h1] at h
def Looked9 (w : World) (b o n el : Nat) (e : Ending) : Prop :=
  e = .returned (.bool false) ∨ (e = .returned (.bool true) ∧ n ≤ 1048576 ∧ Short w b o n ∧ el ≤ 1048576)
theorem looked9_no {w : World} {b o n el : Nat} : Looked9 w b o n el (.returned (.bool false)) := .inl rfl
theorem looked9_yes {w : World} {b o n el : Nat} (h : n ≤ 1048576) (h2 : Short w b o n) (h3 : el ≤ 1048576) : Looked9 w b o n el (.returned (.bool true)) := .inr ⟨rfl, h, h2, h3⟩

set_option maxRecDepth 100000 in
set_option maxHeartbeats 1000000 in
theorem bytes9_any (a : Option Addr) (b o n cap : Nat) (HA : Hid (n = 0 ∨ a = some ⟨b, o, none⟩)) (at0 : Int) (Nm : Nat → ByteArray) (en ec : ByteArray) (ef : Option Addr) (el ecap : Nat) (w : World) (hcap : n ≤ cap) (hm : cap ≤ maxLen) (H : Hid (Cls w b o n Nm)) (hel : el ≤ 9223372036854775807) (HE : Hid (Fees w ef el)) :
    Calls Try.prog 9 #[.slice a n cap, .int .i64 at0, .agg #[.string en, .string ec, .slice ef el ecap]] w fun e w' => Looked9 w b o n el e ∧ Below w.heap.size w w' := by
  unfold maxLen at hm
  have HW : Hid (Below w.heap.size w (w.alloc (.cells #[.string en, .string ec, .slice ef el ecap] 30))) := (Below.refl _ w).alloc (Nat.le_refl _) _
  by_cases hn : 1048576 < n
  · go_enter Try.func9, Try.ntmps9
    go_wp2
    go_ret
    exact ⟨looked9_no, HW.out⟩
  go_enter Try.func9, Try.ntmps9
  go_wp2
  go_loop [7, 8] (fun t i => ∃ (k : Nat) (s : Int), k ≤ n ∧ i = .int .i64 k ∧ t = .int .i64 s ∧ Hid (Short w b o k)) (fun _ i => n - (intOf i).toNat)
  case atStart => exact ⟨0, _, Nat.zero_le _, rfl, rfl, fun i hi => absurd hi (Nat.not_lt_zero i)⟩
  case round =>
    obtain ⟨k, s, hk, rfl, rfl, HS⟩ := hrel
    by_cases hlt : k < n
    · obtain rfl : a = some ⟨b, o, none⟩ := by rcases HA.out with h | h; omega; exact h
      obtain ⟨h1, ⟨cd, h2⟩, f, l, c, h3, hll, h4⟩ := H.out k hlt
      have hbl : b < w.heap.size := cell_lt h1
      rcases h4 with rfl | ⟨fb, fo, rfl, hfs⟩
      · go_wp2
        any_goals (go_ret; exact ⟨looked9_no, HW.out⟩)
        refine wp_loop_rounds 1 ?_
        rw [rounds_succ]
        go_wp2
        go_round
        case rel => exact ⟨k + 1, _, by omega, by go_num, rfl, short_next HS.out h3 (by omega)⟩
        case measure => simp [intOf]; omega
      · have HF : Hid (∀ j, j < l → ∃ s : ByteArray, w.cell? ⟨fb, fo + j, none⟩ = some (.string s)) := hfs
        clear hfs
        by_cases hl20 : 1048576 < l
        · go_wp2
          all_goals (go_ret; exact ⟨looked9_no, HW.out⟩)
        · go_wp2
          any_goals (go_ret; exact ⟨looked9_no, HW.out⟩)
          go_loop [7, 9] (fun t i => ∃ (j : Nat) (s : Int), j ≤ l ∧ i = .int .i64 j ∧ t = .int .i64 s) (fun _ i => l - (intOf i).toNat)
          case atStart => exact ⟨0, _, Nat.zero_le _, rfl, rfl⟩
          case round =>
            obtain ⟨j, s2, hj, rfl, rfl⟩ := hrel
            by_cases hjl : j < l
            · obtain ⟨fs, hfs⟩ := HF.out j hjl
              have hfbl : fb < w.heap.size := cell_lt hfs
              go_wp2
              any_goals (go_ret; exact ⟨looked9_no, HW.out⟩)
              go_round
              case rel => exact ⟨j + 1, _, by omega, by go_num, rfl⟩
              case measure => simp [intOf]; omega
            · go_wp2
              go_round
              case rel => exact ⟨k + 1, _, by omega, by go_num, rfl, short_next HS.out h3 (by omega)⟩
              case measure => simp [intOf]; omega
    · have hkn : k = n := by omega
      have HS2 : Hid (Short w b o n) := hkn ▸ HS
      clear hkn
      by_cases hel20 : 1048576 < el
      · go_wp2
        all_goals (go_ret; exact ⟨looked9_no, HW.out⟩)
      · have h4 := HE.out
        clear HE
        rcases h4 with rfl | ⟨fb, fo, rfl, hfs⟩
        · go_wp2
          any_goals (go_ret; exact ⟨looked9_no, HW.out⟩)
          refine wp_loop_rounds 1 ?_
          rw [rounds_succ]
          go_wp2
          go_ret
          exact ⟨looked9_yes (by omega) HS2.out (by omega), HW.out⟩
        · have HF : Hid (∀ j, j < el → ∃ s : ByteArray, w.cell? ⟨fb, fo + j, none⟩ = some (.string s)) := hfs
          clear hfs
          go_wp2
          any_goals (go_ret; exact ⟨looked9_no, HW.out⟩)
          go_loop [7, 10] (fun t i => ∃ (j : Nat) (s : Int), j ≤ el ∧ i = .int .i64 j ∧ t = .int .i64 s) (fun _ i => el - (intOf i).toNat)
          case atStart => exact ⟨0, _, Nat.zero_le _, rfl, rfl⟩
          case round =>
            obtain ⟨j, s2, hj, rfl, rfl⟩ := hrel
            by_cases hjl : j < el
            · obtain ⟨fs, hfs⟩ := HF.out j hjl
              have hfbl : fb < w.heap.size := cell_lt hfs
              go_wp2
              any_goals (go_ret; exact ⟨looked9_no, HW.out⟩)
              go_round
              case rel => exact ⟨j + 1, _, by omega, by go_num, rfl⟩
              case measure => simp [intOf]; omega
            · go_wp2
              go_ret
              exact ⟨looked9_yes (by omega) HS2.out (by omega), HW.out⟩
end Go.Proofs.Qxb6629022a
