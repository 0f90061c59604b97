/-
  THE WALK OF FnNamesSplitJoinsAndListsEachName (function 3). By an AI agent.
-/
import Derived.Test.Qxb6629022aMake
import Derived.Deep.QuietTactic
import Derived.BigQuiet
namespace Go.Proofs.Qxb6629022a
open Go.RowKit
set_option linter.unusedVariables false

theorem row3_kept {w w' : World} {b o n : Nat} {Nm : Nat → ByteArray} (h : Row3 w b o n Nm) (hb : Below w.heap.size w w') : Row3 w' b o n Nm := by
  intro i hi
  obtain ⟨h0, ⟨s, h1⟩, f, l, c, h2⟩ := h i hi
  exact ⟨by rw [hb.cell (cell_lt h0)]; exact h0, ⟨s, by rw [hb.cell (cell_lt h1)]; exact h1⟩, f, l, c, by rw [hb.cell (cell_lt h2)]; exact h2⟩
theorem row3_take {w : World} {b o n k : Nat} {Nm : Nat → ByteArray} (h : Row3 w b o n Nm) (hk : k ≤ n) : Row3 w b o k Nm := fun i hi => h i (by omega)
theorem row3_drop {w : World} {b o n k : Nat} {Nm : Nat → ByteArray} (h : Row3 w b o n Nm) (hk : k ≤ n) : Row3 w b (o + k * 3) (n - k) (fun i => Nm (k + i)) := by
  intro i hi
  have h1 := h (k + i) (by omega)
  rw [show o + (k + i) * 3 = o + k * 3 + i * 3 by omega] at h1
  exact h1

theorem Try.elem25 : Try.prog.underlying 25 = some (.slice (Try.prog.elem 25)) := by kernel_rfl
theorem Try.sizeOf25 (w : World) : (sizeOf (Try.prog.elem 25)).run Try.prog w = .ok 3 w := by kernel_rfl
/-- 'cs[k:]': where nothing is left the address says nothing. -/
theorem slice_from (B n K : Nat) (hK : K ≤ n) :
    ∃ ra : Option Addr, (n - K = 0 ∨ ra = some ⟨B, 0 + K * 3, none⟩) ∧ ∀ w : World, (Instr.slice 25 (.slice (some ⟨B, 0, none⟩) n n) (some (.int .i64 (K : Int))) none none).run Try.prog w = .ok (.slice ra (n - K) (n - K)) w := by
  refine ⟨if n = K then some ⟨B, 0, none⟩ else some ⟨B, K * 3, none⟩, ?_, fun w => ?_⟩
  · by_cases h : n = K
    · exact .inl (by omega)
    · exact .inr (by rw [if_neg h, Nat.zero_add])
  · rw [run_slice_l (P := Try.prog) (w := w) 25 (some ⟨B, 0, none⟩) n n Try.elem25 .i64 (K : Int) (by omega) (by omega), Try.sizeOf25]
    simp only [Result.andThen, Int.toNat_natCast, sliced]
    congr 1
    by_cases h : n = K
    · simp [h]
    · simp [h, Addr.add]
      omega

set_option maxHeartbeats 1000000 in
theorem split_main (x : Addr) (b o n cap K : Nat) (HA : Hid (n = 0 ∨ x = ⟨b, o, none⟩)) (Nm : Nat → ByteArray) (w : World) (hcap : n ≤ cap) (hm : cap ≤ maxLen) (hK : K ≤ n) (H : Hid (Cls w b o n Nm)) :
    Calls Try.prog 3 #[.slice (some x) n cap, .int .i64 K] w fun e w' => e = .returned (.bool true) ∧ Below w.heap.size w w' := by
  have hb5 : Calls Try.prog 5 #[.slice (some x) n cap, .int .i64 K] w fun e w' => Looked w b o n e ∧ w' = w := by
    rcases HA.out with h | h
    · subst h
      exact (bytes5_none (some x) cap K w).mono fun e w' ⟨he, hw⟩ => ⟨.inr ⟨he, by omega, fun i hi => absurd hi (Nat.not_lt_zero i)⟩, hw⟩
    · subst h; exact bytes5_any b o n cap K Nm w hcap hm H
  have hb6 : Calls Try.prog 6 #[.slice (some x) n cap, .int .i64 0] w fun e w' => (∃ t', e = .returned (.int .i64 t')) ∧ w' = w := by
    rcases HA.out with h | h
    · subst h; exact size_none (some x) cap 0 w
    · subst h; exact size_any b o n cap 0 Nm w hcap hm H
  have H5 : Hid (Calls Try.prog 5 #[.slice (some x) n cap, .int .i64 K] w fun e w' => Looked w b o n e ∧ w' = w) := hb5
  have H6 : Hid (Calls Try.prog 6 #[.slice (some x) n cap, .int .i64 0] w fun e w' => (∃ t', e = .returned (.int .i64 t')) ∧ w' = w) := hb6
  clear hb5 hb6
  unfold maxLen at hm
  go_enter Try.func3, Try.ntmps3
  go_wp2_with fail
  refine H5.out.mono ?_
  rintro e w' ⟨hlook, hw⟩
  have hw := hw.symm
  subst hw
  rcases hlook with rfl | ⟨rfl, hn, hS⟩
  · go_wp2_with fail
    go_ret
    exact ⟨rfl, Below.refl _ _⟩
  have HS : Hid (Short w b o n) := hS
  clear hS
  go_wp2_with fail
  refine H6.out.mono ?_
  rintro e w' ⟨⟨t, rfl⟩, hw⟩
  have hw := hw.symm
  subst hw
  clear H5 H6
  have hk0 : decide ((K : Int) < 0) = false := by simp
  by_cases ht : 1048576 < t
  · go_wp2_with fail
    go_ret
    exact ⟨rfl, Below.refl _ _⟩
  go_wp2_with fail
  refine (classes_some x b o n cap HA Nm w hn H HS).mono ?_
  rintro e w1 ⟨rfl, hF, hB⟩
  have HR1 : Hid (Row3 w1 w.heap.size 0 n Nm) := fills_row hF
  have HB1 : Hid (Below w.heap.size w w1) := hB
  clear hF hB
  go_wp2_with fail
  refine (names_any _ w.heap.size 0 n n (.inr rfl) Nm w1 (by omega) HR1).mono ?_
  rintro e w2 ⟨rfl, hr2, hb2⟩
  have HR2 : Hid (Row3 w2 w.heap.size 0 n Nm) := row3_kept HR1.out hb2
  have HB2 : Hid (Below w1.heap.size w1 w2) := hb2
  have HN2 : Hid (w2.rowIs w1.heap.size 9 n (fun i => .string (Nm i))) := hr2
  clear hr2 hb2
  go_wp2_with fail
  refine (names_any _ w.heap.size 0 K n (.inr rfl) Nm w2 (by omega) (row3_take HR2.out hK)).mono ?_
  rintro e w3 ⟨rfl, hr3, hb3⟩
  have HR3 : Hid (Row3 w3 w.heap.size 0 n Nm) := row3_kept HR2.out hb3
  have HB3 : Hid (Below w2.heap.size w2 w3) := hb3
  have HN3 : Hid (w3.rowIs w2.heap.size 9 K (fun i => .string (Nm i))) := hr3
  clear hr3 hb3
  obtain ⟨ra, hra, hsl⟩ := slice_from w.heap.size n K hK
  have HRA : Hid (n - K = 0 ∨ ra = some ⟨w.heap.size, 0 + K * 3, none⟩) := hra
  clear hra
  go_wp2_with fail
  refine (names_any ra w.heap.size (0 + K * 3) (n - K) (n - K) HRA (fun i => Nm (K + i)) w3 (by omega) (row3_drop HR3.out hK)).mono ?_
  rintro e w4 ⟨rfl, hr4, hb4⟩
  clear hsl
  -- what the last loop reads
  have hs1 := HB1.out.size
  have hs2 := HB2.out.size
  have hs3 := HB3.out.size
  have hB4 : Below w.heap.size w w4 := ((HB1.out.trans (HB2.out.mono hs1)).trans (HB3.out.mono (by omega))).trans (hb4.mono (by omega))
  have HB4 : Hid (Below w.heap.size w w4) := hB4
  have HNw : Hid (w4.rowIs w1.heap.size 9 n (fun i => .string (Nm i))) := (HN2.out.of_block (HB3.out.block _ HN2.out.lt)).of_block (hb4.block _ (by have := HN2.out.lt; omega))
  have HNl : Hid (w4.rowIs w2.heap.size 9 K (fun i => .string (Nm i))) := HN3.out.of_block (hb4.block _ HN3.out.lt)
  have HNr : Hid (w4.rowIs w3.heap.size 9 (n - K) (fun i => .string (Nm (K + i)))) := hr4
  clear hr4 hb4 hB4 hs1 hs2 hs3 HR1 HR2 HR3 HB1 HB2 HB3 HN2 HN3
  have hnk : (((n - K : Nat) : Int) != (n : Int) - (K : Int)) = false := by rw [bne_eq_false_iff_eq]; omega
  go_wp2_with fail
  clear hnk
  go_loopw [9] (fun i wr => ∃ j : Nat, j ≤ n ∧ i = .int .i64 j ∧ ∃ m, wr = w4.drewN m) (fun i _ => n - (intOf i).toNat)
  case atStart => exact ⟨0, Nat.zero_le _, rfl, 0, rfl⟩
  case round =>
    obtain ⟨j, hj, rfl, m, rfl⟩ := hrel
    by_cases hlt : j < n
    · obtain rfl : x = ⟨b, o, none⟩ := by rcases HA.out with h | h; omega; exact h
      obtain ⟨h1, _⟩ := H.out j hlt
      have hcc : w4.cell? ⟨b, o + j * 3, none⟩ = some (.string (Nm j)) := by rw [HB4.out.cell (cell_lt h1)]; exact h1
      have hcw := HNw.out.cell hlt
      have hi1 : (j : Int) < (n : Int) := by omega
      clear h1
      by_cases hjk : j < K
      · have hcl := HNl.out.cell hjk
        have hi2 : (j : Int) < (K : Int) := by omega
        go_wp2_with fail
        go_quiet (fail)
        go_wp2_with fail
        go_quiet (fail)
        go_wp2_with fail
        go_roundw
        case rel => exact ⟨j + 1, by omega, by go_num, _, rfl⟩
        case measure => simp [intOf]; omega
      · have hcr : w4.cell? ⟨w3.heap.size, j - K, none⟩ = some (.string (Nm j)) := by
          have := HNr.out.cell (i := j - K) (by omega)
          rwa [show K + (j - K) = j by omega] at this
        have hi2 : (K : Int) ≤ (j : Int) := by omega
        have hi3 : (j : Int) - (K : Int) < ((n - K : Nat) : Int) := by omega
        go_wp2_with fail
        go_quiet (fail)
        go_wp2_with fail
        go_quiet (fail)
        go_wp2_with fail
        go_roundw
        case rel => exact ⟨j + 1, by omega, by go_num, _, rfl⟩
        case measure => simp [intOf]; omega
    · go_wp2_with fail
      go_ret
      exact ⟨rfl, below_drewN HB4.out m⟩

/-- The two looks at whatever slice came in. -/
theorem look5 (a : Option Addr) (b o n cap : Nat) (HA : n = 0 ∨ a = some ⟨b, o, none⟩) (k : Int) (Nm : Nat → ByteArray) (w : World) (hcap : n ≤ cap) (hm : cap ≤ maxLen) (H : Cls w b o n Nm) :
    Calls Try.prog 5 #[.slice a n cap, .int .i64 k] w fun e w' => Looked w b o n e ∧ w' = w := by
  rcases HA with h | h
  · subst h
    exact (bytes5_none a cap k w).mono fun e w' ⟨he, hw⟩ => ⟨.inr ⟨he, by omega, fun i hi => absurd hi (Nat.not_lt_zero i)⟩, hw⟩
  · subst h; exact bytes5_any b o n cap k Nm w hcap hm H
theorem look6 (a : Option Addr) (b o n cap : Nat) (HA : n = 0 ∨ a = some ⟨b, o, none⟩) (t : Int) (Nm : Nat → ByteArray) (w : World) (hcap : n ≤ cap) (hm : cap ≤ maxLen) (H : Cls w b o n Nm) :
    Calls Try.prog 6 #[.slice a n cap, .int .i64 t] w fun e w' => (∃ t', e = .returned (.int .i64 t')) ∧ w' = w := by
  rcases HA with h | h
  · subst h; exact size_none a cap t w
  · subst h; exact size_any b o n cap t Nm w hcap hm H

set_option maxHeartbeats 400000 in
/-- A cut outside the list: let by. -/
theorem split_out (a : Option Addr) (b o n cap : Nat) (HA : Hid (n = 0 ∨ a = some ⟨b, o, none⟩)) (k : Int) (Nm : Nat → ByteArray) (w : World) (hcap : n ≤ cap) (hm : cap ≤ maxLen) (H : Hid (Cls w b o n Nm)) (hk : k < 0 ∨ (n : Int) < k) :
    Calls Try.prog 3 #[.slice a n cap, .int .i64 k] w fun e w' => e = .returned (.bool true) ∧ w' = w := by
  have hm' : cap ≤ 9223372036854775807 := by unfold maxLen at hm; omega
  have HM : Hid (cap ≤ maxLen) := hm
  clear hm
  rcases hk with hk | hk
  · have hk0 : decide (k < 0) = true := by simpa using hk
    go_enter Try.func3, Try.ntmps3
    go_wp2_with fail
    refine (look5 a b o n cap HA.out k Nm w hcap HM.out H.out).mono ?_
    rintro e w' ⟨hlook, hw⟩
    have hw := hw.symm
    subst hw
    rcases hlook with rfl | ⟨rfl, hn, hS⟩
    · go_wp2_with fail
      go_ret
      exact ⟨rfl, rfl⟩
    clear hS
    go_wp2_with fail
    refine (look6 a b o n cap HA.out 0 Nm w hcap HM.out H.out).mono ?_
    rintro e w' ⟨⟨t, rfl⟩, hw⟩
    have hw := hw.symm
    subst hw
    by_cases ht : 1048576 < t
    · go_wp2_with fail
      go_ret
      exact ⟨rfl, rfl⟩
    · go_wp2_with fail
      go_ret
      exact ⟨rfl, rfl⟩
  · have hk0 : decide (k < 0) = false := by simp; omega
    go_enter Try.func3, Try.ntmps3
    go_wp2_with fail
    refine (look5 a b o n cap HA.out k Nm w hcap HM.out H.out).mono ?_
    rintro e w' ⟨hlook, hw⟩
    have hw := hw.symm
    subst hw
    rcases hlook with rfl | ⟨rfl, hn, hS⟩
    · go_wp2_with fail
      go_ret
      exact ⟨rfl, rfl⟩
    clear hS
    go_wp2_with fail
    refine (look6 a b o n cap HA.out 0 Nm w hcap HM.out H.out).mono ?_
    rintro e w' ⟨⟨t, rfl⟩, hw⟩
    have hw := hw.symm
    subst hw
    by_cases ht : 1048576 < t
    · go_wp2_with fail
      go_ret
      exact ⟨rfl, rfl⟩
    · go_wp2_with fail
      go_ret
      exact ⟨rfl, rfl⟩

/-- fund.Names of the empty list. -/
theorem names_none (a : Option Addr) (cap : Nat) (w : World) :
    Calls Try.prog 8 #[.slice a 0 cap] w fun e w' => e = .returned (.slice (some ⟨w.heap.size, 0, none⟩) 0 0) ∧ Below w.heap.size w w' :=
  (names_any a 0 0 0 cap (.inl rfl) (fun _ => ByteArray.empty) w (by omega) (fun i hi => absurd hi (Nat.not_lt_zero i))).mono fun e w' h => ⟨h.1, h.2.2⟩

set_option maxHeartbeats 400000 in
/-- The nil list. -/
theorem split_nil (w : World) :
    Calls Try.prog 3 #[.slice none 0 0, .int .i64 0] w fun e w' => e = .returned (.bool true) ∧ Below w.heap.size w w' := by
  go_enter Try.func3, Try.ntmps3
  go_wp2_with fail
  refine (bytes5_none none 0 0 w).mono ?_
  rintro e w' ⟨rfl, hw⟩
  have hw := hw.symm
  subst hw
  go_wp2_with fail
  refine (size_none none 0 0 w).mono ?_
  rintro e w' ⟨⟨t, rfl⟩, hw⟩
  have hw := hw.symm
  subst hw
  by_cases ht : 1048576 < t
  · go_wp2_with fail
    go_ret
    exact ⟨rfl, Below.refl _ _⟩
  go_wp2_with fail
  refine (classes_nil 0 0 w).mono ?_
  rintro e w' ⟨rfl, hw⟩
  have hw := hw.symm
  subst hw
  go_wp2_with fail
  refine (names_none none 0 w).mono ?_
  rintro e w1 ⟨rfl, hb1⟩
  have H1 : Hid (Below w.heap.size w w1) := hb1
  clear hb1
  go_wp2_with fail
  refine (names_none none 0 w1).mono ?_
  rintro e w2 ⟨rfl, hb2⟩
  have H2 : Hid (Below w1.heap.size w1 w2) := hb2
  clear hb2
  go_wp2_with fail
  refine (names_none none 0 w2).mono ?_
  rintro e w3 ⟨rfl, hb3⟩
  have H3 : Hid (Below w.heap.size w w3) := by
    have s1 := H1.out.size
    have s2 := H2.out.size
    exact (H1.out.trans (H2.out.mono s1)).trans (hb3.mono (by omega))
  clear hb3
  go_wp2_with fail
  refine wp_loop_rounds 1 ?_
  rw [rounds_succ]
  go_wp2_with fail
  go_ret
  exact ⟨rfl, H3.out⟩

/-- What is known of a list of classes that came in. -/
def Came (w : World) (a : Option Addr) (n cap : Nat) : Prop :=
  (a = none ∧ n = 0 ∧ cap = 0) ∨ ∃ x b o Nm, a = some x ∧ (n = 0 ∨ x = ⟨b, o, none⟩) ∧ n ≤ cap ∧ cap ≤ maxLen ∧ Cls w b o n Nm

theorem here {n : Nat} {x y : Addr} (h : n = 0 ∨ x = y) : n = 0 ∨ some x = some y := by
  rcases h with h | h
  · exact .inl h
  · exact .inr (by rw [h])

/-- The law, at every input. -/
theorem split_any (a : Option Addr) (n cap : Nat) (k : Int) (w : World) (h : Came w a n cap) :
    Calls Try.prog 3 #[.slice a n cap, .int .i64 k] w fun e w' => e = .returned (.bool true) ∧ Below w.heap.size w w' := by
  rcases h with ⟨rfl, rfl, rfl⟩ | ⟨x, b, o, Nm, rfl, hx, hcap, hm, hC⟩
  · by_cases hk : k = 0
    · subst hk; exact split_nil w
    · exact (split_out none 0 0 0 0 (.inl rfl) k (fun _ => ByteArray.empty) w (by omega) (by unfold maxLen; omega) (fun i hi => absurd hi (Nat.not_lt_zero i)) (by omega)).mono
        fun e w' ⟨he, hw⟩ => ⟨he, hw ▸ Below.refl _ _⟩
  · by_cases hk : k < 0 ∨ (n : Int) < k
    · exact (split_out (some x) b o n cap (here hx) k Nm w hcap hm hC hk).mono fun e w' ⟨he, hw⟩ => ⟨he, hw ▸ Below.refl _ _⟩
    · obtain ⟨K, rfl⟩ := Int.eq_ofNat_of_zero_le (show 0 ≤ k by omega)
      exact split_main x b o n cap K hx Nm w hcap hm (by omega) hC
end Go.Proofs.Qxb6629022a
